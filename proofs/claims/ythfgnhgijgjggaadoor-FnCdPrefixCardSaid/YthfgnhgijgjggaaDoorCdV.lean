/- FnCdByte's walk: with one byte changed an identifier's bytes are none, or another one's. -/
import Derived.Test.YthfgnhgijgjggaaDoorCdU
import Derived.Laws.BitsAllLaws
import Derived.Laws.BitsLemmas
namespace Go.Proofs.YthfgnhgijgjggaaDoor
open Go.RowKit

theorem u8_xor (a b : UInt8) : bits .xor .u8 (a.toNat : Int) (b.toNat : Int) = ((a ^^^ b).toNat : Int) := by
  have ha : a.toNat < 256 := UInt8.toNat_lt _
  have hb : b.toNat < 256 := UInt8.toNat_lt _
  have hx : a.toNat ^^^ b.toNat < 2 ^ 8 := Nat.xor_lt_two_pow (by omega) (by omega)
  have e : ∀ n : Nat, n < 256 → (BitVec.ofInt 8 (n : Int)).toNat = n := fun n hn => by
    rw [BitVec.ofInt_natCast, BitVec.toNat_ofNat]; exact Nat.mod_eq_of_lt (by omega)
  rw [UInt8.toNat_xor]
  show IntKind.u8.wrap ((BitVec.ofInt 8 (a.toNat : Int) ^^^ BitVec.ofInt 8 (b.toNat : Int)).toNat : Int) = _
  rw [BitVec.toNat_xor, e _ ha, e _ hb]
  exact IntWalk.u8_in _ (by omega)

theorem u8_xor_ne (a b : UInt8) (hb : b ≠ 0) : a ^^^ b ≠ a := by
  intro h
  apply hb
  have h2 := congrArg (a ^^^ ·) h
  simp only [← UInt8.xor_assoc, UInt8.xor_self, UInt8.zero_xor] at h2
  exact h2

/-- '[]byte(s)', a row of the call's own that may be written. -/
theorem conv_own (w : World) (s : ByteArray) : ∃ c w1, (convert 9 43 (.string s)).run Tryd.prog w = .ok (.slice (some ⟨w.heap.size, 0, none⟩) s.size c) w1 ∧ s.size ≤ c ∧ Below w.heap.size w w1 ∧ w1.heap.size = w.heap.size + 1 ∧
    (∀ j, j < s.size → w1.frozen? ⟨w.heap.size, j, none⟩ = false) ∧ ∀ j (h : j < s.data.toList.length), w1.cell? ⟨w.heap.size, j, none⟩ = some (.int .u8 (s.data.toList[j].toNat)) := by
  refine ⟨_, _, Lib.run_convert_string_bytes w _ _ 5 s Tryd.underlying9 Tryd.underlying43 Tryd.underlying5, grownCap_ge _ _ _ _, ?_, Lib.bytesWorld_size w _ s, ?_, ?_⟩
  · obtain ⟨c, w1, h1, h2, h3, _⟩ := conv_bytes (P := Tryd.prog) Tryd.underlying9 Tryd.underlying43 Tryd.underlying5 w s
    rw [Lib.run_convert_string_bytes w _ _ 5 s Tryd.underlying9 Tryd.underlying43 Tryd.underlying5] at h1
    injection h1 with _ h1
    rw [h1]; exact h3
  · intro j hj
    have hsz : s.size ≤ (Lib.bytesCells w 5 s).size := by
      have hc := Lib.bytesWorld_cell w 5 s (s.size - 1) (by omega)
      simp only [World.cell?, Lib.bytesWorld_at_new] at hc
      have := (Array.getElem?_eq_some_iff.1 hc).1
      omega
    simp only [World.frozen?, Lib.bytesWorld_at_new]
    simp
    omega
  · intro j hj
    rw [Lib.bytesWorld_cell w _ s j (by rw [← ba_len]; exact hj)]
    rw [List.getD, List.getElem?_eq_getElem hj]; rfl
end Go.Proofs.YthfgnhgijgjggaaDoor
