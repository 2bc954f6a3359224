/- Contracts of package cid: Version, Defined, KeyString, Bytes, Equals, uvarint of a string. -/
import Derived.Test.YthfgnhgijgjggaaDoorUvA
import Derived.Test.YthfgnhgijgjggaaDoorMem
import Derived.Test.YthfgnhgijgjggaaDoorCidPlain
namespace Go.Proofs.YthfgnhgijgjggaaDoor
open Go.RowKit

section
variable {P : Program}
/-- 's[i]' of a string. -/
theorem idx_ba {t : TypeId} (ht : P.underlying t = some .string) (s : ByteArray) (i : Nat) (c : UInt8) (h : s.data.toList[i]? = some c) (x : Int) (hx : x = i) (W : World) :
    (Instr.index t (.string s) (.int .i64 x)).run P W = .ok (.int .u8 (c.toNat : Int)) W := by
  have h2 := idx_str (P := P) ht s.data.toList i c h x hx W
  rw [ba_mk] at h2
  exact h2
end

theorem get_some {s : ByteArray} {i : Nat} (h : i < s.size) : ∃ c : UInt8, s.data.toList[i]? = some c := by
  have : i < s.data.toList.length := by rw [ba_len]; exact h
  exact ⟨_, List.getElem?_eq_getElem this⟩

set_option maxRecDepth 100000 in
set_option maxHeartbeats 1000000 in
theorem cdVer0 (s : ByteArray) (w : World) (hs : s.size = 34) (hz : cidZero s.data.toList) :
    Calls Tryd.prog 78 #[.agg #[.string s]] w fun e w' => e = .returned (.int .u64 0) ∧ Below w.heap.size w w' := by
  obtain ⟨_, h0, h1⟩ := hz
  have i0 := fun W => idx_ba (P := Tryd.prog) Tryd.underlying9 s 0 18 h0 0 rfl W
  have i1 := fun W => idx_ba (P := Tryd.prog) Tryd.underlying9 s 1 32 h1 1 rfl W
  have hsz : ((s.size : Int) == 34) = true := by rw [hs]; rfl
  clear h0 h1 hs
  go_enter Tryd.func78, Tryd.ntmps78
  go_wp2
  go_ret
  exact ⟨rfl, (Below.refl _ _).alloc (Nat.le_refl _) _⟩

set_option maxRecDepth 100000 in
set_option maxHeartbeats 1000000 in
theorem cdVer1 (s : ByteArray) (w : World) (hz : ¬ (s.size = 34 ∧ cidZero s.data.toList)) :
    Calls Tryd.prog 78 #[.agg #[.string s]] w fun e w' => e = .returned (.int .u64 1) ∧ Below w.heap.size w w' := by
  by_cases hs : s.size = 34
  · obtain ⟨c, h0⟩ := get_some (s := s) (i := 0) (by omega)
    obtain ⟨d, h1⟩ := get_some (s := s) (i := 1) (by omega)
    have i0 := fun W => idx_ba (P := Tryd.prog) Tryd.underlying9 s 0 c h0 0 rfl W
    have i1 := fun W => idx_ba (P := Tryd.prog) Tryd.underlying9 s 1 d h1 1 rfl W
    have hsz : ((s.size : Int) == 34) = true := by rw [hs]; rfl
    have hl : s.data.toList.length = 34 := by rw [ba_len]; exact hs
    by_cases hc : c = 18
    · have hd : ¬ d = 32 := fun hd => hz ⟨hs, by rw [hl]; omega, by rw [h0, hc], by rw [h1, hd]⟩
      subst hc
      have hd' : ((d.toNat : Int) == 32) = false := by
        rw [beq_eq_false_iff_ne]; intro e; exact hd (UInt8.toNat_inj.1 (by show d.toNat = 32; omega))
      clear h0 h1 hs hz hl hd
      go_enter Tryd.func78, Tryd.ntmps78
      go_wp2
      go_ret
      exact ⟨rfl, (Below.refl _ _).alloc (Nat.le_refl _) _⟩
    · have hc' : ((c.toNat : Int) == 18) = false := by
        rw [beq_eq_false_iff_ne]; intro e; exact hc (UInt8.toNat_inj.1 (by show c.toNat = 18; omega))
      clear h0 h1 hs hz hl hc
      go_enter Tryd.func78, Tryd.ntmps78
      go_wp2
      go_ret
      exact ⟨rfl, (Below.refl _ _).alloc (Nat.le_refl _) _⟩
  · have hsz : ((s.size : Int) == 34) = false := by rw [beq_eq_false_iff_ne]; omega
    clear hs hz
    go_enter Tryd.func78, Tryd.ntmps78
    go_wp2
    go_ret
    exact ⟨rfl, (Below.refl _ _).alloc (Nat.le_refl _) _⟩

set_option maxRecDepth 100000 in
set_option maxHeartbeats 1000000 in
theorem cdKey (s : ByteArray) (w : World) :
    Calls Tryd.prog 84 #[.agg #[.string s]] w fun e w' => e = .returned (.string s) ∧ Below w.heap.size w w' := by
  go_enter Tryd.func84, Tryd.ntmps84
  go_wp2
  go_ret
  exact ⟨rfl, (Below.refl _ _).alloc (Nat.le_refl _) _⟩

theorem ba_nonempty {s : ByteArray} (h : 0 < s.size) : s.toList.isEmpty = false ∧ (!s.toList.isEmpty) = true ∧ ¬ s.toList = [] := by
  have : s.toList ≠ [] := by
    rw [ByteArray.toList_eq]
    intro e
    have := ba_len s
    rw [e] at this
    simp at this
    omega
  cases h2 : s.toList with
  | nil => exact absurd h2 this
  | cons => exact ⟨rfl, rfl, by simp⟩

set_option maxRecDepth 100000 in
set_option maxHeartbeats 1000000 in
theorem cdDefined (s : ByteArray) (w : World) (h : 0 < s.size) :
    Calls Tryd.prog 100 #[.agg #[.string s]] w fun e w' => e = .returned (.bool true) ∧ Below w.heap.size w w' := by
  obtain ⟨h1, h2, h3⟩ := ba_nonempty h
  go_enter Tryd.func100, Tryd.ntmps100
  go_wp2
  go_ret
  exact ⟨rfl, (Below.refl _ _).alloc (Nat.le_refl _) _⟩
end Go.Proofs.YthfgnhgijgjggaaDoor
