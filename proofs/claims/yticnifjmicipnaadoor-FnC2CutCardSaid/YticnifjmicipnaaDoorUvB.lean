import Derived.Test.YticnifjmicipnaaDoorUvA
import Derived.Test.YticnifjmicipnaaDoorMem
import Derived.Test.YticnifjmicipnaaDoorShelf
import Derived.Outline
namespace Go.Proofs.YticnifjmicipnaaDoor
open Go.RowKit

set_option maxRecDepth 100000 in
set_option maxHeartbeats 1000000 in
theorem uvSize_any (x : Nat) (w : World) (hx : x < 18446744073709551616) :
    Calls Tryd.prog 25 #[.int .u64 x] w fun e w' => e = .returned (.int .i64 (Lib.uvarint x).length) ∧ w = w' := by
  have hs := uv_size x hx
  have hlen := Lib.uvarint_length64 hx
  have hb : Lib.bitLen x ≤ 80 := by omega
  obtain ⟨n, hn⟩ : ∃ n, n = Lib.bitLen x := ⟨_, rfl⟩
  rw [← hn] at hs hb
  have HS := Lib.hid hs
  clear hs hlen
  go_enter Tryd.func25, Tryd.ntmps25
  go_wp2_with fail
  refine (Tryd.bits_Len64 (x : Int) w (by omega) (by omega)).mono ?_
  rw [Int.toNat_natCast, ← hn]
  rintro e w' ⟨rfl, rfl⟩
  clear hn
  by_cases h7 : 0 < n % 7
  · have h7' : ((n : Int) % 7) > 0 := by omega
    go_wp2
    go_ret
    exact ⟨by rw [HS.out, if_pos (Or.inl h7)]; congr 2, rfl⟩
  · have h7' : ¬ ((n : Int) % 7) > 0 := by omega
    by_cases h0 : n / 7 = 0
    · have h0' : (((n : Int) / 7) == 0) = true := by simp; omega
      go_wp2
      go_ret
      exact ⟨by rw [HS.out, if_pos (Or.inr h0)]; congr 2, rfl⟩
    · have h0' : (((n : Int) / 7) == 0) = false := by simp; omega
      go_wp2
      go_ret
      exact ⟨by rw [HS.out, if_neg (by omega)]; congr 2, rfl⟩

theorem info_u8 : (Tryd.prog.info? 5).map (fun i => (i.zero, i.size, i.bytes)) = some (some (.int .u8 0), 1, 1) := by kernel_rfl

/-- binary.PutUvarint into a row that is known whole: the varint is laid over it. -/
theorem put_row (g o n c x : Nat) (cur : List Value) (t : TypeId) (w : World) (hx : x < 18446744073709551616) (hrow : w.heap[g]? = some (.cells cur.toArray t (0, 0)))
    (hfit : o + (Lib.uvarint x).length ≤ cur.length) (hn : (Lib.uvarint x).length ≤ n) :
    Calls Tryd.prog 33 #[.slice (some ⟨g, o, none⟩) n c, .int .u64 x] w fun e w' =>
      e = .returned (.int .i64 (Lib.uvarint x).length) ∧ Hid (w'.heap[g]? = some (.cells (splice cur o (Lib.byteCells (Lib.uvarint x))).toArray t (0, 0))) ∧ Turn g w w' := by
  refine (Tryd.binary_PutUvarint g o n c x hx w hn fun j hj => ⟨?_, frozen_of_row' hrow _⟩).mono ?_
  · rw [cell_of_row' hrow, List.getElem?_eq_getElem (by omega)]; rfl
  · rintro e w' ⟨rfl, rfl⟩
    exact ⟨rfl, Lib.hid (row_setCells _ _ _ _ hrow (by rw [Lib.byteCells_length]; exact hfit)), turn_setCells _ _ _ _⟩

/-- A byte list laid over a whole row. -/
theorem splice_all (n : Nat) (v : Value) (l : List Value) (h : l.length = n) : splice (List.replicate n v) 0 l = l := by
  subst h; simp [splice]

set_option maxRecDepth 100000 in
set_option maxHeartbeats 1000000 in
theorem toUv_any (x : Nat) (w : World) (hx : x < 18446744073709551616) :
    Calls Tryd.prog 23 #[.int .u64 x] w fun e w' =>
      e = .returned (.slice (some ⟨w.heap.size, 0, none⟩) (Lib.uvarint x).length (Lib.uvarint x).length) ∧ Hid (w'.heap[w.heap.size]? = some (.cells (Lib.byteCells (Lib.uvarint x)).toArray 5 (0, 0))) ∧ Below w.heap.size w w' := by
  have hlen := Lib.uvarint_length64 hx
  have hpos := Lib.uvarint_pos x
  obtain ⟨L, hL⟩ : ∃ L, L = (Lib.uvarint x).length := ⟨_, rfl⟩
  rw [← hL] at hlen hpos
  obtain ⟨w1, hmk, hb1, hs1, hrow⟩ := make_bytes (P := Tryd.prog) Tryd.underlying34 info_u8 w L (by omega)
  have HR := Lib.hid hrow
  have HL := Lib.hid hL
  clear hrow hs1 hL
  go_enter Tryd.func23, Tryd.ntmps23
  go_wp2_with fail
  refine (uvSize_any x w hx).mono ?_
  rw [← HL.out]
  rintro e w' ⟨rfl, rfl⟩
  go_wp2_with fail
  clear hmk
  refine (put_row w.heap.size 0 L L x (List.replicate L (Value.int .u8 0)) 5 w1 hx HR.out (by simp [← HL.out]) (by rw [← HL.out]; omega)).mono ?_
  rw [← HL.out]
  rintro e w2 ⟨rfl, h2, ht⟩
  go_wp2
  go_ret
  refine ⟨?_, Lib.hid ?_, hb1.trans (ht.below (Nat.le_refl _))⟩
  · rw [← HL.out]; rfl
  · rw [h2.out, splice_all _ _ _ (by rw [Lib.byteCells_length]; exact HL.out.symm)]

end Go.Proofs.YticnifjmicipnaaDoor
