import Derived.Test.YthfgnhgijgjggaaDoorUvA
import Derived.Test.YthfgnhgijgjggaaDoorMem
import Derived.Test.YthfgnhgijgjggaaDoorShelf
import Derived.Outline
namespace Go.Proofs.YthfgnhgijgjggaaDoor
open Go.RowKit

set_option maxRecDepth 100000 in
set_option maxHeartbeats 1000000 in
theorem uvSize_any (x : Nat) (w : World) (hx : x < 18446744073709551616) :
    Calls Tryd.prog 81 #[.int .u64 x] w fun e w' => e = .returned (.int .i64 (Lib.uvarint x).length) ∧ w = w' := by
  have hs := uv_size x hx
  have hlen := Lib.uvarint_length64 hx
  have hb : Lib.bitLen x ≤ 80 := by omega
  obtain ⟨n, hn⟩ : ∃ n, n = Lib.bitLen x := ⟨_, rfl⟩
  rw [← hn] at hs hb
  have HS := Lib.hid hs
  clear hs hlen
  go_enter Tryd.func81, Tryd.ntmps81
  go_wp2_with fail
  refine (Tryd.bits_Len64 (x : Int) w (by omega) (by omega)).mono ?_
  rw [Int.toNat_natCast, ← hn]
  rintro e w' ⟨rfl, rfl⟩
  clear hn
  by_cases h7 : 0 < n % 7
  · have h7' : ((n : Int) % 7) > 0 := by omega
    go_wp2
    go_ret
    exact ⟨by rw [HS.out, if_pos (Or.inl h7)]; congr 2, rfl⟩
  · have h7' : ¬ ((n : Int) % 7) > 0 := by omega
    by_cases h0 : n / 7 = 0
    · have h0' : (((n : Int) / 7) == 0) = true := by simp; omega
      go_wp2
      go_ret
      exact ⟨by rw [HS.out, if_pos (Or.inr h0)]; congr 2, rfl⟩
    · have h0' : (((n : Int) / 7) == 0) = false := by simp; omega
      go_wp2
      go_ret
      exact ⟨by rw [HS.out, if_neg (by omega)]; congr 2, rfl⟩

theorem info_u8 : (Tryd.prog.info? 5).map (fun i => (i.zero, i.size, i.bytes)) = some (some (.int .u8 0), 1, 1) := by kernel_rfl

/-- binary.PutUvarint into a row that is known whole: the varint is laid over it. -/
theorem put_row (g o n c x : Nat) (cur : List Value) (t : TypeId) (w : World) (hx : x < 18446744073709551616) (hrow : w.heap[g]? = some (.cells cur.toArray t (0, 0)))
    (hfit : o + (Lib.uvarint x).length ≤ cur.length) (hn : (Lib.uvarint x).length ≤ n) :
    Calls Tryd.prog 102 #[.slice (some ⟨g, o, none⟩) n c, .int .u64 x] w fun e w' =>
      e = .returned (.int .i64 (Lib.uvarint x).length) ∧ Hid (w'.heap[g]? = some (.cells (splice cur o (Lib.byteCells (Lib.uvarint x))).toArray t (0, 0))) ∧ Turn g w w' := by
  refine (Tryd.binary_PutUvarint g o n c x hx w hn fun j hj => ⟨?_, frozen_of_row' hrow _⟩).mono ?_
  · rw [cell_of_row' hrow, List.getElem?_eq_getElem (by omega)]; rfl
  · rintro e w' ⟨rfl, rfl⟩
    exact ⟨rfl, Lib.hid (row_setCells _ _ _ _ hrow (by rw [Lib.byteCells_length]; exact hfit)), turn_setCells _ _ _ _⟩

/-- A byte list laid over a whole row. -/
theorem splice_all (n : Nat) (v : Value) (l : List Value) (h : l.length = n) : splice (List.replicate n v) 0 l = l := by
  subst h; simp [splice]


end Go.Proofs.YthfgnhgijgjggaaDoor
