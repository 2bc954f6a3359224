/- Contracts, joined (SeS LwC LwD LwE EqS). -/
import Derived.Test.YthfgnhgijgjggaaDoorJSh5
import Derived.Test.YthfgnhgijgjggaaDoorJSh6
import Derived.Test.YthfgnhgijgjggaaDoorJSh9
import Derived.Deep.AppendLies
import Derived.Laws.StructEq
/- Contract: spec.ReadBlockHead. -/
namespace Go.Proofs.YthfgnhgijgjggaaDoor
open Go.RowKit

abbrev bhZ : Obj := .cells #[.int .u64 0, .int .u64 0, .int .u64 0, .string ⟨#[]⟩, .int .u64 0, .int .i64 0, .int .u8 0, .bool false] 55
structure BhVar (w : World) (g : Nat) : Prop where
  row : w.heap[g]? = some bhZ
theorem BhVar.cells {w : World} {g : Nat} (h : BhVar w g) : (w.cell? ⟨g, 0, none⟩ = some (.int .u64 0) ∧ w.cell? ⟨g, 1, none⟩ = some (.int .u64 0) ∧ w.cell? ⟨g, 2, none⟩ = some (.int .u64 0) ∧ w.cell? ⟨g, 3, none⟩ = some (.string ⟨#[]⟩) ∧ w.cell? ⟨g, 4, none⟩ = some (.int .u64 0) ∧ w.cell? ⟨g, 5, none⟩ = some (.int .i64 0) ∧ w.cell? ⟨g, 6, none⟩ = some (.int .u8 0) ∧ w.cell? ⟨g, 7, none⟩ = some (.bool false)) ∧ (w.frozen? ⟨g, 0, none⟩ = false ∧ w.frozen? ⟨g, 1, none⟩ = false ∧ w.frozen? ⟨g, 2, none⟩ = false ∧ w.frozen? ⟨g, 3, none⟩ = false ∧ w.frozen? ⟨g, 4, none⟩ = false ∧ w.frozen? ⟨g, 5, none⟩ = false ∧ w.frozen? ⟨g, 6, none⟩ = false ∧ w.frozen? ⟨g, 7, none⟩ = false) :=
  ⟨⟨cell_of_row' (cur := [_, _, _, _, _, _, _, _]) h.row 0, cell_of_row' (cur := [_, _, _, _, _, _, _, _]) h.row 1, cell_of_row' (cur := [_, _, _, _, _, _, _, _]) h.row 2, cell_of_row' (cur := [_, _, _, _, _, _, _, _]) h.row 3, cell_of_row' (cur := [_, _, _, _, _, _, _, _]) h.row 4, cell_of_row' (cur := [_, _, _, _, _, _, _, _]) h.row 5, cell_of_row' (cur := [_, _, _, _, _, _, _, _]) h.row 6, cell_of_row' (cur := [_, _, _, _, _, _, _, _]) h.row 7⟩, ⟨frozen_of_row' (cur := [_, _, _, _, _, _, _, _]) h.row 0, frozen_of_row' (cur := [_, _, _, _, _, _, _, _]) h.row 1, frozen_of_row' (cur := [_, _, _, _, _, _, _, _]) h.row 2, frozen_of_row' (cur := [_, _, _, _, _, _, _, _]) h.row 3, frozen_of_row' (cur := [_, _, _, _, _, _, _, _]) h.row 4, frozen_of_row' (cur := [_, _, _, _, _, _, _, _]) h.row 5, frozen_of_row' (cur := [_, _, _, _, _, _, _, _]) h.row 6, frozen_of_row' (cur := [_, _, _, _, _, _, _, _]) h.row 7⟩⟩
theorem BhVar.below {w w' : World} {g : Nat} (h : BhVar w g) (hb : Below w.heap.size w w') : BhVar w' g := ⟨row_below hb (block_of_row h.row) h.row⟩
theorem set8 {w : World} {g : Nat} (h : BhVar w g) (a b c d e f p q : Value) :
    ((((((((w.setCell ⟨g, 0, none⟩ a).setCell ⟨g, 1, none⟩ b).setCell ⟨g, 2, none⟩ c).setCell ⟨g, 3, none⟩ d).setCell ⟨g, 4, none⟩ e).setCell ⟨g, 5, none⟩ f).setCell ⟨g, 6, none⟩ p).setCell ⟨g, 7, none⟩ q).heap[g]? = some (.cells #[a, b, c, d, e, f, p, q] 55 (0, 0)) := by
  have h0 : (w.setCell ⟨g, 0, none⟩ a).heap[g]? = some (.cells #[a, .int .u64 0, .int .u64 0, .string ⟨#[]⟩, .int .u64 0, .int .i64 0, .int .u8 0, .bool false] 55 (0, 0)) := Lib.heap_setCell_same (i := 0) h.row a
  have h1 : ((w.setCell ⟨g, 0, none⟩ a).setCell ⟨g, 1, none⟩ b).heap[g]? = some (.cells #[a, b, .int .u64 0, .string ⟨#[]⟩, .int .u64 0, .int .i64 0, .int .u8 0, .bool false] 55 (0, 0)) := Lib.heap_setCell_same (i := 1) h0 b
  have h2 : (((w.setCell ⟨g, 0, none⟩ a).setCell ⟨g, 1, none⟩ b).setCell ⟨g, 2, none⟩ c).heap[g]? = some (.cells #[a, b, c, .string ⟨#[]⟩, .int .u64 0, .int .i64 0, .int .u8 0, .bool false] 55 (0, 0)) := Lib.heap_setCell_same (i := 2) h1 c
  have h3 : ((((w.setCell ⟨g, 0, none⟩ a).setCell ⟨g, 1, none⟩ b).setCell ⟨g, 2, none⟩ c).setCell ⟨g, 3, none⟩ d).heap[g]? = some (.cells #[a, b, c, d, .int .u64 0, .int .i64 0, .int .u8 0, .bool false] 55 (0, 0)) := Lib.heap_setCell_same (i := 3) h2 d
  have h4 : (((((w.setCell ⟨g, 0, none⟩ a).setCell ⟨g, 1, none⟩ b).setCell ⟨g, 2, none⟩ c).setCell ⟨g, 3, none⟩ d).setCell ⟨g, 4, none⟩ e).heap[g]? = some (.cells #[a, b, c, d, e, .int .i64 0, .int .u8 0, .bool false] 55 (0, 0)) := Lib.heap_setCell_same (i := 4) h3 e
  have h5 : ((((((w.setCell ⟨g, 0, none⟩ a).setCell ⟨g, 1, none⟩ b).setCell ⟨g, 2, none⟩ c).setCell ⟨g, 3, none⟩ d).setCell ⟨g, 4, none⟩ e).setCell ⟨g, 5, none⟩ f).heap[g]? = some (.cells #[a, b, c, d, e, f, .int .u8 0, .bool false] 55 (0, 0)) := Lib.heap_setCell_same (i := 5) h4 f
  have h6 : (((((((w.setCell ⟨g, 0, none⟩ a).setCell ⟨g, 1, none⟩ b).setCell ⟨g, 2, none⟩ c).setCell ⟨g, 3, none⟩ d).setCell ⟨g, 4, none⟩ e).setCell ⟨g, 5, none⟩ f).setCell ⟨g, 6, none⟩ p).heap[g]? = some (.cells #[a, b, c, d, e, f, p, .bool false] 55 (0, 0)) := Lib.heap_setCell_same (i := 6) h5 p
  have h7 : ((((((((w.setCell ⟨g, 0, none⟩ a).setCell ⟨g, 1, none⟩ b).setCell ⟨g, 2, none⟩ c).setCell ⟨g, 3, none⟩ d).setCell ⟨g, 4, none⟩ e).setCell ⟨g, 5, none⟩ f).setCell ⟨g, 6, none⟩ p).setCell ⟨g, 7, none⟩ q).heap[g]? = some (.cells #[a, b, c, d, e, f, p, q] 55 (0, 0)) := Lib.heap_setCell_same (i := 7) h6 q
  exact h7
theorem below_set8 {B : Nat} {w w' : World} {g : Nat} (h : Below B w w') (hB : B ≤ g) (a b c d e f p q : Value) :
    Below B w ((((((((w'.setCell ⟨g, 0, none⟩ a).setCell ⟨g, 1, none⟩ b).setCell ⟨g, 2, none⟩ c).setCell ⟨g, 3, none⟩ d).setCell ⟨g, 4, none⟩ e).setCell ⟨g, 5, none⟩ f).setCell ⟨g, 6, none⟩ p).setCell ⟨g, 7, none⟩ q) :=
  (((((((h.setCell hB _).setCell hB _).setCell hB _).setCell hB _).setCell hB _).setCell hB _).setCell hB _).setCell hB _

/-- Nothing was read, for this reason. -/
def BhBad (k : Nat) (e : Ending) : Prop := ∃ n : Int, e = .returned (.agg #[.int .u64 0, .int .u64 0, .int .u64 0, .string ⟨#[]⟩, .int .u64 0, .int .i64 n, .int .u8 k, .bool false])
/-- Left out. -/
def BhLeft (e : Ending) : Prop := e = .returned (.agg #[.int .u64 0, .int .u64 0, .int .u64 0, .string ⟨#[]⟩, .int .u64 0, .int .i64 0, .int .u8 0, .bool true])

set_option maxRecDepth 100000 in
set_option maxHeartbeats 8000000 in
theorem rbh_empty (s : ByteArray) (w : World) (hm : s.size ≤ 33554432) (z : Bool) (most : Nat) (h0 : s.size = 0) :
    Calls Tryd.prog 31 #[.string s, .bool z, .int .u64 most] w fun e w' => BhBad 1 e ∧ Below w.heap.size w w' := by
  have hA : Below w.heap.size w (w.alloc bhZ) := (Below.refl _ _).alloc (Nat.le_refl _) _
  have hO0 : BhVar (w.alloc bhZ) w.heap.size := ⟨heap_alloc_new w bhZ⟩
  have HA := Lib.hid hA
  have HO0 := Lib.hid hO0
  have h1 : s.data.toList = [] := List.eq_nil_of_length_eq_zero (by rw [ba_len]; exact h0)
  have hs : s = ⟨#[]⟩ := by
    have h2 := ba_mk s
    rw [h1] at h2
    exact h2.symm
  clear h1
  subst hs
  obtain ⟨⟨k0, k1, k2, k3, k4, k5, k6, k7⟩, f0, f1, f2, f3, f4, f5, f6, f7⟩ := hO0.cells
  have p4 := Lib.hid (heap_alloc_new w (.cells #[.int .u64 0, .int .u64 0, .int .u64 0, .string ⟨#[]⟩, .int .u64 0, .int .i64 0, .int .u8 1, .bool false] 55))
  clear hA hO0 hm
  go_enter Tryd.func31, Tryd.ntmps31
  go_wp2
  refine bodyPost_ret (results_cell_row rfl _ _ (w.heap.size) 55 #[.int .u64 0, .int .u64 0, .int .u64 0, .string ⟨#[]⟩, .int .u64 0, .int .i64 0, .int .u8 1, .bool false] (0, 0) _ rfl p4.out Tryd.underlying55 rfl (by kernel_rfl)) rfl ?_
  exact ⟨⟨_, rfl⟩, (Below.refl _ _).alloc (Nat.le_refl _) _⟩

set_option maxRecDepth 100000 in
set_option maxHeartbeats 8000000 in
theorem rbh_no (s : ByteArray) (w : World) (hm : s.size ≤ 33554432) (z : Bool) (most : Nat) (h0 : 0 < s.size) (hno : (uvDec s.data.toList).no) :
    Calls Tryd.prog 31 #[.string s, .bool z, .int .u64 most] w fun e w' => BhBad 2 e ∧ Below w.heap.size w w' := by
  have hA : Below w.heap.size w (w.alloc bhZ) := (Below.refl _ _).alloc (Nat.le_refl _) _
  have hO0 : BhVar (w.alloc bhZ) w.heap.size := ⟨heap_alloc_new w bhZ⟩
  have HA := Lib.hid hA
  have HO0 := Lib.hid hO0
  have HC := Lib.hid (readVarint_no s (w.alloc bhZ) (by omega) hno)
  obtain ⟨n1, n2, n3⟩ := ba_nonempty h0
  go_enter Tryd.func31, Tryd.ntmps31
  go_wp2_with fail
  refine HC.out.mono ?_
  rintro e w1 ⟨⟨kk, hkk, rfl⟩, hb1⟩
  have hO1 := HO0.out.below hb1
  have hbA := below_next HA.out hb1
  obtain ⟨⟨k0, k1, k2, k3, k4, k5, k6, k7⟩, f0, f1, f2, f3, f4, f5, f6, f7⟩ := hO1.cells
  have p4 := Lib.hid (set8 hO1 (.int .u64 0) (.int .u64 0) (.int .u64 0) (.string ⟨#[]⟩) (.int .u64 0) (.int .i64 0) (.int .u8 2) (.bool false))
  have HF := Lib.hid (below_set8 hbA (Nat.le_refl _) (.int .u64 0) (.int .u64 0) (.int .u64 0) (.string ⟨#[]⟩) (.int .u64 0) (.int .i64 0) (.int .u8 2) (.bool false))
  clear hO1 hbA hb1 hA hO0
  go_wp2
  refine bodyPost_ret (results_cell_row rfl _ _ (w.heap.size) 55 #[.int .u64 0, .int .u64 0, .int .u64 0, .string ⟨#[]⟩, .int .u64 0, .int .i64 0, .int .u8 2, .bool false] (0, 0) _ rfl p4.out Tryd.underlying55 rfl (by kernel_rfl)) rfl ?_
  exact ⟨⟨_, rfl⟩, HF.out⟩

set_option maxRecDepth 100000 in
set_option maxHeartbeats 8000000 in
theorem rbh_big (s : ByteArray) (w : World) (hm : s.size ≤ 33554432) (z : Bool) (most : Nat) (h0 : 0 < s.size) (x m : Nat) (hd : uvDec s.data.toList = .ok x m) (hx : most < x) :
    Calls Tryd.prog 31 #[.string s, .bool z, .int .u64 most] w fun e w' => BhBad 2 e ∧ Below w.heap.size w w' := by
  have hA : Below w.heap.size w (w.alloc bhZ) := (Below.refl _ _).alloc (Nat.le_refl _) _
  have hO0 : BhVar (w.alloc bhZ) w.heap.size := ⟨heap_alloc_new w bhZ⟩
  have HA := Lib.hid hA
  have HO0 := Lib.hid hO0
  have HC := Lib.hid (readVarint_ok s (w.alloc bhZ) (by omega) x m hd)
  obtain ⟨n1, n2, n3⟩ := ba_nonempty h0
  have hx2 : (most : Int) < x := by omega
  clear hd hx
  go_enter Tryd.func31, Tryd.ntmps31
  go_wp2_with fail
  refine HC.out.mono ?_
  rintro e w1 ⟨rfl, hb1⟩
  have hO1 := HO0.out.below hb1
  have hbA := below_next HA.out hb1
  obtain ⟨⟨k0, k1, k2, k3, k4, k5, k6, k7⟩, f0, f1, f2, f3, f4, f5, f6, f7⟩ := hO1.cells
  have p4 := Lib.hid (set8 hO1 (.int .u64 0) (.int .u64 0) (.int .u64 0) (.string ⟨#[]⟩) (.int .u64 0) (.int .i64 0) (.int .u8 2) (.bool false))
  have HF := Lib.hid (below_set8 hbA (Nat.le_refl _) (.int .u64 0) (.int .u64 0) (.int .u64 0) (.string ⟨#[]⟩) (.int .u64 0) (.int .i64 0) (.int .u8 2) (.bool false))
  clear hO1 hbA hb1 hA hO0
  go_wp2
  refine bodyPost_ret (results_cell_row rfl _ _ (w.heap.size) 55 #[.int .u64 0, .int .u64 0, .int .u64 0, .string ⟨#[]⟩, .int .u64 0, .int .i64 0, .int .u8 2, .bool false] (0, 0) _ rfl p4.out Tryd.underlying55 rfl (by kernel_rfl)) rfl ?_
  exact ⟨⟨_, rfl⟩, HF.out⟩

set_option maxRecDepth 100000 in
set_option maxHeartbeats 8000000 in
theorem rbh_end (s : ByteArray) (w : World) (hm : s.size ≤ 33554432) (z : Bool) (most : Nat) (h0 : 0 < s.size) (x m : Nat) (hd : uvDec s.data.toList = .ok x m) (hx0 : x = 0) (hz : z = true) :
    Calls Tryd.prog 31 #[.string s, .bool z, .int .u64 most] w fun e w' => BhBad 1 e ∧ Below w.heap.size w w' := by
  have hA : Below w.heap.size w (w.alloc bhZ) := (Below.refl _ _).alloc (Nat.le_refl _) _
  have hO0 : BhVar (w.alloc bhZ) w.heap.size := ⟨heap_alloc_new w bhZ⟩
  have HA := Lib.hid hA
  have HO0 := Lib.hid hO0
  have HC := Lib.hid (readVarint_ok s (w.alloc bhZ) (by omega) x m hd)
  obtain ⟨n1, n2, n3⟩ := ba_nonempty h0
  subst hz
  have hx2 : (decide ((most : Int) < 0)) = false := by simp
  subst hx0
  clear hd
  go_enter Tryd.func31, Tryd.ntmps31
  go_wp2_with fail
  refine HC.out.mono ?_
  rintro e w1 ⟨rfl, hb1⟩
  have hO1 := HO0.out.below hb1
  have hbA := below_next HA.out hb1
  obtain ⟨⟨k0, k1, k2, k3, k4, k5, k6, k7⟩, f0, f1, f2, f3, f4, f5, f6, f7⟩ := hO1.cells
  have p4 := Lib.hid (set8 hO1 (.int .u64 0) (.int .u64 0) (.int .u64 0) (.string ⟨#[]⟩) (.int .u64 0) (.int .i64 (m : Int)) (.int .u8 1) (.bool false))
  have HF := Lib.hid (below_set8 hbA (Nat.le_refl _) (.int .u64 0) (.int .u64 0) (.int .u64 0) (.string ⟨#[]⟩) (.int .u64 0) (.int .i64 (m : Int)) (.int .u8 1) (.bool false))
  clear hO1 hbA hb1 hA hO0
  go_wp2
  refine bodyPost_ret (results_cell_row rfl _ _ (w.heap.size) 55 #[.int .u64 0, .int .u64 0, .int .u64 0, .string ⟨#[]⟩, .int .u64 0, .int .i64 (m : Int), .int .u8 1, .bool false] (0, 0) _ rfl p4.out Tryd.underlying55 rfl (by kernel_rfl)) rfl ?_
  exact ⟨⟨_, rfl⟩, HF.out⟩

set_option maxRecDepth 100000 in
set_option maxHeartbeats 8000000 in
theorem rbh_leftEnd (s : ByteArray) (w : World) (hm : s.size ≤ 33554432) (z : Bool) (most : Nat) (h0 : 0 < s.size) (x m : Nat) (hd : uvDec s.data.toList = .ok x m) (hx : x ≤ most) (hz : z = true → x ≠ 0) (hml : m = s.size) :
    Calls Tryd.prog 31 #[.string s, .bool z, .int .u64 most] w fun e w' => BhLeft e ∧ Below w.heap.size w w' := by
  have hA : Below w.heap.size w (w.alloc bhZ) := (Below.refl _ _).alloc (Nat.le_refl _) _
  have hO0 : BhVar (w.alloc bhZ) w.heap.size := ⟨heap_alloc_new w bhZ⟩
  have HA := Lib.hid hA
  have HO0 := Lib.hid hO0
  have HC := Lib.hid (readVarint_ok s (w.alloc bhZ) (by omega) x m hd)
  obtain ⟨n1, n2, n3⟩ := ba_nonempty h0
  have hx2 : ((most : Int) < x) = False := by simp; omega
  clear hd hx
  subst hml
  cases z
  · clear hz
    go_enter Tryd.func31, Tryd.ntmps31
    go_wp2_with fail
    refine HC.out.mono ?_
    rintro e w1 ⟨rfl, hb1⟩
    have hO1 := HO0.out.below hb1
    have hbA := below_next HA.out hb1
    obtain ⟨⟨k0, k1, k2, k3, k4, k5, k6, k7⟩, f0, f1, f2, f3, f4, f5, f6, f7⟩ := hO1.cells
    have p4 := Lib.hid (set8 hO1 (.int .u64 0) (.int .u64 0) (.int .u64 0) (.string ⟨#[]⟩) (.int .u64 0) (.int .i64 0) (.int .u8 0) (.bool true))
    have HF := Lib.hid (below_set8 hbA (Nat.le_refl _) (.int .u64 0) (.int .u64 0) (.int .u64 0) (.string ⟨#[]⟩) (.int .u64 0) (.int .i64 0) (.int .u8 0) (.bool true))
    clear hO1 hbA hb1 hA hO0
    go_wp2
    refine bodyPost_ret (results_cell_row rfl _ _ (w.heap.size) 55 #[.int .u64 0, .int .u64 0, .int .u64 0, .string ⟨#[]⟩, .int .u64 0, .int .i64 0, .int .u8 0, .bool true] (0, 0) _ rfl p4.out Tryd.underlying55 rfl (by kernel_rfl)) rfl ?_
    exact ⟨rfl, HF.out⟩
  · have hz2 : ((x : Int) == 0) = false := by have := hz rfl; simp; omega
    clear hz
    go_enter Tryd.func31, Tryd.ntmps31
    go_wp2_with fail
    refine HC.out.mono ?_
    rintro e w1 ⟨rfl, hb1⟩
    have hO1 := HO0.out.below hb1
    have hbA := below_next HA.out hb1
    obtain ⟨⟨k0, k1, k2, k3, k4, k5, k6, k7⟩, f0, f1, f2, f3, f4, f5, f6, f7⟩ := hO1.cells
    have p4 := Lib.hid (set8 hO1 (.int .u64 0) (.int .u64 0) (.int .u64 0) (.string ⟨#[]⟩) (.int .u64 0) (.int .i64 0) (.int .u8 0) (.bool true))
    have HF := Lib.hid (below_set8 hbA (Nat.le_refl _) (.int .u64 0) (.int .u64 0) (.int .u64 0) (.string ⟨#[]⟩) (.int .u64 0) (.int .i64 0) (.int .u8 0) (.bool true))
    clear hO1 hbA hb1 hA hO0
    go_wp2
    refine bodyPost_ret (results_cell_row rfl _ _ (w.heap.size) 55 #[.int .u64 0, .int .u64 0, .int .u64 0, .string ⟨#[]⟩, .int .u64 0, .int .i64 0, .int .u8 0, .bool true] (0, 0) _ rfl p4.out Tryd.underlying55 rfl (by kernel_rfl)) rfl ?_
    exact ⟨rfl, HF.out⟩

set_option maxRecDepth 100000 in
set_option maxHeartbeats 8000000 in
theorem rbh_noCid (s : ByteArray) (w : World) (hm : s.size ≤ 33554432) (z : Bool) (most : Nat) (h0 : 0 < s.size) (x m : Nat) (hd : uvDec s.data.toList = .ok x m) (hx : x ≤ most) (hz : z = true → x ≠ 0) (hml : m < s.size) (hc : cidRd (s.data.toList.drop m) = none) :
    Calls Tryd.prog 31 #[.string s, .bool z, .int .u64 most] w fun e w' => BhBad 2 e ∧ Below w.heap.size w w' := by
  have hA : Below w.heap.size w (w.alloc bhZ) := (Below.refl _ _).alloc (Nat.le_refl _) _
  have hO0 : BhVar (w.alloc bhZ) w.heap.size := ⟨heap_alloc_new w bhZ⟩
  have HA := Lib.hid hA
  have HO0 := Lib.hid hO0
  have HC := Lib.hid (readVarint_ok s (w.alloc bhZ) (by omega) x m hd)
  obtain ⟨n1, n2, n3⟩ := ba_nonempty h0
  have HS := fun W => Lib.hid (streamCid ⟨(s.data.toList.drop m).toArray⟩ W (by rw [ba_size_drop]; omega) (by rw [ba_size_drop]; omega))
  have T := fun W => run_str_from (P := Tryd.prog) Tryd.underlying9 s m (by omega) m rfl W
  have hml2 : ((m : Int) == s.size) = false := by simp; omega
  rw [show (⟨(s.data.toList.drop m).toArray⟩ : ByteArray).data.toList = s.data.toList.drop m from rfl, hc] at HS
  unfold stSpec at HS
  dsimp only at HS
  have hx2 : ¬ (most : Int) < x := by omega
  clear hd hx hc
  cases z
  · clear hz
    go_enter Tryd.func31, Tryd.ntmps31
    go_wp2_with fail
    refine HC.out.mono ?_
    rintro e w1 ⟨rfl, hb1⟩
    have hO1 := HO0.out.below hb1
    have hbA := below_next HA.out hb1
    have H1 := Lib.hid hO1
    have HBA := Lib.hid hbA
    clear hO1 hbA hb1 hA hO0
    go_wp2_with fail
    refine (HS w1).out.mono ?_
    rintro e w2 ⟨rfl, hb2⟩
    have hbX : Below w2.heap.size w2 (w2.alloc (.cells #[.int .u64 0, .int .u64 0, .int .u64 0, .string ⟨#[]⟩] 26)) := (Below.refl _ _).alloc (Nat.le_refl _) _
    have hO2 := (H1.out.below hb2).below hbX
    have hb3 := below_next (below_next HBA.out hb2) hbX
    have hrn := heap_alloc_new w2 (.cells #[.int .u64 0, .int .u64 0, .int .u64 0, .string ⟨#[]⟩] 26)
    have j0 := cell_of_row' (cur := [_, _, _, _]) hrn 0
    have j1 := cell_of_row' (cur := [_, _, _, _]) hrn 1
    have j2 := cell_of_row' (cur := [_, _, _, _]) hrn 2
    have j3 := cell_of_row' (cur := [_, _, _, _]) hrn 3
    obtain ⟨⟨k0, k1, k2, k3, k4, k5, k6, k7⟩, f0, f1, f2, f3, f4, f5, f6, f7⟩ := hO2.cells
    have p4 := Lib.hid (set8 hO2 (.int .u64 0) (.int .u64 0) (.int .u64 0) (.string ⟨#[]⟩) (.int .u64 0) (.int .i64 0) (.int .u8 2) (.bool false))
    have HF := Lib.hid (below_set8 hb3 (Nat.le_refl _) (.int .u64 0) (.int .u64 0) (.int .u64 0) (.string ⟨#[]⟩) (.int .u64 0) (.int .i64 0) (.int .u8 2) (.bool false))
    clear hO2 hb3 hbX hb2 hrn HS
    go_wp2
    refine bodyPost_ret (results_cell_row rfl _ _ (w.heap.size) 55 #[.int .u64 0, .int .u64 0, .int .u64 0, .string ⟨#[]⟩, .int .u64 0, .int .i64 0, .int .u8 2, .bool false] (0, 0) _ rfl p4.out Tryd.underlying55 rfl (by kernel_rfl)) rfl ?_
    exact ⟨⟨_, rfl⟩, HF.out⟩
  · have hz2 : ((x : Int) == 0) = false := by have := hz rfl; simp; omega
    clear hz
    go_enter Tryd.func31, Tryd.ntmps31
    go_wp2_with fail
    refine HC.out.mono ?_
    rintro e w1 ⟨rfl, hb1⟩
    have hO1 := HO0.out.below hb1
    have hbA := below_next HA.out hb1
    have H1 := Lib.hid hO1
    have HBA := Lib.hid hbA
    clear hO1 hbA hb1 hA hO0
    go_wp2_with fail
    refine (HS w1).out.mono ?_
    rintro e w2 ⟨rfl, hb2⟩
    have hbX : Below w2.heap.size w2 (w2.alloc (.cells #[.int .u64 0, .int .u64 0, .int .u64 0, .string ⟨#[]⟩] 26)) := (Below.refl _ _).alloc (Nat.le_refl _) _
    have hO2 := (H1.out.below hb2).below hbX
    have hb3 := below_next (below_next HBA.out hb2) hbX
    have hrn := heap_alloc_new w2 (.cells #[.int .u64 0, .int .u64 0, .int .u64 0, .string ⟨#[]⟩] 26)
    have j0 := cell_of_row' (cur := [_, _, _, _]) hrn 0
    have j1 := cell_of_row' (cur := [_, _, _, _]) hrn 1
    have j2 := cell_of_row' (cur := [_, _, _, _]) hrn 2
    have j3 := cell_of_row' (cur := [_, _, _, _]) hrn 3
    obtain ⟨⟨k0, k1, k2, k3, k4, k5, k6, k7⟩, f0, f1, f2, f3, f4, f5, f6, f7⟩ := hO2.cells
    have p4 := Lib.hid (set8 hO2 (.int .u64 0) (.int .u64 0) (.int .u64 0) (.string ⟨#[]⟩) (.int .u64 0) (.int .i64 0) (.int .u8 2) (.bool false))
    have HF := Lib.hid (below_set8 hb3 (Nat.le_refl _) (.int .u64 0) (.int .u64 0) (.int .u64 0) (.string ⟨#[]⟩) (.int .u64 0) (.int .i64 0) (.int .u8 2) (.bool false))
    clear hO2 hb3 hbX hb2 hrn HS
    go_wp2
    refine bodyPost_ret (results_cell_row rfl _ _ (w.heap.size) 55 #[.int .u64 0, .int .u64 0, .int .u64 0, .string ⟨#[]⟩, .int .u64 0, .int .i64 0, .int .u8 2, .bool false] (0, 0) _ rfl p4.out Tryd.underlying55 rfl (by kernel_rfl)) rfl ?_
    exact ⟨⟨_, rfl⟩, HF.out⟩

set_option maxRecDepth 100000 in
set_option maxHeartbeats 8000000 in
theorem rbh_leftCid (s : ByteArray) (w : World) (hm : s.size ≤ 33554432) (z : Bool) (most : Nat) (h0 : 0 < s.size) (x m : Nat) (hd : uvDec s.data.toList = .ok x m) (hx : x ≤ most) (hz : z = true → x ≠ 0) (hml : m < s.size) (c : CidD) (k : Nat) (hc : cidRd (s.data.toList.drop m) = some (c, k)) (hk : x < k) :
    Calls Tryd.prog 31 #[.string s, .bool z, .int .u64 most] w fun e w' => BhLeft e ∧ Below w.heap.size w w' := by
  have hA : Below w.heap.size w (w.alloc bhZ) := (Below.refl _ _).alloc (Nat.le_refl _) _
  have hO0 : BhVar (w.alloc bhZ) w.heap.size := ⟨heap_alloc_new w bhZ⟩
  have HA := Lib.hid hA
  have HO0 := Lib.hid hO0
  have HC := Lib.hid (readVarint_ok s (w.alloc bhZ) (by omega) x m hd)
  obtain ⟨n1, n2, n3⟩ := ba_nonempty h0
  have HS := fun W => Lib.hid (streamCid ⟨(s.data.toList.drop m).toArray⟩ W (by rw [ba_size_drop]; omega) (by rw [ba_size_drop]; omega))
  have T := fun W => run_str_from (P := Tryd.prog) Tryd.underlying9 s m (by omega) m rfl W
  have hml2 : ((m : Int) == s.size) = false := by simp; omega
  rw [show (⟨(s.data.toList.drop m).toArray⟩ : ByteArray).data.toList = s.data.toList.drop m from rfl, hc] at HS
  unfold stSpec cidVal at HS
  dsimp only at HS
  have hkk : k ≤ 33554432 := by have := (cidRd_take hc).1; rw [List.length_drop, ba_len] at this; omega
  have wr : IntKind.u64.wrap (k : Int) = k := IntWalk.u64_in _ (by omega)
  obtain ⟨v0, hv0⟩ : ∃ v0 : Int, v0 = c.ver := ⟨_, rfl⟩
  obtain ⟨v1, hv1⟩ : ∃ v1 : Int, v1 = c.codec := ⟨_, rfl⟩
  obtain ⟨v2, hv2⟩ : ∃ v2 : Int, v2 = c.code := ⟨_, rfl⟩
  obtain ⟨v3, hv3⟩ : ∃ v3 : ByteArray, v3 = ⟨c.dig.toArray⟩ := ⟨_, rfl⟩
  rw [← hv0, ← hv1, ← hv2, ← hv3] at HS
  have HV0 := Lib.hid hv0
  have HV1 := Lib.hid hv1
  have HV2 := Lib.hid hv2
  have HV3 := Lib.hid hv3
  clear hv0 hv1 hv2 hv3
  have hx2 : ¬ (most : Int) < x := by omega
  have hk2 : (x : Int) < k := by omega
  clear hd hx hc hk
  cases z
  · clear hz
    go_enter Tryd.func31, Tryd.ntmps31
    go_wp2_with fail
    refine HC.out.mono ?_
    rintro e w1 ⟨rfl, hb1⟩
    have hO1 := HO0.out.below hb1
    have hbA := below_next HA.out hb1
    have H1 := Lib.hid hO1
    have HBA := Lib.hid hbA
    clear hO1 hbA hb1 hA hO0
    go_wp2_with fail
    refine (HS w1).out.mono ?_
    rintro e w2 ⟨rfl, hb2⟩
    have hbX : Below w2.heap.size w2 (w2.alloc (.cells #[.int .u64 v0, .int .u64 v1, .int .u64 v2, .string v3] 26)) := (Below.refl _ _).alloc (Nat.le_refl _) _
    have hO2 := (H1.out.below hb2).below hbX
    have hb3 := below_next (below_next HBA.out hb2) hbX
    have hrn := heap_alloc_new w2 (.cells #[.int .u64 v0, .int .u64 v1, .int .u64 v2, .string v3] 26)
    have j0 := cell_of_row' (cur := [_, _, _, _]) hrn 0
    have j1 := cell_of_row' (cur := [_, _, _, _]) hrn 1
    have j2 := cell_of_row' (cur := [_, _, _, _]) hrn 2
    have j3 := cell_of_row' (cur := [_, _, _, _]) hrn 3
    obtain ⟨⟨k0, k1, k2, k3, k4, k5, k6, k7⟩, f0, f1, f2, f3, f4, f5, f6, f7⟩ := hO2.cells
    have p4 := Lib.hid (set8 hO2 (.int .u64 0) (.int .u64 0) (.int .u64 0) (.string ⟨#[]⟩) (.int .u64 0) (.int .i64 0) (.int .u8 0) (.bool true))
    have HF := Lib.hid (below_set8 hb3 (Nat.le_refl _) (.int .u64 0) (.int .u64 0) (.int .u64 0) (.string ⟨#[]⟩) (.int .u64 0) (.int .i64 0) (.int .u8 0) (.bool true))
    clear hO2 hb3 hbX hb2 hrn HS
    go_wp2
    refine bodyPost_ret (results_cell_row rfl _ _ (w.heap.size) 55 #[.int .u64 0, .int .u64 0, .int .u64 0, .string ⟨#[]⟩, .int .u64 0, .int .i64 0, .int .u8 0, .bool true] (0, 0) _ rfl p4.out Tryd.underlying55 rfl (by kernel_rfl)) rfl ?_
    exact ⟨rfl, HF.out⟩
  · have hz2 : ((x : Int) == 0) = false := by have := hz rfl; simp; omega
    clear hz
    go_enter Tryd.func31, Tryd.ntmps31
    go_wp2_with fail
    refine HC.out.mono ?_
    rintro e w1 ⟨rfl, hb1⟩
    have hO1 := HO0.out.below hb1
    have hbA := below_next HA.out hb1
    have H1 := Lib.hid hO1
    have HBA := Lib.hid hbA
    clear hO1 hbA hb1 hA hO0
    go_wp2_with fail
    refine (HS w1).out.mono ?_
    rintro e w2 ⟨rfl, hb2⟩
    have hbX : Below w2.heap.size w2 (w2.alloc (.cells #[.int .u64 v0, .int .u64 v1, .int .u64 v2, .string v3] 26)) := (Below.refl _ _).alloc (Nat.le_refl _) _
    have hO2 := (H1.out.below hb2).below hbX
    have hb3 := below_next (below_next HBA.out hb2) hbX
    have hrn := heap_alloc_new w2 (.cells #[.int .u64 v0, .int .u64 v1, .int .u64 v2, .string v3] 26)
    have j0 := cell_of_row' (cur := [_, _, _, _]) hrn 0
    have j1 := cell_of_row' (cur := [_, _, _, _]) hrn 1
    have j2 := cell_of_row' (cur := [_, _, _, _]) hrn 2
    have j3 := cell_of_row' (cur := [_, _, _, _]) hrn 3
    obtain ⟨⟨k0, k1, k2, k3, k4, k5, k6, k7⟩, f0, f1, f2, f3, f4, f5, f6, f7⟩ := hO2.cells
    have p4 := Lib.hid (set8 hO2 (.int .u64 0) (.int .u64 0) (.int .u64 0) (.string ⟨#[]⟩) (.int .u64 0) (.int .i64 0) (.int .u8 0) (.bool true))
    have HF := Lib.hid (below_set8 hb3 (Nat.le_refl _) (.int .u64 0) (.int .u64 0) (.int .u64 0) (.string ⟨#[]⟩) (.int .u64 0) (.int .i64 0) (.int .u8 0) (.bool true))
    clear hO2 hb3 hbX hb2 hrn HS
    go_wp2
    refine bodyPost_ret (results_cell_row rfl _ _ (w.heap.size) 55 #[.int .u64 0, .int .u64 0, .int .u64 0, .string ⟨#[]⟩, .int .u64 0, .int .i64 0, .int .u8 0, .bool true] (0, 0) _ rfl p4.out Tryd.underlying55 rfl (by kernel_rfl)) rfl ?_
    exact ⟨rfl, HF.out⟩

set_option maxRecDepth 100000 in
set_option maxHeartbeats 8000000 in
theorem rbh_ok (s : ByteArray) (w : World) (hm : s.size ≤ 33554432) (z : Bool) (most : Nat) (h0 : 0 < s.size) (x m : Nat) (hd : uvDec s.data.toList = .ok x m) (hx : x ≤ most) (hz : z = true → x ≠ 0) (hml : m < s.size) (c : CidD) (k : Nat) (hc : cidRd (s.data.toList.drop m) = some (c, k)) (hk : k ≤ x) (hx3 : x ≤ 33554432) :
    Calls Tryd.prog 31 #[.string s, .bool z, .int .u64 most] w fun e w' => e = .returned (.agg #[.int .u64 c.ver, .int .u64 c.codec, .int .u64 c.code, .string ⟨c.dig.toArray⟩, .int .u64 ((x : Int) - k), .int .i64 ((m : Int) + k), .int .u8 0, .bool false]) ∧ Below w.heap.size w w' := by
  have hA : Below w.heap.size w (w.alloc bhZ) := (Below.refl _ _).alloc (Nat.le_refl _) _
  have hO0 : BhVar (w.alloc bhZ) w.heap.size := ⟨heap_alloc_new w bhZ⟩
  have HA := Lib.hid hA
  have HO0 := Lib.hid hO0
  have HC := Lib.hid (readVarint_ok s (w.alloc bhZ) (by omega) x m hd)
  obtain ⟨n1, n2, n3⟩ := ba_nonempty h0
  have HS := fun W => Lib.hid (streamCid ⟨(s.data.toList.drop m).toArray⟩ W (by rw [ba_size_drop]; omega) (by rw [ba_size_drop]; omega))
  have T := fun W => run_str_from (P := Tryd.prog) Tryd.underlying9 s m (by omega) m rfl W
  have hml2 : ((m : Int) == s.size) = false := by simp; omega
  rw [show (⟨(s.data.toList.drop m).toArray⟩ : ByteArray).data.toList = s.data.toList.drop m from rfl, hc] at HS
  unfold stSpec cidVal at HS
  dsimp only at HS
  have hkk : k ≤ 33554432 := by have := (cidRd_take hc).1; rw [List.length_drop, ba_len] at this; omega
  have wr : IntKind.u64.wrap (k : Int) = k := IntWalk.u64_in _ (by omega)
  obtain ⟨v0, hv0⟩ : ∃ v0 : Int, v0 = c.ver := ⟨_, rfl⟩
  obtain ⟨v1, hv1⟩ : ∃ v1 : Int, v1 = c.codec := ⟨_, rfl⟩
  obtain ⟨v2, hv2⟩ : ∃ v2 : Int, v2 = c.code := ⟨_, rfl⟩
  obtain ⟨v3, hv3⟩ : ∃ v3 : ByteArray, v3 = ⟨c.dig.toArray⟩ := ⟨_, rfl⟩
  rw [← hv0, ← hv1, ← hv2, ← hv3] at HS
  have HV0 := Lib.hid hv0
  have HV1 := Lib.hid hv1
  have HV2 := Lib.hid hv2
  have HV3 := Lib.hid hv3
  clear hv0 hv1 hv2 hv3
  have hx2 : ¬ (most : Int) < x := by omega
  have hk2 : ((x : Int) < k) = False := by simp; omega
  have wr2 : IntKind.u64.wrap ((x : Int) - k) = (x : Int) - k := IntWalk.u64_in _ (by omega)
  have wr3 : IntKind.i64.wrap ((m : Int) + k) = (m : Int) + k := IntWalk.i64_in _ (by omega)
  clear hd hx hc
  cases z
  · clear hz
    go_enter Tryd.func31, Tryd.ntmps31
    go_wp2_with fail
    refine HC.out.mono ?_
    rintro e w1 ⟨rfl, hb1⟩
    have hO1 := HO0.out.below hb1
    have hbA := below_next HA.out hb1
    have H1 := Lib.hid hO1
    have HBA := Lib.hid hbA
    clear hO1 hbA hb1 hA hO0
    go_wp2_with fail
    refine (HS w1).out.mono ?_
    rintro e w2 ⟨rfl, hb2⟩
    have hbX : Below w2.heap.size w2 (w2.alloc (.cells #[.int .u64 v0, .int .u64 v1, .int .u64 v2, .string v3] 26)) := (Below.refl _ _).alloc (Nat.le_refl _) _
    have hO2 := (H1.out.below hb2).below hbX
    have hb3 := below_next (below_next HBA.out hb2) hbX
    have hrn := heap_alloc_new w2 (.cells #[.int .u64 v0, .int .u64 v1, .int .u64 v2, .string v3] 26)
    have j0 := cell_of_row' (cur := [_, _, _, _]) hrn 0
    have j1 := cell_of_row' (cur := [_, _, _, _]) hrn 1
    have j2 := cell_of_row' (cur := [_, _, _, _]) hrn 2
    have j3 := cell_of_row' (cur := [_, _, _, _]) hrn 3
    obtain ⟨⟨k0, k1, k2, k3, k4, k5, k6, k7⟩, f0, f1, f2, f3, f4, f5, f6, f7⟩ := hO2.cells
    have p4 := Lib.hid (set8 hO2 (.int .u64 v0) (.int .u64 v1) (.int .u64 v2) (.string v3) (.int .u64 ((x : Int) - k)) (.int .i64 ((m : Int) + k)) (.int .u8 0) (.bool false))
    have HF := Lib.hid (below_set8 hb3 (Nat.le_refl _) (.int .u64 v0) (.int .u64 v1) (.int .u64 v2) (.string v3) (.int .u64 ((x : Int) - k)) (.int .i64 ((m : Int) + k)) (.int .u8 0) (.bool false))
    clear hO2 hb3 hbX hb2 hrn HS
    go_wp2
    refine bodyPost_ret (results_cell_row rfl _ _ (w.heap.size) 55 #[.int .u64 v0, .int .u64 v1, .int .u64 v2, .string v3, .int .u64 ((x : Int) - k), .int .i64 ((m : Int) + k), .int .u8 0, .bool false] (0, 0) _ rfl p4.out Tryd.underlying55 rfl (by kernel_rfl)) rfl ?_
    exact ⟨by rw [← HV0.out, ← HV1.out, ← HV2.out, ← HV3.out], HF.out⟩
  · have hz2 : ((x : Int) == 0) = false := by have := hz rfl; simp; omega
    clear hz
    go_enter Tryd.func31, Tryd.ntmps31
    go_wp2_with fail
    refine HC.out.mono ?_
    rintro e w1 ⟨rfl, hb1⟩
    have hO1 := HO0.out.below hb1
    have hbA := below_next HA.out hb1
    have H1 := Lib.hid hO1
    have HBA := Lib.hid hbA
    clear hO1 hbA hb1 hA hO0
    go_wp2_with fail
    refine (HS w1).out.mono ?_
    rintro e w2 ⟨rfl, hb2⟩
    have hbX : Below w2.heap.size w2 (w2.alloc (.cells #[.int .u64 v0, .int .u64 v1, .int .u64 v2, .string v3] 26)) := (Below.refl _ _).alloc (Nat.le_refl _) _
    have hO2 := (H1.out.below hb2).below hbX
    have hb3 := below_next (below_next HBA.out hb2) hbX
    have hrn := heap_alloc_new w2 (.cells #[.int .u64 v0, .int .u64 v1, .int .u64 v2, .string v3] 26)
    have j0 := cell_of_row' (cur := [_, _, _, _]) hrn 0
    have j1 := cell_of_row' (cur := [_, _, _, _]) hrn 1
    have j2 := cell_of_row' (cur := [_, _, _, _]) hrn 2
    have j3 := cell_of_row' (cur := [_, _, _, _]) hrn 3
    obtain ⟨⟨k0, k1, k2, k3, k4, k5, k6, k7⟩, f0, f1, f2, f3, f4, f5, f6, f7⟩ := hO2.cells
    have p4 := Lib.hid (set8 hO2 (.int .u64 v0) (.int .u64 v1) (.int .u64 v2) (.string v3) (.int .u64 ((x : Int) - k)) (.int .i64 ((m : Int) + k)) (.int .u8 0) (.bool false))
    have HF := Lib.hid (below_set8 hb3 (Nat.le_refl _) (.int .u64 v0) (.int .u64 v1) (.int .u64 v2) (.string v3) (.int .u64 ((x : Int) - k)) (.int .i64 ((m : Int) + k)) (.int .u8 0) (.bool false))
    clear hO2 hb3 hbX hb2 hrn HS
    go_wp2
    refine bodyPost_ret (results_cell_row rfl _ _ (w.heap.size) 55 #[.int .u64 v0, .int .u64 v1, .int .u64 v2, .string v3, .int .u64 ((x : Int) - k), .int .i64 ((m : Int) + k), .int .u8 0, .bool false] (0, 0) _ rfl p4.out Tryd.underlying55 rfl (by kernel_rfl)) rfl ?_
    exact ⟨by rw [← HV0.out, ← HV1.out, ← HV2.out, ← HV3.out], HF.out⟩
end Go.Proofs.YthfgnhgijgjggaaDoor
/- Contract: the first Write to a bytes.Buffer. -/
namespace Go.Proofs.YthfgnhgijgjggaaDoor
open Go.RowKit

set_option maxRecDepth 100000 in
set_option maxHeartbeats 8000000 in
theorem bufWrite_nil (b : Nat) (cs : List Value) (ad : Addr) (n c : Nat) (w : World) (h : BufNil w b) (hn0 : 1 ≤ n) (h64 : n ≤ 64)
    (hn : cs.length = n) (hab : ad.block ≠ b) (hsrc : ∀ j v, cs[j]? = some v → w.cell? (ad.add j) = some v) (h1c : ∀ v ∈ cs, v.oneCell' = true) :
    Calls Tryd.prog 146 #[.pointer (some ⟨b, 0, none⟩), .slice (some ad) n c] w fun e w' => e = .returned (.tuple #[.int .i64 n, .nilIface]) ∧ BufRow w' w.heap.size b cs ∧ Keep (fun k => k = b) w w' := by
  obtain ⟨lr, hbk⟩ := h
  have hbw := block_of_row hbk
  have hbk1 := bufSet3c hbk (.int .i8 0)
  have hk1 : Keep (fun k => k = b) w (w.setCell ⟨b, 2, none⟩ (.int .i8 0)) := Keep.setCell (S := fun k => k = b) (Keep.refl _ _) rfl _ _
  have c2 : w.cell? ⟨b, 2, none⟩ = some (.int .i8 lr) := by rw [Lib.cell_of_heap hbk]; rfl
  have f2 : w.frozen? ⟨b, 2, none⟩ = false := Lib.frozen_of_heap hbk 2
  have hws1 : (w.setCell ⟨b, 2, none⟩ (.int .i8 0)).heap.size = w.heap.size := by simp [World.setCell]
  obtain ⟨w1, hw1⟩ : ∃ w1, w1 = w.setCell ⟨b, 2, none⟩ (.int .i8 0) := ⟨_, rfl⟩
  rw [← hw1] at hbk1 hk1 hws1
  have c0 : w1.cell? ⟨b, 0, none⟩ = some (.slice none 0 0) := by rw [Lib.cell_of_heap hbk1]; rfl
  have HT := Lib.hid (Tryd.Buffer_tryGrow_none b none 0 0 n w1 c0 (Nat.le_refl _) (Nat.zero_le _) (by omega))
  have HGR := Lib.hid (bufGrow_nil b n 0 w1 hbk1 hn0 h64)
  have hsrc1 : ∀ j v, cs[j]? = some v → w1.cell? (ad.add j) = some v := fun j v hj => hk1.cell (hsrc j v hj) (by rw [Lib.block_add]; exact hab)
  have HS1 := Lib.hid hsrc1
  have HK1 := Lib.hid hk1
  have HWS := Lib.hid hws1
  have HN := Lib.hid hn
  have H1C := Lib.hid h1c
  rw [hw1] at HT
  clear hsrc hsrc1 hk1 hn h1c hbk hbk1 c0 hws1
  go_enter Tryd.func146, Tryd.ntmps146
  go_wp2_with (go_at_call 148; with_reducible refine HT.out.mono ?_; rintro e w' ⟨rfl, rfl⟩)
  rw [← hw1]
  clear hw1
  refine HGR.out.mono ?_
  rintro e w3 ⟨rfl, hat, hkg⟩
  obtain ⟨g, cap, cur, lr, hbk3, hgN, hgb, hg3, hlc, hcm, hcs, htk⟩ := hat
  have hn := HN.out
  have h1c := H1C.out
  have hk3 : Keep (fun k => k = b) w w3 := HK1.out.trans hkg
  have hsrc3 : ∀ j v, cs[j]? = some v → w3.cell? (ad.add j) = some v := fun j v hj => hkg.cell (HS1.out j v hj) (by rw [Lib.block_add]; exact hab)
  have hgN2 : w.heap.size ≤ g := by have := HWS.out; omega
  rw [List.length_nil, Nat.zero_add] at hbk3 hlc
  have d0 : w3.cell? ⟨b, 0, none⟩ = some (.slice (some ⟨g, 0, none⟩) n cap) := by rw [Lib.cell_of_heap hbk3]; rfl
  have hcm' := hcm
  unfold maxLen at hcm'
  have hsl : ∀ W, (Instr.slice 43 (.slice (some ⟨g, 0, none⟩) n cap) (some (.int .i64 0)) none none).run Tryd.prog W = .ok (.slice (cutA (some ⟨g, 0, none⟩) cap 0) n cap) W := fun W => run_from (P := Tryd.prog) Tryd.underlying43 info_u8 (some ⟨g, 0, none⟩) n cap 0 (by omega) W
  obtain ⟨w4, hcp, hg4, hk4⟩ := run_copy_keep (P := Tryd.prog) w3 43 43 3 5 Tryd.underlying43 hsz1 (cutA (some ⟨g, 0, none⟩) cap 0) n cap ad n c g 0 cur 5 hg3 cs hn (Nat.le_refl _) (fun hp => by rw [cutA_own _ _ _ _ (by omega)]) hsrc3 (by omega) h1c
  have hbk4 := hk4.row hbk3 (by omega)
  have hk5 : Keep (fun k => k = b) w w4 := hk3.trans2 hk4 (fun i hi e => by omega)
  have HF : Hid (BufRow w4 w.heap.size b cs ∧ Keep (fun k => k = b) w w4) := by
    refine Lib.hid ⟨⟨g, cap, _, lr, ?_, hgN2, hgb, hg4, ?_, hcm, ?_, ?_⟩, hk5⟩
    · rw [hn]; exact hbk4
    · rw [hn]; omega
    · rw [← Array.length_toList]; simp; omega
    · rw [hn]; simp [← hn]
  clear hsrc3 h1c hg3 hbk3 hk3 hn htk hcs hbk4 hk5 hg4 hk4 hgN hcm hkg
  go_wp2
  go_ret2
  exact ⟨rfl, HF.out.1, HF.out.2⟩
end Go.Proofs.YthfgnhgijgjggaaDoor
/- Contract: util.LdWrite into a bytes.Buffer. -/
namespace Go.Proofs.YthfgnhgijgjggaaDoor
open Go.RowKit

/-- The bytes of strings, one behind the other. -/
def jn (ss : List ByteArray) : List UInt8 := (ss.map (fun s => s.data.toList)).flatten
theorem jn_nil : jn [] = [] := rfl
theorem jn_take (ss : List ByteArray) (k : Nat) (s : ByteArray) (h : ss[k]? = some s) : jn (ss.take (k + 1)) = jn (ss.take k) ++ s.data.toList := by
  unfold jn
  rw [List.take_add_one, h]
  simp
theorem jn_len (ss : List ByteArray) (m : Nat) (h : ∀ s ∈ ss, s.size ≤ m) : (jn ss).length ≤ ss.length * m := by
  induction ss with
  | nil => simp [jn]
  | cons s ss ih =>
    have h1 := ih (fun x hx => h x (by simp [hx]))
    have h2 := h s (by simp)
    have e : jn (s :: ss) = s.data.toList ++ jn ss := rfl
    rw [e, List.length_append, List.length_cons, Nat.succ_mul]
    have h3 : s.data.toList.length = s.size := ba_len s
    omega

theorem uvarint_len3 {n : Nat} (h : n < 2097152) : (Lib.uvarint n).length ≤ 3 := by
  by_cases h1 : n < 128
  · rw [Lib.uvarint_small h1]; simp
  · rw [Lib.uvarint_big (by omega), List.length_cons]
    by_cases h2 : n / 128 < 128
    · rw [Lib.uvarint_small h2]; simp
    · rw [Lib.uvarint_big (by omega), List.length_cons, Lib.uvarint_small (by omega)]; simp

theorem nil_bufWrite (a : Addr) (w : World) : (nilAhead 359 110 (.pointer (some a)) "Write").run Tryd.prog w = .ok (some false) w := by kernel_rfl
theorem method_bufWrite (a : Addr) (w : World) : (method 359 110 (.pointer (some a)) "Write").run Tryd.prog w = .ok (146, .pointer (some a)) w := by kernel_rfl

abbrev bufV (b : Nat) : Value := .iface 110 (.pointer (some ⟨b, 0, none⟩))

theorem cells_src {w : World} {g : Nat} {l : List UInt8} (h : ∀ i (hi : i < l.length), w.cell? ⟨g, 0 + i, none⟩ = some (.int .u8 (l[i].toNat))) : ∀ j v, (Lib.byteCells l)[j]? = some v → w.cell? ((⟨g, 0, none⟩ : Addr).add j) = some v := by
  intro j v hv
  have hj : j < l.length := by
    rcases Nat.lt_or_ge j l.length with h | h
    · exact h
    · rw [List.getElem?_eq_none (by rw [Lib.byteCells_length]; exact h)] at hv; cases hv
  have ead : (⟨g, 0, none⟩ : Addr).add j = ⟨g, 0 + j, none⟩ := by by_cases h : j = 0 <;> simp [Addr.add, h]
  rw [ead, h j hj]
  simp only [Lib.byteCells, List.getElem?_map, List.getElem?_eq_getElem hj, Option.map_some, Option.some.injEq] at hv
  rw [← hv]

set_option maxRecDepth 100000 in
set_option maxHeartbeats 8000000 in
theorem ldWrite_any (b lo : Nat) (v : Value) (ss : List ByteArray) (w : World) (hnil : BufNil w b) (hp : Parts w lo v ss) (hlo : b < lo) (hss : ∀ s ∈ ss, s.size ≤ 16384) (hn : ss.length ≤ 50) :
    Calls Tryd.prog 53 #[bufV b, v] w fun e w' => e = .returned .nilIface ∧ (∃ N, b < N ∧ BufRow w' N b (Lib.byteCells (Lib.uvarint (jn ss).length ++ jn ss))) ∧ Keep (fun k => k = b) w w' := by
  obtain ⟨A, c, rfl, hc, hcells⟩ := hp
  obtain ⟨n, hN⟩ : ∃ n, n = ss.length := ⟨_, rfl⟩
  have hlen := jn_len ss 16384 hss
  have hlens : ∀ k, (jn (ss.take k)).length ≤ 819200 := fun k => by
    have := jn_len (ss.take k) 16384 (fun s hs => hss s (List.mem_of_mem_take hs))
    have h2 : (ss.take k).length ≤ 50 := by rw [List.length_take]; omega
    have h3 : (ss.take k).length * 16384 ≤ 50 * 16384 := Nat.mul_le_mul_right _ h2
    omega
  have hbw : b < w.heap.size := by obtain ⟨lr, h⟩ := hnil; exact block_of_row h
  rw [← hN] at hc hn
  have HC := Lib.hid hcells
  have HN := Lib.hid hN
  have HS := Lib.hid hss
  have HLS := Lib.hid hlens
  have HLS2 := Lib.hid hlens
  have HNIL := Lib.hid hnil
  rw [← hN]
  clear hcells hc hN hss hlen hlens hnil
  have part : ∀ k, k < n → ∃ g s, A = some ⟨g, 0, none⟩ ∧ lo ≤ g ∧ g < w.heap.size ∧ ss[k]? = some s ∧ s.size ≤ 16384 ∧ ∃ b' c', w.cell? ⟨g, 0 + k, none⟩ = some (.slice (some ⟨b', 0, none⟩) s.size c') ∧ s.size ≤ c' ∧ lo ≤ b' ∧ b' < w.heap.size ∧ ∀ i (h : i < s.data.toList.length), w.cell? ⟨b', 0 + i, none⟩ = some (.int .u8 (s.data.toList[i].toNat)) := by
    intro k hk
    obtain ⟨g, e, h1, h2, h3⟩ := HC.out (by rw [← HN.out]; omega)
    have hks : k < ss.length := by rw [← HN.out]; exact hk
    obtain ⟨x, hx, b', c', e', h4, h5, h6, -, h7⟩ := h3 k _ (List.getElem?_eq_getElem hks)
    exact ⟨g, ss[k], e, h1, h2, List.getElem?_eq_getElem hks, HS.out _ (List.getElem_mem hks), b', c', by rw [hx, e'], h4, h5, h6, h7⟩
  have HP := Lib.hid part
  clear part
  go_enter Tryd.func53, Tryd.ntmps53
  go_wp2
  go_loop [5, 16] (fun x i => ∃ (k : Nat), k ≤ n ∧ i = .int .i64 k ∧ x = .int .u64 ((jn (ss.take k)).length : Nat)) (fun _ i => n - (intOf i).toNat)
  case atStart => exact ⟨0, Nat.zero_le _, rfl, rfl⟩
  case round =>
    obtain ⟨k, hk, rfl, rfl⟩ := hrel
    have hb1 := HLS.out k
    by_cases hlt : k < n
    · obtain ⟨g, s, rfl, hg1, hg2, hsk, hsz, b', c', hcell, hc', -, -, -⟩ := HP.out k hlt
      rw [Nat.zero_add] at hcell
      have HE := Lib.hid (jn_take ss k s hsk)
      clear hsk
      go_wp2
      go_round
      case rel => exact ⟨k + 1, by omega, by go_num, by rw [HE.out, List.length_append, ba_len]; go_num⟩
      case measure => simp [intOf]; omega
    · obtain rfl : k = n := by omega
      have hall : ss.take k = ss := List.take_of_length_le (by rw [HN.out]; exact Nat.le_refl _)
      rw [hall] at hb1 ⊢
      clear hall
      obtain ⟨T, hT⟩ : ∃ T, T = (jn ss).length := ⟨_, rfl⟩
      rw [← hT] at hb1 ⊢
      have hU := uvarint_len3 (n := T) (by omega)
      have hU0 := Lib.uvarint_pos T
      obtain ⟨w1, hmk0, hbl1, hs1, hrow⟩ := make_bytes (P := Tryd.prog) Tryd.underlying43 info_u8 w 8 (by omega)
      have hmk : (Instr.makeSlice 43 (.int .i64 8) (.int .i64 8)).run Tryd.prog w = .ok (.slice (some ⟨w.heap.size, 0, none⟩) 8 8) w1 := hmk0
      have HPU := Lib.hid (putUvW_any w.heap.size 0 8 8 T (List.replicate 8 (.int .u8 0)) 5 w1 (by omega) hrow (by simp; omega) (by omega))
      obtain ⟨L, hL⟩ : ∃ L, L = (Lib.uvarint T).length := ⟨_, rfl⟩
      rw [← hL] at hU hU0 HPU
      have HLL := Lib.hid hL
      have HTT := Lib.hid hT
      have HS1 := Lib.hid hs1
      have HBL := Lib.hid hbl1
      have hmf : ∀ (fn : Fn) (first cap : Array Value) (w : World), (Instr.makeFunc fn first cap).run Tryd.prog w = .ok (.func fn first cap) w := fun _ _ _ _ => rfl
      have hna := fun w => nil_bufWrite ⟨b, 0, none⟩ w
      have hme := fun w => method_bufWrite ⟨b, 0, none⟩ w
      have hL0 : (0 : Int) ≤ (L : Int) := by omega
      have hL8 : (L : Int) ≤ 8 := by omega
      clear hmk0 hbl1 hs1 hrow hL hT
      go_wp2_with fail
      refine HPU.out.mono ?_
      rintro e w2 ⟨rfl, hr2, ht2⟩
      have hbl2 : Below w.heap.size w w2 := HBL.out.trans (ht2.below (Nat.le_refl _))
      have hs2 : w2.heap.size = w.heap.size + 1 := by rw [ht2.size, HS1.out]
      have hnil2 : BufNil w2.drew b := by obtain ⟨lr, h⟩ := HNIL.out; exact ⟨lr, (hbl2.block b hbw).trans h⟩
      have hsrc : ∀ j v, (Lib.byteCells (Lib.uvarint T))[j]? = some v → w2.drew.cell? ((⟨w.heap.size, 0, none⟩ : Addr).add j) = some v := by
        intro j v hv
        have hjl : j < L := by
          rcases Nat.lt_or_ge j L with h | h
          · exact h
          · rw [List.getElem?_eq_none (by rw [Lib.byteCells_length, ← HLL.out]; exact h)] at hv; cases hv
        have hc := World.news_of_block (w := w2) hr2.out j v ?_
        · exact hc
        · rw [show (splice (List.replicate 8 (Value.int IntKind.u8 0)) 0 (Lib.byteCells (Lib.uvarint T))).toArray.toList = splice (List.replicate 8 (Value.int IntKind.u8 0)) 0 (Lib.byteCells (Lib.uvarint T)) from rfl, splice_get _ _ _ (by rw [Lib.byteCells_length, ← HLL.out]; simp; omega), if_pos (by rw [Lib.byteCells_length, ← HLL.out]; omega)]
          simpa using hv
      have HW := Lib.hid (bufWrite_nil b (Lib.byteCells (Lib.uvarint T)) ⟨w.heap.size, 0, none⟩ L 8 w2.drew hnil2 (by omega) (by omega) (by rw [Lib.byteCells_length, ← HLL.out]) (by show w.heap.size ≠ b; omega) hsrc (Lib.byteCells_one _))
      have HS2 := Lib.hid hs2
      have HBL2 := Lib.hid hbl2
      clear hr2 ht2 hbl2 hs2 hnil2 hsrc hmk HPU
      go_wp2_with fail
      go_region_with (go_at_call 146; refine HW.out.mono ?_; rintro e w3 ⟨rfl, hbr, hk3⟩)
      have hN1 : w2.drew.heap.size = w.heap.size + 1 := HS2.out
      have hkw3 : Keep (fun q => q = b) w w3 := (HBL2.out.keep.trans (keep_drew _ _)).trans hk3
      have hsz3 : w2.drew.heap.size ≤ w3.heap.size := hk3.size
      rw [hN1] at hbr hsz3
      have HBR := Lib.hid hbr
      have HKW := Lib.hid hkw3
      have hjn0 : jn (ss.take 0) = [] := rfl
      clear HW hk3 hbr hkw3 hN1 HS2 HBL2 HLS hlt HS1 HBL hmf hL0 hL8 hU hU0 HLL
      go_wp2
      go_loopw [46] (fun i wr => ∃ (m : Nat), m ≤ k ∧ i = .int .i64 m ∧ Hid (BufRow wr (w.heap.size + 1) b (Lib.byteCells (Lib.uvarint T ++ jn (ss.take m)))) ∧ Hid (Keep (fun q => q = b ∨ w.heap.size + 1 ≤ q) w3 wr)) (fun i _ => k - (intOf i).toNat)
      case atStart => exact ⟨0, Nat.zero_le _, rfl, Lib.hid (by rw [hjn0, List.append_nil]; exact HBR.out), Lib.hid (Keep.refl _ _)⟩
      case round =>
        obtain ⟨m, hm, rfl, hbm, hkm⟩ := hrel
        by_cases hlt : m < k
        · obtain ⟨g, s, rfl, hg1, hg2, hsk, hsz, b', c', hcell, hc', hb1', hb2', hcs⟩ := HP.out m hlt
          rw [Nat.zero_add] at hcell
          have hcw : wr.cell? ⟨g, m, none⟩ = some (.slice (some ⟨b', 0, none⟩) s.size c') := hkm.out.cell (HKW.out.cell hcell (by show ¬ g = b; omega)) (by show ¬ (g = b ∨ w.heap.size + 1 ≤ g); omega)
          have hsw := cells_src (w := wr) (g := b') (l := s.data.toList) (fun i hi => hkm.out.cell (HKW.out.cell (hcs i hi) (by show ¬ b' = b; omega)) (by show ¬ (b' = b ∨ w.heap.size + 1 ≤ b'); omega))
          have hbl : (Lib.byteCells (Lib.uvarint T ++ jn (ss.take m))).length + s.size ≤ 140737488355328 ∧ 0 < (Lib.byteCells (Lib.uvarint T ++ jn (ss.take m))).length := by
            have h1 := HLS2.out m
            have h2 := uvarint_len3 (n := T) (by omega)
            have h3 := Lib.uvarint_pos T
            rw [Lib.byteCells_length, List.length_append]
            omega
          have HW := Lib.hid (bufWrite_row (w.heap.size + 1) b (Lib.byteCells (Lib.uvarint T ++ jn (ss.take m))) (Lib.byteCells s.data.toList) ⟨b', 0, none⟩ s.size c' wr hbm.out (by have := hkm.out.size; omega) (by omega) hbl.2 (Lib.byteCells_one _) (by rw [Lib.byteCells_length, ba_len]) (by show b' ≠ b; omega) (by show b' < w.heap.size + 1; omega) hsw (Lib.byteCells_one _) hbl.1)
          have HE := Lib.hid (jn_take ss m s hsk)
          clear hcell hcs hsw hbl hsk
          go_wp2_with (go_at_call 146; refine HW.out.mono ?_; rintro e w5 ⟨rfl, hbr, hk5⟩)
          go_roundw
          case rel => exact ⟨m + 1, by omega, by go_num, Lib.hid (by rw [HE.out, ← List.append_assoc, Lib.byteCells_append]; exact hbr), Lib.hid (hkm.out.trans hk5)⟩
          case measure => simp [intOf]; omega
        · obtain rfl : m = k := by omega
          have hall : ss.take m = ss := List.take_of_length_le (by rw [HN.out]; exact Nat.le_refl _)
          rw [hall] at hbm
          clear hall
          go_wp2
          go_ret
          rw [← HTT.out]
          exact ⟨rfl, ⟨w.heap.size + 1, by omega, hbm.out⟩, HKW.out.trans2 hkm.out (fun i hi h => by omega)⟩
end Go.Proofs.YthfgnhgijgjggaaDoor
/- Contracts: impl.LdWrite, laws.ldOne. -/
namespace Go.Proofs.YthfgnhgijgjggaaDoor
open Go.RowKit

theorem BufRow.is {w : World} {N b : Nat} {bs : List Value} (h : BufRow w N b bs) : Lib.IsBuffer 108 5 0 b bs w := by
  obtain ⟨g, cap, cur, lr, hbk, _, hgb, hg, hlc, hcm, hcs, htk⟩ := h
  exact ⟨Nat.zero_le _, _, _, hbk, ⟨by rw [Nat.mul_one], .inr ⟨g, cap, cur, rfl, Nat.zero_le _, hg, by omega, hcm, by omega, by rw [Nat.mul_one]; exact htk⟩⟩, by simp [Value.ownBlock]; exact hgb⟩

set_option maxRecDepth 100000 in
set_option maxHeartbeats 4000000 in
theorem iLdWrite (v : Value) (ss : List ByteArray) (w : World) (hs : SS w v ss) (hss : ∀ s ∈ ss, s.size ≤ 16384) (hn : ss.length ≤ 50) :
    Calls Tryd.prog 29 #[v] w fun e w' => e = .returned (.string ⟨(Lib.uvarint (jn ss).length ++ jn ss).toArray⟩) ∧ Below w.heap.size w w' := by
  have hA : Below w.heap.size w (w.alloc (.cells #[.slice none 0 0, .int .i64 0, .int .i8 0] 108)) := (Below.refl _ _).alloc (Nat.le_refl _) _
  have hrow := heap_alloc_new w (.cells #[.slice none 0 0, .int .i64 0, .int .i8 0] 108)
  have hsz : (w.alloc (.cells #[.slice none 0 0, .int .i64 0, .int .i8 0] 108)).heap.size = w.heap.size + 1 := by simp
  obtain ⟨w1, hw1⟩ : ∃ w1, w1 = w.alloc (.cells #[.slice none 0 0, .int .i64 0, .int .i8 0] 108) := ⟨_, rfl⟩
  rw [← hw1] at hA hrow hsz
  have HB := Lib.hid (bytesOf_any v ss w1 (hs.below hA) (by omega))
  have HR := Lib.hid hrow
  have HA := Lib.hid hA
  have HSZ := Lib.hid hsz
  have HS := Lib.hid hss
  have HN := Lib.hid hn
  rw [hw1] at HB
  clear hs hrow hA hsz hss hn
  go_enter Tryd.func29, Tryd.ntmps29
  go_wp2_with fail
  refine HB.out.mono ?_
  rw [← hw1]
  clear hw1
  rintro e w2 ⟨⟨v', rfl, hp⟩, hb2⟩
  have hnil : BufNil w2 w.heap.size := ⟨0, row_below hb2 (block_of_row HR.out) HR.out⟩
  have HL := Lib.hid (ldWrite_any w.heap.size w1.heap.size v' ss w2 hnil hp (by rw [HSZ.out]; omega) HS.out HN.out)
  have b2 := Lib.hid (below_next HA.out hb2)
  clear hp hb2 hnil HB
  go_wp2_with fail
  refine HL.out.mono ?_
  rintro e w3 ⟨rfl, ⟨N, hN, hbr⟩, hk⟩
  have HST := Lib.hid (Tryd.Buffer_String 0 w.heap.size _ w3 hbr.is)
  have b3 : Below w.heap.size w w3 := b2.out.trans (hk.below (fun k hk e => by omega) b2.out.size)
  clear hbr hk
  go_wp2_with fail
  refine HST.out.mono ?_
  rintro e w4 ⟨rfl, q, rfl⟩
  go_wp2
  go_ret
  exact ⟨rfl, b3.drewN _⟩

theorem uvDec_3abc : uvDec (⟨#[3, 97, 98, 99]⟩ : ByteArray).data.toList = .ok 3 1 := rfl

set_option maxRecDepth 100000 in
set_option maxHeartbeats 4000000 in
theorem ldOne_any (w : World) (e0 e1 : Addr) (t2 t3 : TypeId) (p2 p3 : Value) (he : UvErrs w.heap.size w e0 e1 (.iface t2 p2) (.iface t3 p3)) :
    Calls Tryd.prog 26 #[] w fun e w' => e = .returned (.bool true) ∧ Below w.heap.size w w' := by
  have HRD := Lib.hid (iLdRead_ok ⟨#[3, 97, 98, 99]⟩ (by decide) w e0 e1 t2 t3 p2 p3 he 3 1 uvDec_3abc false 100 (by omega) (fun h => by cases h) (by decide) ⟨#[97, 98, 99]⟩ rfl)
  have HW := fun (W : World) (v : Value) (h : SS W v [⟨#[97]⟩, ⟨#[98, 99]⟩]) => Lib.hid (iLdWrite v [⟨#[97]⟩, ⟨#[98, 99]⟩] W h (by decide) (by decide))
  have hout : (⟨(Lib.uvarint (jn [⟨#[97]⟩, ⟨#[98, 99]⟩]).length ++ jn [⟨#[97]⟩, ⟨#[98, 99]⟩]).toArray⟩ : ByteArray) = ⟨#[3, 97, 98, 99]⟩ := by
    rw [show (jn [⟨#[97]⟩, ⟨#[98, 99]⟩]) = [97, 98, 99] from rfl]
    rw [Lib.uvarint_small (by decide)]
    rfl
  rw [hout] at HW
  clear hout he
  go_enter Tryd.func26, Tryd.ntmps26
  go_wp2_with fail
  refine HRD.out.mono ?_
  rintro e w1 ⟨rfl, hb1⟩
  have HB1 := Lib.hid hb1
  clear hb1
  go_wp2_with fail
  have hrow := heap_alloc_new w1 (.cells #[.string ⟨#[97]⟩, .string ⟨#[98, 99]⟩] 9)
  have hss : SS (w1.alloc (.cells #[.string ⟨#[97]⟩, .string ⟨#[98, 99]⟩] 9)) (.slice (some ⟨w1.heap.size, 0, none⟩) 2 2) [⟨#[97]⟩, ⟨#[98, 99]⟩] :=
    ⟨_, 2, rfl, by decide, fun _ => ⟨_, 0, rfl, fun j s hj => by
      match j, hj with
      | 0, hj => obtain rfl : (⟨#[97]⟩ : ByteArray) = s := by simpa using hj
                 exact cell_of_row' (cur := [_, _]) hrow 0
      | 1, hj => obtain rfl : (⟨#[98, 99]⟩ : ByteArray) = s := by simpa using hj
                 exact cell_of_row' (cur := [_, _]) hrow 1⟩⟩
  have hal : Below w.heap.size w (w1.alloc (.cells #[.string ⟨#[97]⟩, .string ⟨#[98, 99]⟩] 9)) := HB1.out.alloc HB1.out.size _
  refine (HW _ _ hss).out.mono ?_
  rintro e w2 ⟨rfl, hb2⟩
  have b2 := below_next hal hb2
  clear hrow hss hal hb2
  go_wp2
  go_ret
  exact ⟨rfl, b2⟩
end Go.Proofs.YthfgnhgijgjggaaDoor
/- '==' of two structs, field by field, as one Bool. No program in sight. -/
namespace Go.Proofs.YthfgnhgijgjggaaDoor
section
variable {P : Program} {d : Nat} {xs ys : Array Value} {f : Field} {fs : List Field} {a b : Value} {r s : Bool} {w : World}
theorem fields_last (hn : f.name ≠ "_") (ha : (part f.type xs f.offset).run P w = .ok a w) (hb : (part f.type ys f.offset).run P w = .ok b w) (he : (Op.equalIn d f.type a b).run P w = .ok r w) : (Op.eqFields d xs ys [f]).run P w = .ok r w := by
  simp only [Op.eqFields, if_pos hn, Sem.run_bind, ha, hb, he, Result.andThen_ok]
  cases r <;> simp
theorem fields_more (hn : f.name ≠ "_") (ha : (part f.type xs f.offset).run P w = .ok a w) (hb : (part f.type ys f.offset).run P w = .ok b w) (he : (Op.equalIn d f.type a b).run P w = .ok r w) (hr : (Op.eqFields d xs ys fs).run P w = .ok s w) : (Op.eqFields d xs ys (f :: fs)).run P w = .ok (r && s) w := by
  rw [Op.eqFields]
  simp only [if_pos hn, Sem.run_bind, ha, hb, he, Result.andThen_ok]
  cases r with
  | false => simp
  | true => simpa using hr
theorem structs_equal {t : TypeId} {fs : Array Field} (hu : P.underlying t = some (.struct fs)) (hp : P.stoodInHeld t = false) (h : (Op.eqFields d xs ys fs.toList).run P w = .ok r w) : (Op.equalIn (d + 1) t (.agg xs) (.agg ys)).run P w = .ok r w := by
  have hf : P.fieldsOf t = fs := by simp [Program.fieldsOf, hu]
  rw [run_equalIn_struct (P := P) w d t xs ys (by rw [hf]; exact hu) hp, hf]
  exact h
end
end Go.Proofs.YthfgnhgijgjggaaDoor
