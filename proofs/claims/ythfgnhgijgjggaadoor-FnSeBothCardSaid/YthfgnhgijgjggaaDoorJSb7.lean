/- Contracts, joined (SvE IxA LdA LdB LdC SeA SeB LwA). -/
import Derived.Test.YthfgnhgijgjggaaDoorJSb1
import Derived.Test.YthfgnhgijgjggaaDoorJSb2
import Derived.Test.YthfgnhgijgjggaaDoorJSb3
import Derived.Test.YthfgnhgijgjggaaDoorJSb4
import Derived.Test.YthfgnhgijgjggaaDoorJSb6
import Derived.Maps.AppendAt
import Derived.OwnWalk
import Derived.Laws.AppendOwn
/- Contract: spec.ReadLong. -/
namespace Go.Proofs.YthfgnhgijgjggaaDoor
open Go.RowKit

abbrev lgZ : Obj := .cells #[.string ⟨#[]⟩, .int .i64 0, .int .u8 0, .bool false] 62
/-- A block of four cells that may be written. -/
structure Var4 (w : World) (g : Nat) (a b c d : Value) (t : TypeId) : Prop where
  row : w.heap[g]? = some (.cells #[a, b, c, d] t (0, 0))
theorem Var4.cells {w : World} {g : Nat} {a b c d : Value} {t : TypeId} (h : Var4 w g a b c d t) : (w.cell? ⟨g, 0, none⟩ = some a ∧ w.cell? ⟨g, 1, none⟩ = some b ∧ w.cell? ⟨g, 2, none⟩ = some c ∧ w.cell? ⟨g, 3, none⟩ = some d) ∧
    (w.frozen? ⟨g, 0, none⟩ = false ∧ w.frozen? ⟨g, 1, none⟩ = false ∧ w.frozen? ⟨g, 2, none⟩ = false ∧ w.frozen? ⟨g, 3, none⟩ = false) :=
  ⟨⟨cell_of_row' (cur := [_, _, _, _]) h.row 0, cell_of_row' (cur := [_, _, _, _]) h.row 1, cell_of_row' (cur := [_, _, _, _]) h.row 2, cell_of_row' (cur := [_, _, _, _]) h.row 3⟩,
   ⟨frozen_of_row' (cur := [_, _, _, _]) h.row 0, frozen_of_row' (cur := [_, _, _, _]) h.row 1, frozen_of_row' (cur := [_, _, _, _]) h.row 2, frozen_of_row' (cur := [_, _, _, _]) h.row 3⟩⟩

set_option maxRecDepth 100000 in
set_option maxHeartbeats 8000000 in
theorem rl_empty (s : ByteArray) (w : World) (z : Bool) (most : Nat) (h0 : s.size = 0) :
    Calls Tryd.prog 61 #[.string s, .bool z, .int .u64 most] w fun e w' => e = .returned (.agg #[.string ⟨#[]⟩, .int .i64 0, .int .u8 1, .bool false]) ∧ Below w.heap.size w w' := by
  have hA : Below w.heap.size w (w.alloc lgZ) := (Below.refl _ _).alloc (Nat.le_refl _) _
  have hr0 := heap_alloc_new w lgZ
  have HA := Lib.hid hA
  have HR0 := Lib.hid hr0
  have h1 : s.data.toList = [] := List.eq_nil_of_length_eq_zero (by rw [ba_len]; exact h0)
  have hs : s = ⟨#[]⟩ := by
    have h2 := ba_mk s
    rw [h1] at h2
    exact h2.symm
  clear h1
  subst hs
  go_enter Tryd.func61, Tryd.ntmps61
  obtain ⟨⟨k0, k1, k2, k3⟩, f0, f1, f2, f3⟩ := (Var4.mk HR0.out).cells
  have p4 := Lib.hid (heap_alloc_new w (.cells #[.string ⟨#[]⟩, .int .i64 0, .int .u8 1, .bool false] 62))
  have HF : Hid (Below w.heap.size w (w.alloc (.cells #[.string ⟨#[]⟩, .int .i64 0, .int .u8 1, .bool false] 62))) := Lib.hid ((Below.refl _ _).alloc (Nat.le_refl _) _)
  clear hA hr0
  go_wp2
  refine bodyPost_ret (results_cell_row rfl _ _ (w.heap.size) 62 #[.string ⟨#[]⟩, .int .i64 0, .int .u8 1, .bool false] (0, 0) _ rfl p4.out Tryd.underlying62 rfl (by kernel_rfl)) rfl ?_
  exact ⟨rfl, HF.out⟩

set_option maxRecDepth 100000 in
set_option maxHeartbeats 8000000 in
theorem rl_no (s : ByteArray) (w : World) (hm : s.size ≤ 33554432) (z : Bool) (most : Nat) (h0 : 0 < s.size) (hno : (uvDec s.data.toList).no) :
    Calls Tryd.prog 61 #[.string s, .bool z, .int .u64 most] w fun e w' => e = .returned (.agg #[.string ⟨#[]⟩, .int .i64 0, .int .u8 2, .bool false]) ∧ Below w.heap.size w w' := by
  have hA : Below w.heap.size w (w.alloc lgZ) := (Below.refl _ _).alloc (Nat.le_refl _) _
  have hr0 := heap_alloc_new w lgZ
  have HA := Lib.hid hA
  have HR0 := Lib.hid hr0
  have HC := Lib.hid (readVarint_no s (w.alloc lgZ) (by omega) hno)
  obtain ⟨n1, n2, n3⟩ := ba_nonempty h0
  go_enter Tryd.func61, Tryd.ntmps61
  go_wp2_with fail
  refine HC.out.mono ?_
  rintro e w1 ⟨⟨kk, hkk, rfl⟩, hb1⟩
  have hr1 := row_below hb1 (block_of_row HR0.out) HR0.out
  have hbA := below_next HA.out hb1
  obtain ⟨⟨k0, k1, k2, k3⟩, f0, f1, f2, f3⟩ := (Var4.mk hr1).cells
  have p4 := Lib.hid (set4 hr1 (.string ⟨#[]⟩) (.int .i64 0) (.int .u8 2) (.bool false))
  have HF := Lib.hid (below_set4 hbA (Nat.le_refl _) (.string ⟨#[]⟩) (.int .i64 0) (.int .u8 2) (.bool false))
  clear hr1 hbA hb1 hA hr0
  go_wp2
  refine bodyPost_ret (results_cell_row rfl _ _ (w.heap.size) 62 #[.string ⟨#[]⟩, .int .i64 0, .int .u8 2, .bool false] (0, 0) _ rfl p4.out Tryd.underlying62 rfl (by kernel_rfl)) rfl ?_
  exact ⟨rfl, HF.out⟩

set_option maxRecDepth 100000 in
set_option maxHeartbeats 8000000 in
theorem rl_big (s : ByteArray) (w : World) (hm : s.size ≤ 33554432) (z : Bool) (most : Nat) (h0 : 0 < s.size) (x m : Nat) (hd : uvDec s.data.toList = .ok x m) (hx : most < x) :
    Calls Tryd.prog 61 #[.string s, .bool z, .int .u64 most] w fun e w' => e = .returned (.agg #[.string ⟨#[]⟩, .int .i64 0, .int .u8 2, .bool false]) ∧ Below w.heap.size w w' := by
  have hA : Below w.heap.size w (w.alloc lgZ) := (Below.refl _ _).alloc (Nat.le_refl _) _
  have hr0 := heap_alloc_new w lgZ
  have HA := Lib.hid hA
  have HR0 := Lib.hid hr0
  have HC := Lib.hid (readVarint_ok s (w.alloc lgZ) (by omega) x m hd)
  obtain ⟨n1, n2, n3⟩ := ba_nonempty h0
  have hx2 : (most : Int) < x := by omega
  clear hd hx
  go_enter Tryd.func61, Tryd.ntmps61
  go_wp2_with fail
  refine HC.out.mono ?_
  rintro e w1 ⟨rfl, hb1⟩
  have hr1 := row_below hb1 (block_of_row HR0.out) HR0.out
  have hbA := below_next HA.out hb1
  obtain ⟨⟨k0, k1, k2, k3⟩, f0, f1, f2, f3⟩ := (Var4.mk hr1).cells
  have p4 := Lib.hid (set4 hr1 (.string ⟨#[]⟩) (.int .i64 0) (.int .u8 2) (.bool false))
  have HF := Lib.hid (below_set4 hbA (Nat.le_refl _) (.string ⟨#[]⟩) (.int .i64 0) (.int .u8 2) (.bool false))
  clear hr1 hbA hb1 hA hr0
  go_wp2
  refine bodyPost_ret (results_cell_row rfl _ _ (w.heap.size) 62 #[.string ⟨#[]⟩, .int .i64 0, .int .u8 2, .bool false] (0, 0) _ rfl p4.out Tryd.underlying62 rfl (by kernel_rfl)) rfl ?_
  exact ⟨rfl, HF.out⟩

set_option maxRecDepth 100000 in
set_option maxHeartbeats 8000000 in
theorem rl_end (s : ByteArray) (w : World) (hm : s.size ≤ 33554432) (z : Bool) (most : Nat) (h0 : 0 < s.size) (x m : Nat) (hd : uvDec s.data.toList = .ok x m) (hx0 : x = 0) (hz : z = true) :
    Calls Tryd.prog 61 #[.string s, .bool z, .int .u64 most] w fun e w' => e = .returned (.agg #[.string ⟨#[]⟩, .int .i64 (m : Int), .int .u8 1, .bool false]) ∧ Below w.heap.size w w' := by
  have hA : Below w.heap.size w (w.alloc lgZ) := (Below.refl _ _).alloc (Nat.le_refl _) _
  have hr0 := heap_alloc_new w lgZ
  have HA := Lib.hid hA
  have HR0 := Lib.hid hr0
  have HC := Lib.hid (readVarint_ok s (w.alloc lgZ) (by omega) x m hd)
  obtain ⟨n1, n2, n3⟩ := ba_nonempty h0
  subst hz
  have hx2 : (decide ((most : Int) < 0)) = false := by simp
  subst hx0
  clear hd
  go_enter Tryd.func61, Tryd.ntmps61
  go_wp2_with fail
  refine HC.out.mono ?_
  rintro e w1 ⟨rfl, hb1⟩
  have hr1 := row_below hb1 (block_of_row HR0.out) HR0.out
  have hbA := below_next HA.out hb1
  obtain ⟨⟨k0, k1, k2, k3⟩, f0, f1, f2, f3⟩ := (Var4.mk hr1).cells
  have p4 := Lib.hid (set4 hr1 (.string ⟨#[]⟩) (.int .i64 (m : Int)) (.int .u8 1) (.bool false))
  have HF := Lib.hid (below_set4 hbA (Nat.le_refl _) (.string ⟨#[]⟩) (.int .i64 (m : Int)) (.int .u8 1) (.bool false))
  clear hr1 hbA hb1 hA hr0
  go_wp2
  refine bodyPost_ret (results_cell_row rfl _ _ (w.heap.size) 62 #[.string ⟨#[]⟩, .int .i64 (m : Int), .int .u8 1, .bool false] (0, 0) _ rfl p4.out Tryd.underlying62 rfl (by kernel_rfl)) rfl ?_
  exact ⟨rfl, HF.out⟩

set_option maxRecDepth 100000 in
set_option maxHeartbeats 8000000 in
theorem rl_left (s : ByteArray) (w : World) (hm : s.size ≤ 33554432) (z : Bool) (most : Nat) (h0 : 0 < s.size) (x m : Nat) (hd : uvDec s.data.toList = .ok x m) (hx : x ≤ most) (hz : z = true → x ≠ 0) (hx0 : 0 < x) (hml : m = s.size) :
    Calls Tryd.prog 61 #[.string s, .bool z, .int .u64 most] w fun e w' => e = .returned (.agg #[.string ⟨#[]⟩, .int .i64 0, .int .u8 0, .bool true]) ∧ Below w.heap.size w w' := by
  have hA : Below w.heap.size w (w.alloc lgZ) := (Below.refl _ _).alloc (Nat.le_refl _) _
  have hr0 := heap_alloc_new w lgZ
  have HA := Lib.hid hA
  have HR0 := Lib.hid hr0
  have HC := Lib.hid (readVarint_ok s (w.alloc lgZ) (by omega) x m hd)
  obtain ⟨n1, n2, n3⟩ := ba_nonempty h0
  have hx2 : ((most : Int) < x) = False := by simp; omega
  have hx3 : (0 : Int) < x := by omega
  clear hd hx hx0
  subst hml
  cases z
  · clear hz
    go_enter Tryd.func61, Tryd.ntmps61
    go_wp2_with fail
    refine HC.out.mono ?_
    rintro e w1 ⟨rfl, hb1⟩
    have hr1 := row_below hb1 (block_of_row HR0.out) HR0.out
    have hbA := below_next HA.out hb1
    obtain ⟨⟨k0, k1, k2, k3⟩, f0, f1, f2, f3⟩ := (Var4.mk hr1).cells
    have p4 := Lib.hid (set4 hr1 (.string ⟨#[]⟩) (.int .i64 0) (.int .u8 0) (.bool true))
    have HF := Lib.hid (below_set4 hbA (Nat.le_refl _) (.string ⟨#[]⟩) (.int .i64 0) (.int .u8 0) (.bool true))
    clear hr1 hbA hb1 hA hr0
    go_wp2
    refine bodyPost_ret (results_cell_row rfl _ _ (w.heap.size) 62 #[.string ⟨#[]⟩, .int .i64 0, .int .u8 0, .bool true] (0, 0) _ rfl p4.out Tryd.underlying62 rfl (by kernel_rfl)) rfl ?_
    exact ⟨rfl, HF.out⟩
  · have hz2 : ((x : Int) == 0) = false := by have := hz rfl; simp; omega
    clear hz
    go_enter Tryd.func61, Tryd.ntmps61
    go_wp2_with fail
    refine HC.out.mono ?_
    rintro e w1 ⟨rfl, hb1⟩
    have hr1 := row_below hb1 (block_of_row HR0.out) HR0.out
    have hbA := below_next HA.out hb1
    obtain ⟨⟨k0, k1, k2, k3⟩, f0, f1, f2, f3⟩ := (Var4.mk hr1).cells
    have p4 := Lib.hid (set4 hr1 (.string ⟨#[]⟩) (.int .i64 0) (.int .u8 0) (.bool true))
    have HF := Lib.hid (below_set4 hbA (Nat.le_refl _) (.string ⟨#[]⟩) (.int .i64 0) (.int .u8 0) (.bool true))
    clear hr1 hbA hb1 hA hr0
    go_wp2
    refine bodyPost_ret (results_cell_row rfl _ _ (w.heap.size) 62 #[.string ⟨#[]⟩, .int .i64 0, .int .u8 0, .bool true] (0, 0) _ rfl p4.out Tryd.underlying62 rfl (by kernel_rfl)) rfl ?_
    exact ⟨rfl, HF.out⟩

set_option maxRecDepth 100000 in
set_option maxHeartbeats 8000000 in
theorem rl_short (s : ByteArray) (w : World) (hm : s.size ≤ 33554432) (z : Bool) (most : Nat) (h0 : 0 < s.size) (x m : Nat) (hd : uvDec s.data.toList = .ok x m) (hmost : most ≤ 33554432) (hx : x ≤ most) (hz : z = true → x ≠ 0) (hml : m < s.size) (hsh : s.size < m + x) :
    Calls Tryd.prog 61 #[.string s, .bool z, .int .u64 most] w fun e w' => e = .returned (.agg #[.string ⟨#[]⟩, .int .i64 0, .int .u8 2, .bool false]) ∧ Below w.heap.size w w' := by
  have hA : Below w.heap.size w (w.alloc lgZ) := (Below.refl _ _).alloc (Nat.le_refl _) _
  have hr0 := heap_alloc_new w lgZ
  have HA := Lib.hid hA
  have HR0 := Lib.hid hr0
  have HC := Lib.hid (readVarint_ok s (w.alloc lgZ) (by omega) x m hd)
  obtain ⟨n1, n2, n3⟩ := ba_nonempty h0
  have hx2 : ((most : Int) < x) = False := by simp; omega
  have hx3 : (0 : Int) < x := by omega
  have hml2 : ((m : Int) == s.size) = false := by simp; omega
  have wr : IntKind.u64.wrap ((s.size : Int) - m) = (s.size : Int) - m := IntWalk.u64_in _ (by omega)
  have hx4 : (s.size : Int) - m < x := by omega
  have hmle : m ≤ s.size := by omega
  have hx5 : x ≤ 33554432 := by omega
  clear hd hx hsh hml hmost
  cases z
  · clear hz
    go_enter Tryd.func61, Tryd.ntmps61
    go_wp2_with fail
    refine HC.out.mono ?_
    rintro e w1 ⟨rfl, hb1⟩
    have hr1 := row_below hb1 (block_of_row HR0.out) HR0.out
    have hbA := below_next HA.out hb1
    obtain ⟨⟨k0, k1, k2, k3⟩, f0, f1, f2, f3⟩ := (Var4.mk hr1).cells
    have p4 := Lib.hid (set4 hr1 (.string ⟨#[]⟩) (.int .i64 0) (.int .u8 2) (.bool false))
    have HF := Lib.hid (below_set4 hbA (Nat.le_refl _) (.string ⟨#[]⟩) (.int .i64 0) (.int .u8 2) (.bool false))
    clear hr1 hbA hb1 hA hr0
    go_wp2
    refine bodyPost_ret (results_cell_row rfl _ _ (w.heap.size) 62 #[.string ⟨#[]⟩, .int .i64 0, .int .u8 2, .bool false] (0, 0) _ rfl p4.out Tryd.underlying62 rfl (by kernel_rfl)) rfl ?_
    exact ⟨rfl, HF.out⟩
  · have hz2 : ((x : Int) == 0) = false := by have := hz rfl; simp; omega
    clear hz
    go_enter Tryd.func61, Tryd.ntmps61
    go_wp2_with fail
    refine HC.out.mono ?_
    rintro e w1 ⟨rfl, hb1⟩
    have hr1 := row_below hb1 (block_of_row HR0.out) HR0.out
    have hbA := below_next HA.out hb1
    obtain ⟨⟨k0, k1, k2, k3⟩, f0, f1, f2, f3⟩ := (Var4.mk hr1).cells
    have p4 := Lib.hid (set4 hr1 (.string ⟨#[]⟩) (.int .i64 0) (.int .u8 2) (.bool false))
    have HF := Lib.hid (below_set4 hbA (Nat.le_refl _) (.string ⟨#[]⟩) (.int .i64 0) (.int .u8 2) (.bool false))
    clear hr1 hbA hb1 hA hr0
    go_wp2
    refine bodyPost_ret (results_cell_row rfl _ _ (w.heap.size) 62 #[.string ⟨#[]⟩, .int .i64 0, .int .u8 2, .bool false] (0, 0) _ rfl p4.out Tryd.underlying62 rfl (by kernel_rfl)) rfl ?_
    exact ⟨rfl, HF.out⟩

set_option maxRecDepth 100000 in
set_option maxHeartbeats 8000000 in
theorem rl_ok (s : ByteArray) (w : World) (hm : s.size ≤ 33554432) (z : Bool) (most : Nat) (h0 : 0 < s.size) (x m : Nat) (hd : uvDec s.data.toList = .ok x m) (hmost : most ≤ 33554432) (hx : x ≤ most) (hz : z = true → x ≠ 0) (hx0 : 0 < x) (hml : m ≠ s.size) (hin : m + x ≤ s.size) :
    Calls Tryd.prog 61 #[.string s, .bool z, .int .u64 most] w fun e w' => e = .returned (.agg #[.string ⟨((s.data.toList.drop m).take x).toArray⟩, .int .i64 ((m : Int) + x), .int .u8 0, .bool false]) ∧ Below w.heap.size w w' := by
  have hA : Below w.heap.size w (w.alloc lgZ) := (Below.refl _ _).alloc (Nat.le_refl _) _
  have hr0 := heap_alloc_new w lgZ
  have HA := Lib.hid hA
  have HR0 := Lib.hid hr0
  have HC := Lib.hid (readVarint_ok s (w.alloc lgZ) (by omega) x m hd)
  obtain ⟨n1, n2, n3⟩ := ba_nonempty h0
  have hx2 : ((most : Int) < x) = False := by simp; omega
  obtain ⟨bs, hbs⟩ : ∃ bs : ByteArray, bs = ⟨((s.data.toList.drop m).take x).toArray⟩ := ⟨_, rfl⟩
  have TT := fun W => run_str_mid (P := Tryd.prog) Tryd.underlying9 s m (m + x) (by omega) (by omega) (m : Int) ((m : Int) + x) rfl (by omega) W
  rw [show m + x - m = x by omega, ← hbs] at TT
  rw [← hbs]
  have wr : IntKind.u64.wrap ((s.size : Int) - m) = (s.size : Int) - m := IntWalk.u64_in _ (by omega)
  have wr2 : IntKind.i64.wrap (x : Int) = x := IntWalk.i64_in _ (by omega)
  have wr3 : IntKind.i64.wrap ((m : Int) + x) = (m : Int) + x := IntWalk.i64_in _ (by omega)
  have hx4 : ((s.size : Int) - m < x) = False := by simp; omega
  have hx3 : (0 : Int) < x := by omega
  have hml2 : ((m : Int) == s.size) = false := by have := hml; simp; omega
  have hmle : m ≤ s.size := by omega
  have hx5 : x ≤ 33554432 := by omega
  clear hd hx hin hml hx0 hbs hmost
  cases z
  · clear hz
    go_enter Tryd.func61, Tryd.ntmps61
    go_wp2_with fail
    refine HC.out.mono ?_
    rintro e w1 ⟨rfl, hb1⟩
    have hr1 := row_below hb1 (block_of_row HR0.out) HR0.out
    have hbA := below_next HA.out hb1
    obtain ⟨⟨k0, k1, k2, k3⟩, f0, f1, f2, f3⟩ := (Var4.mk hr1).cells
    have p4 := Lib.hid (set4 hr1 (.string bs) (.int .i64 ((m : Int) + x)) (.int .u8 0) (.bool false))
    have HF := Lib.hid (below_set4 hbA (Nat.le_refl _) (.string bs) (.int .i64 ((m : Int) + x)) (.int .u8 0) (.bool false))
    clear hr1 hbA hb1 hA hr0
    go_wp2
    refine bodyPost_ret (results_cell_row rfl _ _ (w.heap.size) 62 #[.string bs, .int .i64 ((m : Int) + x), .int .u8 0, .bool false] (0, 0) _ rfl p4.out Tryd.underlying62 rfl (by kernel_rfl)) rfl ?_
    exact ⟨rfl, HF.out⟩
  · have hz2 : ((x : Int) == 0) = false := by have := hz rfl; simp; omega
    clear hz
    go_enter Tryd.func61, Tryd.ntmps61
    go_wp2_with fail
    refine HC.out.mono ?_
    rintro e w1 ⟨rfl, hb1⟩
    have hr1 := row_below hb1 (block_of_row HR0.out) HR0.out
    have hbA := below_next HA.out hb1
    obtain ⟨⟨k0, k1, k2, k3⟩, f0, f1, f2, f3⟩ := (Var4.mk hr1).cells
    have p4 := Lib.hid (set4 hr1 (.string bs) (.int .i64 ((m : Int) + x)) (.int .u8 0) (.bool false))
    have HF := Lib.hid (below_set4 hbA (Nat.le_refl _) (.string bs) (.int .i64 ((m : Int) + x)) (.int .u8 0) (.bool false))
    clear hr1 hbA hb1 hA hr0
    go_wp2
    refine bodyPost_ret (results_cell_row rfl _ _ (w.heap.size) 62 #[.string bs, .int .i64 ((m : Int) + x), .int .u8 0, .bool false] (0, 0) _ rfl p4.out Tryd.underlying62 rfl (by kernel_rfl)) rfl ?_
    exact ⟨rfl, HF.out⟩

set_option maxRecDepth 100000 in
set_option maxHeartbeats 8000000 in
theorem rl_zero (s : ByteArray) (w : World) (hm : s.size ≤ 33554432) (z : Bool) (most : Nat) (h0 : 0 < s.size) (m : Nat) (hd : uvDec s.data.toList = .ok 0 m) (hz : z = false) (hin : m ≤ s.size) :
    Calls Tryd.prog 61 #[.string s, .bool z, .int .u64 most] w fun e w' => e = .returned (.agg #[.string ⟨#[]⟩, .int .i64 (m : Int), .int .u8 0, .bool false]) ∧ Below w.heap.size w w' := by
  have hA : Below w.heap.size w (w.alloc lgZ) := (Below.refl _ _).alloc (Nat.le_refl _) _
  have hr0 := heap_alloc_new w lgZ
  have HA := Lib.hid hA
  have HR0 := Lib.hid hr0
  have HC := Lib.hid (readVarint_ok s (w.alloc lgZ) (by omega) 0 m hd)
  obtain ⟨n1, n2, n3⟩ := ba_nonempty h0
  have TT := fun W => run_str_mid (P := Tryd.prog) Tryd.underlying9 s m (m + 0) (by omega) (by omega) (m : Int) (m : Int) rfl (by omega) W
  rw [show m + 0 - m = 0 by omega, List.take_zero] at TT
  have wr : IntKind.u64.wrap ((s.size : Int) - m) = (s.size : Int) - m := IntWalk.u64_in _ (by omega)
  have hx4 : ((s.size : Int) - m < 0) = False := by simp; omega
  subst hz
  have hx2 : (decide ((most : Int) < 0)) = false := by simp
  clear hd
  go_enter Tryd.func61, Tryd.ntmps61
  go_wp2_with fail
  refine HC.out.mono ?_
  rintro e w1 ⟨rfl, hb1⟩
  have hr1 := row_below hb1 (block_of_row HR0.out) HR0.out
  have hbA := below_next HA.out hb1
  obtain ⟨⟨k0, k1, k2, k3⟩, f0, f1, f2, f3⟩ := (Var4.mk hr1).cells
  have p4 := Lib.hid (set4 hr1 (.string ⟨#[]⟩) (.int .i64 (m : Int)) (.int .u8 0) (.bool false))
  have HF := Lib.hid (below_set4 hbA (Nat.le_refl _) (.string ⟨#[]⟩) (.int .i64 (m : Int)) (.int .u8 0) (.bool false))
  clear hr1 hbA hb1 hA hr0
  go_wp2
  refine bodyPost_ret (results_cell_row rfl _ _ (w.heap.size) 62 #[.string ⟨#[]⟩, .int .i64 (m : Int), .int .u8 0, .bool false] (0, 0) _ rfl p4.out Tryd.underlying62 rfl (by kernel_rfl)) rfl ?_
  exact ⟨rfl, HF.out⟩
end Go.Proofs.YthfgnhgijgjggaaDoor
/- Contracts: internalio.ToByteReader, index.ReadCodec, impl.IxCodec. FnIxCodec's walk. -/
namespace Go.Proofs.YthfgnhgijgjggaaDoor
open Go.RowKit

set_option maxRecDepth 100000 in
set_option maxHeartbeats 1000000 in
theorem toByteReader (p : Nat) (w : World) : Calls Tryd.prog 106 #[rdV p] w fun e w' => e = .returned (rdV p) ∧ w' = w := by
  have hta : ∀ W, (Instr.typeAssert (rdV p) 165 192 true).run Tryd.prog W = .ok (.tuple #[rdV p, .bool true]) W := fun W => by kernel_rfl
  go_enter Tryd.func106, Tryd.ntmps106
  go_wp2
  go_ret
  exact ⟨rfl, rfl⟩

/-- What impl.IxCodec answers. -/
def UvR.ix : UvR → Value
  | .ok x _ => .tuple #[.int .u64 x, .bool true]
  | _ => .tuple #[.int .u64 0, .bool false]

theorem uvDec_1025 : uvDec (⟨#[129, 8]⟩ : ByteArray).data.toList = .ok 1025 2 := rfl

end Go.Proofs.YthfgnhgijgjggaaDoor
/- Contracts: (*bytes.Reader).Len, impl.kind, util.LdReadSize, util.LdRead over a reader of bytes. -/
namespace Go.Proofs.YthfgnhgijgjggaaDoor
open Go.RowKit

section
variable {P : Program}
/-- 'make([]byte, n)' of a uint64. -/
theorem make_bytes64 {t e : TypeId} (ht : P.underlying t = some (.slice e)) (hinfo : (P.info? e).map (fun i => (i.zero, i.size, i.bytes)) = some (some (.int .u8 0), 1, 1)) (w : World) (n : Nat) (hn : n ≤ 281474976710656) :
    ∃ w1, (Instr.makeSlice t (.int .u64 (n : Int)) (.int .u64 (n : Int))).run P w = .ok (.slice (some ⟨w.heap.size, 0, none⟩) n n) w1 ∧ Below w.heap.size w w1 ∧ w1.heap.size = w.heap.size + 1 ∧
      w1.heap[w.heap.size]? = some (.cells (List.replicate n (Value.int .u8 0)).toArray e (0, 0)) := by
  obtain ⟨i, hi, h2⟩ := Option.map_eq_some_iff.1 hinfo
  simp only [Prod.mk.injEq] at h2
  obtain ⟨hz, hsz, hby⟩ := h2
  have hr := run_make (P := P) w t e i _ ht hi hz .u64 .u64 (n : Int) (n : Int) (by omega) (by omega) (by rw [hby]; omega) (by omega)
  simp only [Int.toNat_natCast, hsz, Nat.mul_one] at hr
  refine ⟨_, hr, (Below.refl _ _).alloc (Nat.le_refl _) _, by simp, ?_⟩
  rw [heap_alloc_new]
  congr 2
  apply Array.ext
  · simp [size_madeCells]
  · intro j h1 h2
    have h0 : [Value.int IntKind.u8 0][j % 1]?.getD default = Value.int IntKind.u8 0 := by rw [Nat.mod_one]; rfl
    simp [madeCells, Value.cells, h0]
end

set_option maxRecDepth 100000 in
set_option maxHeartbeats 1000000 in
/-- How many bytes are left. -/
theorem rdLen (p : Nat) (v : Value) (l : List UInt8) (i : Nat) (w : World) (hr : Rdr w p v l i) :
    Calls Tryd.prog 51 #[.pointer (some ⟨p, 0, none⟩)] w fun e w' => e = .returned (.int .i64 ((l.length : Int) - i)) ∧ Keep (fun _ => False) w w' := by
  obtain ⟨⟨r, hrow⟩, ⟨⟨A0, c0, rfl, hc0, hcl⟩, hout⟩, hle, hfits⟩ := hr
  have h0 : w.cell? ⟨p, 0, none⟩ = some (.slice A0 l.length c0) := by rw [cell_of_row' (cur := [_, _, _]) hrow]; rfl
  have h1 : w.cell? ⟨p, 1, none⟩ = some (.int .i64 i) := by rw [cell_of_row' (cur := [_, _, _]) hrow]; rfl
  clear hcl hout hc0 hrow
  generalize l.length = n at *
  by_cases hi : i = n
  · subst hi
    go_enter Tryd.func51, Tryd.ntmps51
    go_wp2
    go_quiet (fail)
    go_wp2
    go_ret
    exact ⟨by rw [Int.sub_self]; rfl, keep_drewN _ _ _⟩
  · have hlt : i < n := by omega
    go_enter Tryd.func51, Tryd.ntmps51
    go_wp2
    go_quiet (fail)
    go_wp2
    go_quiet (fail)
    go_wp2
    go_ret
    exact ⟨rfl, (keep_drewN _ _ _).drewN _⟩

set_option maxRecDepth 100000 in
set_option maxHeartbeats 1000000 in
theorem kind_nil (w : World) : Calls Tryd.prog 52 #[.nilIface] w fun e w' => e = .returned (.int .u8 0) ∧ w' = w := by
  go_enter Tryd.func52, Tryd.ntmps52
  go_wp2
  go_ret
  exact ⟨rfl, rfl⟩

set_option maxRecDepth 100000 in
set_option maxHeartbeats 1000000 in
theorem kind_end (B : Nat) (w : World) (e0 : Addr) (he : ErrAt B w 0 e0) : Calls Tryd.prog 52 #[errV e0] w fun e w' => e = .returned (.int .u8 1) ∧ w' = w := by
  have heq := fun w => run_eqErr_same e0 w
  have hc := he.cell
  clear he
  go_enter Tryd.func52, Tryd.ntmps52
  go_wp2
  go_ret
  exact ⟨rfl, rfl⟩

set_option maxRecDepth 100000 in
set_option maxHeartbeats 1000000 in
theorem ldSize_ok (p : Nat) (v : Value) (l : List UInt8) (i : Nat) (w : World) (hr : Rdr w p v l i) (e0 e1 : Addr) (t2 t3 : TypeId) (p2 p3 : Value) (he : UvErrs p w e0 e1 (.iface t2 p2) (.iface t3 p3)) (x m : Nat) (hd : uvDec (l.drop i) = .ok x m) (z : Bool) (most : Nat) (hm : x ≤ most) (hz : z = true → x ≠ 0) :
    Calls Tryd.prog 86 #[rdV p, .bool z, .int .u64 most] w fun e w' => e = .returned (.tuple #[.int .u64 x, .nilIface]) ∧ Rdr w' p v l (i + m) ∧ Keep (fun k => k = p) w w' := by
  have HB := Lib.hid (readUv p v l i w hr e0 e1 t2 t3 p2 p3 he)
  rw [hd] at HB
  have HT := fun W => Lib.hid (toByteReader p W)
  clear hr he hd
  go_enter Tryd.func86, Tryd.ntmps86
  go_wp2_with fail
  refine (HT _).out.mono ?_
  rintro e w1 ⟨rfl, rfl⟩
  go_wp2_with fail
  refine HB.out.mono ?_
  unfold UvR.rd UvR.at_
  dsimp only
  rintro e w2 ⟨rfl, ⟨j, rfl, hr2⟩, hk⟩
  have HR2 := Lib.hid hr2
  clear hr2 HB HT
  cases z
  · by_cases h0 : x = 0
    · subst h0
      go_wp2
      go_ret2
      exact ⟨rfl, HR2.out, hk⟩
    · have hx : ((x : Int) == 0) = false := by simp; omega
      go_wp2
      go_ret2
      exact ⟨rfl, HR2.out, hk⟩
  · have hx : ((x : Int) == 0) = false := by have := hz rfl; simp; omega
    go_wp2
    go_ret2
    exact ⟨rfl, HR2.out, hk⟩

set_option maxRecDepth 100000 in
set_option maxHeartbeats 1000000 in
theorem ldSize_end (p : Nat) (v : Value) (l : List UInt8) (i : Nat) (w : World) (hr : Rdr w p v l i) (e0 e1 : Addr) (t2 t3 : TypeId) (p2 p3 : Value) (he : UvErrs p w e0 e1 (.iface t2 p2) (.iface t3 p3)) (m : Nat) (hd : uvDec (l.drop i) = .ok 0 m) (most : Nat) :
    Calls Tryd.prog 86 #[rdV p, .bool true, .int .u64 most] w fun e w' => e = .returned (.tuple #[.int .u64 0, errV e0]) ∧ Rdr w' p v l (i + m) ∧ Keep (fun k => k = p) w w' := by
  have HB := Lib.hid (readUv p v l i w hr e0 e1 t2 t3 p2 p3 he)
  rw [hd] at HB
  have HE := Lib.hid he
  have HT := fun W => Lib.hid (toByteReader p W)
  clear hr he hd
  go_enter Tryd.func86, Tryd.ntmps86
  go_wp2_with fail
  refine (HT _).out.mono ?_
  rintro e w1 ⟨rfl, rfl⟩
  go_wp2_with fail
  refine HB.out.mono ?_
  unfold UvR.rd UvR.at_
  dsimp only
  rintro e w2 ⟨rfl, ⟨j, rfl, hr2⟩, hk⟩
  have HR2 := Lib.hid hr2
  have hc := (HE.out.keep hk (fun k h => by omega)).eof.cell
  clear hr2 HB HT HE
  go_wp2
  go_quiet (fail)
  go_wp2
  go_ret2
  exact ⟨rfl, HR2.out.keep (keep_drewN (fun _ => False) _ _) (fun _ h => h.elim), hk.drewN _⟩
end Go.Proofs.YthfgnhgijgjggaaDoor
/- Contracts: util.LdRead over a reader of bytes, impl.LdRead. -/
namespace Go.Proofs.YthfgnhgijgjggaaDoor
open Go.RowKit

/-- A slice of the bytes l, and no error. -/
def BytesNil (l : List UInt8) (e : Ending) (w' : World) : Prop := ∃ A c, e = .returned (.tuple #[.slice A l.length c, .nilIface]) ∧ BS w' (.slice A l.length c) l

set_option maxRecDepth 100000 in
set_option maxHeartbeats 1000000 in
theorem ldRead_ok (p : Nat) (v : Value) (l : List UInt8) (i : Nat) (w : World) (hr : Rdr w p v l i) (e0 e1 : Addr) (t2 t3 : TypeId) (p2 p3 : Value) (he : UvErrs p w e0 e1 (.iface t2 p2) (.iface t3 p3)) (x m : Nat) (hd : uvDec (l.drop i) = .ok x m) (z : Bool) (most : Nat) (hm : x ≤ most) (hz : z = true → x ≠ 0) (hx : i + m + x ≤ l.length) (hl : l.length ≤ 281474976710656) :
    Calls Tryd.prog 50 #[rdV p, .bool z, .int .u64 most] w fun e w' => BytesNil ((l.drop (i + m)).take x) e w' ∧ Rdr w' p v l (i + m + x) ∧ Keep (fun k => k = p) w w' := by
  have HB := Lib.hid (ldSize_ok p v l i w hr e0 e1 t2 t3 p2 p3 he x m hd z most hm hz)
  have hpw : p < w.heap.size := by obtain ⟨r, hrow⟩ := hr.row; exact block_of_row hrow
  have hxs : x ≤ 281474976710656 := by omega
  have hlen : ((l.drop (i + m)).take x).length = x := by rw [List.length_take, List.length_drop]; omega
  have HL := Lib.hid hlen
  have HX := Lib.hid hx
  clear hr he hd hlen hz hm hx hl
  go_enter Tryd.func50, Tryd.ntmps50
  go_wp2_with fail
  refine HB.out.mono ?_
  rintro e w1 ⟨rfl, hr1, hk1⟩
  obtain ⟨w2, hmk, hb2, hs2, hrow⟩ := make_bytes64 (P := Tryd.prog) Tryd.underlying43 info_u8 w1 x hxs
  have hp1 : p < w1.heap.size := by have := hk1.size; omega
  have HF := Lib.hid (rdFull_ok p w1.heap.size x x v l (i + m) (List.replicate x (Value.int .u8 0)) 5 w2 (hr1.below hb2) hp1 hrow (by simp) HX.out)
  have HK1 := Lib.hid hk1
  have hs1 := hk1.size
  have HK2 := Lib.hid (hb2.keep (S := fun _ => False))
  clear hr1 hrow hk1 hs2
  generalize hg : w1.heap.size = g at *
  go_wp2_with fail
  refine HF.out.mono ?_
  rintro e w3 ⟨rfl, hr3, hrow3, hk3⟩
  have HBS := Lib.hid (BS.of_row hrow3.out (c := x) (by rw [HL.out]; exact Nat.le_refl _))
  have HR3 := Lib.hid hr3
  have hk : Keep (fun k => k = p) w w3 := HK1.out.trans2 (T := fun k => k = p ∨ k = g) ((HK2.out.mono (fun _ _ h => h.elim)).trans hk3) (fun k hk h => by omega)
  clear hr3 hrow3 hk3 hmk HF HB
  go_wp2
  go_ret2
  refine ⟨⟨some ⟨g, 0, none⟩, x, by rw [HL.out]; rfl, HBS.out⟩, HR3.out, hk⟩

set_option maxRecDepth 100000 in
set_option maxHeartbeats 1000000 in
theorem ldRead_end (p : Nat) (v : Value) (l : List UInt8) (i : Nat) (w : World) (hr : Rdr w p v l i) (e0 e1 : Addr) (t2 t3 : TypeId) (p2 p3 : Value) (he : UvErrs p w e0 e1 (.iface t2 p2) (.iface t3 p3)) (m : Nat) (hd : uvDec (l.drop i) = .ok 0 m) (most : Nat) :
    Calls Tryd.prog 50 #[rdV p, .bool true, .int .u64 most] w fun e w' => e = .returned (.tuple #[.slice none 0 0, errV e0]) ∧ Rdr w' p v l (i + m) ∧ Keep (fun k => k = p) w w' := by
  have HB := Lib.hid (ldSize_end p v l i w hr e0 e1 t2 t3 p2 p3 he m hd most)
  clear hr he hd
  go_enter Tryd.func50, Tryd.ntmps50
  go_wp2_with fail
  refine HB.out.mono ?_
  rintro e w1 ⟨rfl, hr1, hk1⟩
  have HR := Lib.hid hr1
  clear hr1
  go_wp2
  go_ret2
  exact ⟨rfl, HR.out, hk1⟩
end Go.Proofs.YthfgnhgijgjggaaDoor
/- Contracts: impl.LdRead. -/
namespace Go.Proofs.YthfgnhgijgjggaaDoor
open Go.RowKit

theorem Keep.below' {w w' : World} (h : Keep (fun _ => False) w w') : Below w.heap.size w w' := h.below (fun _ _ h => h) (Nat.le_refl _)

set_option maxRecDepth 100000 in
set_option maxHeartbeats 4000000 in
theorem iLdRead_ok (s : ByteArray) (hs : s.size ≤ 2147483647) (w : World) (e0 e1 : Addr) (t2 t3 : TypeId) (p2 p3 : Value) (he : UvErrs w.heap.size w e0 e1 (.iface t2 p2) (.iface t3 p3)) (x m : Nat) (hd : uvDec s.data.toList = .ok x m) (z : Bool) (most : Nat) (hm : x ≤ most) (hz : z = true → x ≠ 0) (hx : m + x ≤ s.size) (D : ByteArray) (hD : D = ⟨((s.data.toList.drop m).take x).toArray⟩) :
    Calls Tryd.prog 25 #[.string s, .bool z, .int .u64 most] w fun e w' => e = .returned (.tuple #[.string D, .int .i64 ((m : Int) + x), .int .u8 0]) ∧ Below w.heap.size w w' := by
  obtain ⟨A, c, w1, hconv, hb1, hbs⟩ := conv_in' w s
  have hl : s.data.toList.length = s.size := by rw [Array.length_toList]; rfl
  obtain ⟨l, hll⟩ : ∃ l, l = s.data.toList := ⟨_, rfl⟩
  rw [← hll] at hbs hl hd hD
  obtain ⟨N, hN⟩ : ∃ N, N = s.size := ⟨_, rfl⟩
  have HN := Lib.hid (newReader (.slice A s.size c) l w1 hbs (by omega))
  have he1 := Lib.hid ((he.keep (S := fun _ => False) hb1.keep (fun _ h => h.elim)).mono hb1.size)
  have HD := Lib.hid hd
  have HL := Lib.hid hl
  have HX := Lib.hid hx
  have HDD := Lib.hid hD
  have g1 : IntKind.i64.wrap ((s.size : Int) - ((s.size : Int) - ((m : Int) + x))) = (m : Int) + x := by rw [IntWalk.i64_in _ (by omega)]; omega
  clear hbs he hl hll hd hN hx hD
  go_enter Tryd.func25, Tryd.ntmps25
  go_wp2_with fail
  refine HN.out.mono ?_
  rintro e w2 ⟨rfl, hr, hs2, hb2⟩
  have b2 : Below w.heap.size w w2 := below_next hb1 hb2
  have he2 := he1.out.keep (S := fun _ => False) hb2.keep (fun _ h => h.elim)
  have HC := Lib.hid (ldRead_ok w1.heap.size _ l 0 w2 hr e0 e1 t2 t3 p2 p3 he2 x m HD.out z most hm hz (by have := HX.out; have := HL.out; omega) (by have := HL.out; omega))
  rw [Nat.zero_add] at HC
  have hw1 := hb1.size
  clear hr he2 hb2 HN hb1 hconv
  generalize w1.heap.size = q at *
  go_wp2_with fail
  refine HC.out.mono ?_
  rintro e w3 ⟨⟨A3, c3, rfl, hbs3⟩, hr3, hk3⟩
  have b3 : Below w.heap.size w w3 := b2.trans (hk3.below (fun k hk e => by omega) (by omega))
  have hcv : ∀ W, Below w3.heap.size w3 W → (convert 43 9 (.slice A3 ((l.drop m).take x).length c3)).run Tryd.prog W = .ok (.string D) W := fun W hW => by rw [HDD.out]; exact (hbs3.below hW).str (dst := 9) Tryd.underlying43 Tryd.underlying5 Tryd.underlying9
  have HLen := Lib.hid (rdLen q _ l (m + x) w3.drew hr3.drew)
  rw [HL.out] at HLen
  have h0 : Below w3.heap.size w3 w3.drew := below_drewN _ _ 1
  have hk0 := hcv _ h0
  generalize ((l.drop m).take x).length = n3 at *
  clear hbs3 hr3 hk3 HC HDD
  go_wp2_with fail
  go_region_with (first
    | (go_at_call 51; (with_reducible refine HLen.out.mono ?_); rintro e w4 ⟨rfl, hk4⟩; have h4 := below_next h0 hk4.below'; have hk5 := hcv _ h4)
    | (go_at_call 52; (with_reducible refine (kind_nil _).mono ?_); rintro e w5 ⟨rfl, rfl⟩))
  all_goals
    have b4 := below_next b3 h4
    go_wp2
    go_ret3
    exact ⟨by first | rfl | (rw [← g1]; rfl), b4⟩

set_option maxRecDepth 100000 in
set_option maxHeartbeats 4000000 in
theorem iLdRead_end (s : ByteArray) (hs : s.size ≤ 2147483647) (w : World) (e0 e1 : Addr) (t2 t3 : TypeId) (p2 p3 : Value) (he : UvErrs w.heap.size w e0 e1 (.iface t2 p2) (.iface t3 p3)) (m : Nat) (hd : uvDec s.data.toList = .ok 0 m) (most : Nat) :
    Calls Tryd.prog 25 #[.string s, .bool true, .int .u64 most] w fun e w' => e = .returned (.tuple #[.string ⟨#[]⟩, .int .i64 m, .int .u8 1]) ∧ Below w.heap.size w w' := by
  obtain ⟨A, c, w1, hconv, hb1, hbs⟩ := conv_in' w s
  have hl : s.data.toList.length = s.size := by rw [Array.length_toList]; rfl
  have hmz : m ≤ s.size := by have := (uvDec_ok hd).2.1; omega
  obtain ⟨l, hll⟩ : ∃ l, l = s.data.toList := ⟨_, rfl⟩
  rw [← hll] at hbs hl hd
  have HN := Lib.hid (newReader (.slice A s.size c) l w1 hbs (by omega))
  have he1 := Lib.hid ((he.keep (S := fun _ => False) hb1.keep (fun _ h => h.elim)).mono hb1.size)
  have HD := Lib.hid hd
  have HL := Lib.hid hl
  have g1 : IntKind.i64.wrap ((s.size : Int) - ((s.size : Int) - (m : Int))) = (m : Int) := by rw [IntWalk.i64_in _ (by omega)]; omega
  clear hbs he hl hll hd
  go_enter Tryd.func25, Tryd.ntmps25
  go_wp2_with fail
  refine HN.out.mono ?_
  rintro e w2 ⟨rfl, hr, hs2, hb2⟩
  have b2 : Below w.heap.size w w2 := below_next hb1 hb2
  have he2 := he1.out.keep (S := fun _ => False) hb2.keep (fun _ h => h.elim)
  have HC := Lib.hid (ldRead_end w1.heap.size _ l 0 w2 hr e0 e1 t2 t3 p2 p3 he2 m HD.out most)
  rw [Nat.zero_add] at HC
  have HE2 := Lib.hid he2
  have hw1 := hb1.size
  clear hr he2 hb2 HN hb1 hconv
  generalize w1.heap.size = q at *
  go_wp2_with fail
  refine HC.out.mono ?_
  rintro e w3 ⟨rfl, hr3, hk3⟩
  have b3 : Below w.heap.size w w3 := b2.trans (hk3.below (fun k hk e => by omega) (by omega))
  have HE3 := HE2.out.keep hk3 (fun k h => by omega)
  have hcv : ∀ W, (convert 43 9 (.slice none 0 0)).run Tryd.prog W = .ok (.string ⟨#[]⟩) W := fun W => (BS.nil W 0).str (dst := 9) Tryd.underlying43 Tryd.underlying5 Tryd.underlying9
  have HLen := Lib.hid (rdLen q _ l m w3.drew hr3.drew)
  rw [HL.out] at HLen
  have h0 : Below w3.heap.size w3 w3.drew := below_drewN _ _ 1
  have HK := fun W (h : Keep (fun _ => False) w3.drew W) => Lib.hid (kind_end _ W e0 (((HE3.keep (S := fun _ => False) (keep_drew _ w3) (fun _ h => h.elim)).keep (S := fun _ => False) h (fun _ h => h.elim)).eof))
  clear hr3 hk3 HC HE2 HE3
  go_wp2_with fail
  go_region_with (first
    | (go_at_call 51; (with_reducible refine HLen.out.mono ?_); rintro e w4 ⟨rfl, hk4⟩; have h4 := below_next h0 hk4.below'; have HK4 := HK _ hk4)
    | (go_at_call 52; (with_reducible refine HK4.out.mono ?_); rintro e w5 ⟨rfl, rfl⟩))
  all_goals
    have b4 := below_next b3 h4
    clear HK
    go_wp2
    go_ret3
    exact ⟨by first | rfl | (rw [← g1]; rfl), b4⟩
end Go.Proofs.YthfgnhgijgjggaaDoor
/- Contracts: io.LimitReader and its Read, over a reader of bytes. -/
namespace Go.Proofs.YthfgnhgijgjggaaDoor
open Go.RowKit

/-- A limited reader in block q over the reader in block p: N bytes more are let through. -/
def LimAt (w : World) (q p N : Nat) : Prop := w.heap[q]? = some (.cells #[rdV p, .int .i64 (N : Int)] 204 (0, 0))
abbrev limV (q : Nat) : Value := .iface 202 (.pointer (some ⟨q, 0, none⟩))

theorem limSet {w : World} {b : Nat} {x y : Value} {t : TypeId} (h : w.heap[b]? = some (.cells #[x, y] t (0, 0))) (v : Value) : (w.setCell ⟨b, 1, none⟩ v).heap[b]? = some (.cells #[x, v] t (0, 0)) := by
  have := Lib.heap_setCell_same (i := 1) h v
  simpa using this

set_option maxRecDepth 100000 in
set_option maxHeartbeats 2000000 in
/-- Bytes that are there and let through are read. -/
theorem limRead_some (q p g o m c N K : Nat) (v : Value) (l : List UInt8) (i : Nat) (cur : List Value) (t : TypeId) (w : World) (hr : Rdr w p v l i) (hl : LimAt w q p N) (hN : 0 < N) (hN2 : N ≤ 9223372036854775807) (hi : i < l.length) (hpq : p < q) (hqg : q ≠ g) (hpg : p < g)
    (hg : w.heap[g]? = some (.cells cur.toArray t (0, 0))) (hm : 0 < m) (hmc : m ≤ c) (hc : c ≤ 9223372036854775807) (hfit : o + m ≤ cur.length) (hK : K = min (min m N) (l.length - i)) :
    Calls Tryd.prog 159 #[.pointer (some ⟨q, 0, none⟩), .slice (some ⟨g, o, none⟩) m c] w fun e w' => e = .returned (.tuple #[.int .i64 K, .nilIface]) ∧ Rdr w' p v l (i + K) ∧ LimAt w' q p (N - K) ∧
      Hid (w'.heap[g]? = some (.cells (splice cur o (Lib.byteCells ((l.drop i).take (min m N)))).toArray t (0, 0))) ∧ Keep (fun k => k = p ∨ k = q ∨ k = g) w w' := by
  have hna := fun w => nil_rdRead ⟨p, 0, none⟩ w
  have hme := fun w => method_rdRead ⟨p, 0, none⟩ w
  have c0 : w.cell? ⟨q, 0, none⟩ = some (rdV p) := cell_of_row' (cur := [_, _]) hl 0
  have c1 : w.cell? ⟨q, 1, none⟩ = some (.int .i64 (N : Int)) := cell_of_row' (cur := [_, _]) hl 1
  have HL := Lib.hid hl
  have HK := Lib.hid hK
  have hKN : K ≤ N := by omega
  have fin : ∀ w1, Rdr w1 p v l (i + K) → Hid (w1.heap[g]? = some (.cells (splice cur o (Lib.byteCells ((l.drop i).take (min m N)))).toArray t (0, 0))) → Keep (fun k => k = p ∨ k = g) w w1 →
      Hid (w1.cell? ⟨q, 1, none⟩ = some (.int .i64 (N : Int)) ∧ w1.frozen? ⟨q, 1, none⟩ = false) ∧ Hid (Rdr (w1.setCell ⟨q, 1, none⟩ (.int .i64 ((N : Int) - K))) p v l (i + K) ∧ LimAt (w1.setCell ⟨q, 1, none⟩ (.int .i64 ((N : Int) - K))) q p (N - K) ∧
      Hid ((w1.setCell ⟨q, 1, none⟩ (.int .i64 ((N : Int) - K))).heap[g]? = some (.cells (splice cur o (Lib.byteCells ((l.drop i).take (min m N)))).toArray t (0, 0))) ∧ Keep (fun k => k = p ∨ k = q ∨ k = g) w (w1.setCell ⟨q, 1, none⟩ (.int .i64 ((N : Int) - K)))) := by
    intro w1 hr1 hg1 hk1
    have hl1 : LimAt w1 q p N := hk1.row hl (by omega)
    refine ⟨Lib.hid ⟨cell_of_row' (cur := [_, _]) hl1 1, frozen_of_row' (cur := [_, _]) hl1 1⟩, Lib.hid ⟨hr1.keep (S := fun k => k = q) (Keep.setCell (S := fun k => k = q) (Keep.refl _ _) rfl _ _) (fun k hk => by omega), ?_, Lib.hid ((Below.heap_setCell _ _ _ _ (Ne.symm hqg)).trans hg1.out), Keep.setCell (hk1.mono fun _ _ h => by omega) (Or.inr (Or.inl rfl)) _ _⟩⟩
    have := limSet hl1 (.int .i64 ((N : Int) - K))
    unfold LimAt
    rw [Int.ofNat_sub hKN]
    exact this
  have FIN := Lib.hid fin
  clear fin
  by_cases hmN : m ≤ N
  · have HR := Lib.hid (rdRead_some p g o m c v l i cur t (some ⟨g, o, none⟩) w hr hi hpg hg (fun _ => rfl) hfit)
    have e1 : min m (l.length - i) = K := by omega
    have e2 : min m N = m := by omega
    rw [e1] at HR
    rw [e2] at FIN ⊢
    clear hr hg hl hfit hK e1 e2
    go_enter Tryd.func159, Tryd.ntmps159
    go_wp2_with (go_at_call 141; refine HR.out.mono ?_; rintro e w1 ⟨rfl, hr1, hg1, hk1⟩; obtain ⟨f1, f2⟩ := FIN.out _ hr1 hg1 hk1; obtain ⟨d1, d2⟩ := f1.out; clear hr1 hg1 hk1)
    go_ret2
    exact ⟨rfl, f2.out.1, f2.out.2.1, f2.out.2.2.1, f2.out.2.2.2⟩
  · have hsl := fun W => run_zero_to (P := Tryd.prog) Tryd.underlying43 info_u8 (some ⟨g, o, none⟩) m c N (by omega) hmc W
    have HR := Lib.hid (rdRead_some p g o N c v l i cur t (some ⟨g, o, none⟩) w hr hi hpg hg (fun _ => rfl) (by omega))
    have e1 : min N (l.length - i) = K := by omega
    have e2 : min m N = N := by omega
    rw [e1] at HR
    rw [e2] at FIN ⊢
    clear hr hg hl hfit hK e1 e2
    go_enter Tryd.func159, Tryd.ntmps159
    go_wp2_with (go_at_call 141; refine HR.out.mono ?_; rintro e w1 ⟨rfl, hr1, hg1, hk1⟩; obtain ⟨f1, f2⟩ := FIN.out _ hr1 hg1 hk1; obtain ⟨d1, d2⟩ := f1.out; clear hr1 hg1 hk1)
    go_ret2
    exact ⟨rfl, f2.out.1, f2.out.2.1, f2.out.2.2.1, f2.out.2.2.2⟩

set_option maxRecDepth 100000 in
set_option maxHeartbeats 2000000 in
/-- Where nothing is let through any more, or nothing is there, the end is told. -/
theorem limRead_end (q p m c N : Nat) (A : Option Addr) (v : Value) (l : List UInt8) (i : Nat) (w : World) (hr : Rdr w p v l i) (hl : LimAt w q p N) (hN2 : N ≤ 9223372036854775807) (hi : N = 0 ∨ i = l.length) (hmc : m ≤ c) (e0 : Addr) (he : ErrAt p w 0 e0) :
    Calls Tryd.prog 159 #[.pointer (some ⟨q, 0, none⟩), .slice A m c] w fun e w' => e = .returned (.tuple #[.int .i64 0, errV e0]) ∧ LimAt w' q p N ∧ Keep (fun k => k = q) w w' := by
  have hna := fun w => nil_rdRead ⟨p, 0, none⟩ w
  have hme := fun w => method_rdRead ⟨p, 0, none⟩ w
  have c0 : w.cell? ⟨q, 0, none⟩ = some (rdV p) := cell_of_row' (cur := [_, _]) hl 0
  have c1 : w.cell? ⟨q, 1, none⟩ = some (.int .i64 (N : Int)) := cell_of_row' (cur := [_, _]) hl 1
  have ce := he.cell
  have HL := Lib.hid hl
  by_cases h0 : N = 0
  · subst h0
    clear hr hl he hi
    go_enter Tryd.func159, Tryd.ntmps159
    go_wp2_with fail
    go_quiet (fail)
    go_wp2
    go_ret2
    exact ⟨rfl, HL.out, keep_drewN _ _ _⟩
  · have hil : i = l.length := by omega
    have fin : ∀ w1, Keep (fun _ => False) w w1 → Hid (w1.cell? ⟨q, 1, none⟩ = some (.int .i64 (N : Int)) ∧ w1.frozen? ⟨q, 1, none⟩ = false) ∧ Hid (LimAt (w1.setCell ⟨q, 1, none⟩ (.int .i64 (N : Int))) q p N ∧ Keep (fun k => k = q) w (w1.setCell ⟨q, 1, none⟩ (.int .i64 (N : Int)))) := by
      intro w1 hk1
      have hl1 : LimAt w1 q p N := hk1.row hl (fun h => h)
      exact ⟨Lib.hid ⟨cell_of_row' (cur := [_, _]) hl1 1, frozen_of_row' (cur := [_, _]) hl1 1⟩, Lib.hid ⟨limSet hl1 _, Keep.setCell (S := fun k => k = q) (hk1.mono fun _ _ h => h.elim) rfl _ _⟩⟩
    have FIN := Lib.hid fin
    clear fin hi
    by_cases hmN : m ≤ N
    · have HR := Lib.hid (rdRead_end p m c v l i A w hr hil e0 he)
      clear hr hl he hil
      go_enter Tryd.func159, Tryd.ntmps159
      go_wp2_with (go_at_call 141; refine HR.out.mono ?_; rintro e w1 ⟨rfl, hk1⟩; obtain ⟨f1, f2⟩ := FIN.out _ hk1; obtain ⟨d1, d2⟩ := f1.out; clear hk1)
      go_ret2
      exact ⟨rfl, f2.out.1, f2.out.2⟩
    · have hsl := fun W => run_zero_to (P := Tryd.prog) Tryd.underlying43 info_u8 A m c N (by omega) hmc W
      have HR := Lib.hid (rdRead_end p N c v l i A w hr hil e0 he)
      clear hr hl he hil
      go_enter Tryd.func159, Tryd.ntmps159
      go_wp2_with (go_at_call 141; refine HR.out.mono ?_; rintro e w1 ⟨rfl, hk1⟩; obtain ⟨f1, f2⟩ := FIN.out _ hk1; obtain ⟨d1, d2⟩ := f1.out; clear hk1)
      go_ret2
      exact ⟨rfl, f2.out.1, f2.out.2⟩
end Go.Proofs.YthfgnhgijgjggaaDoor
/- Contracts: io.ReadFull over a limited reader. -/
namespace Go.Proofs.YthfgnhgijgjggaaDoor
open Go.RowKit

theorem nil_limRead (a : Addr) (w : World) : (nilAhead 359 202 (.pointer (some a)) "Read").run Tryd.prog w = .ok (some false) w := by kernel_rfl
theorem method_limRead (a : Addr) (w : World) : (method 359 202 (.pointer (some a)) "Read").run Tryd.prog w = .ok (159, .pointer (some a)) w := by kernel_rfl

theorem LimAt.drew {w : World} {q p N : Nat} (h : LimAt w q p N) : LimAt w.drew q p N := h
theorem LimAt.keep {w w' : World} {q p N : Nat} {S : Nat → Prop} (h : LimAt w q p N) (hk : Keep S w w') (hS : ¬ S q) : LimAt w' q p N := hk.row h hS

set_option maxRecDepth 100000 in
set_option maxHeartbeats 2000000 in
theorem limAtLeast_ok (q p g o n c N : Nat) (v : Value) (l : List UInt8) (i : Nat) (cur : List Value) (t : TypeId) (w : World) (hr : Rdr w p v l i) (hl : LimAt w q p N) (hN2 : N ≤ 9223372036854775807) (hpq : p < q) (hqg : q ≠ g) (hpg : p < g)
    (hg : w.heap[g]? = some (.cells cur.toArray t (0, 0))) (hn0 : 0 < n) (hnc : n ≤ c) (hc : c ≤ 9223372036854775807) (hfit : o + n ≤ cur.length) (hi : i + n ≤ l.length) (hnN : n ≤ N) :
    Calls Tryd.prog 107 #[limV q, .slice (some ⟨g, o, none⟩) n c, .int .i64 n] w fun e w' => e = .returned (.tuple #[.int .i64 n, .nilIface]) ∧ Rdr w' p v l (i + n) ∧ LimAt w' q p (N - n) ∧
      Hid (w'.heap[g]? = some (.cells (splice cur o (Lib.byteCells ((l.drop i).take n))).toArray t (0, 0))) ∧ Keep (fun k => k = p ∨ k = q ∨ k = g) w w' := by
  have HR := Lib.hid (limRead_some q p g o n c N n v l i cur t w.drew hr.drew hl.drew (by omega) hN2 (by omega) hpq hqg hpg hg hn0 hnc hc hfit (by omega))
  have hmn : min n N = n := by omega
  rw [hmn] at HR
  have hmf : ∀ (fn : Fn) (first cap : Array Value) (w : World), (Instr.makeFunc fn first cap).run Tryd.prog w = .ok (.func fn first cap) w := fun _ _ _ _ => rfl
  have hna := fun w => nil_limRead ⟨q, 0, none⟩ w
  have hme := fun w => method_limRead ⟨q, 0, none⟩ w
  have b1 : n ≤ 9223372036854775807 := by omega
  clear hr hg hmn hi hl
  go_enter Tryd.func107, Tryd.ntmps107
  go_wp2
  refine wp_loop_rounds 2 ?_
  rw [rounds_succ]
  go_wp2_with fail
  go_region_with (go_at_call 159; refine HR.out.mono ?_; rintro e w1 ⟨rfl, hr1, hl1, hg1, hk1⟩)
  have F := Lib.hid (And.intro hr1 (And.intro hl1 (And.intro hg1 ((keep_drew (fun k => k = p ∨ k = q ∨ k = g) w).trans hk1))))
  clear hr1 hl1 hg1 hk1
  go_wp2
  rw [rounds_succ]
  go_wp2
  go_ret2
  exact ⟨rfl, F.out.1, F.out.2.1, F.out.2.2.1, F.out.2.2.2⟩

set_option maxRecDepth 100000 in
set_option maxHeartbeats 2000000 in
theorem limAtLeast_end (q p g o n c N : Nat) (v : Value) (l : List UInt8) (i : Nat) (w : World) (hr : Rdr w p v l i) (hl : LimAt w q p N) (hN2 : N ≤ 9223372036854775807) (hn0 : 0 < n) (hnc : n ≤ c) (hc : c ≤ 9223372036854775807)
    (hi : N = 0 ∨ i = l.length) (e0 : Addr) (he : ErrAt p w 0 e0) :
    Calls Tryd.prog 107 #[limV q, .slice (some ⟨g, o, none⟩) n c, .int .i64 n] w fun e w' => e = .returned (.tuple #[.int .i64 0, errV e0]) ∧ LimAt w' q p N ∧ Keep (fun k => k = q) w w' := by
  have HR := Lib.hid (limRead_end q p n c N (some ⟨g, o, none⟩) v l i w.drew hr.drew hl.drew hN2 hi hnc e0 he.drew)
  have hmf : ∀ (fn : Fn) (first cap : Array Value) (w : World), (Instr.makeFunc fn first cap).run Tryd.prog w = .ok (.func fn first cap) w := fun _ _ _ _ => rfl
  have hna := fun w => nil_limRead ⟨q, 0, none⟩ w
  have hme := fun w => method_limRead ⟨q, 0, none⟩ w
  have b1 : n ≤ 9223372036854775807 := by omega
  clear hr hl hi he
  go_enter Tryd.func107, Tryd.ntmps107
  go_wp2
  refine wp_loop_rounds 2 ?_
  rw [rounds_succ]
  go_wp2_with fail
  go_region_with (go_at_call 159; refine HR.out.mono ?_; rintro e w1 ⟨rfl, hl1, hk1⟩)
  have F := Lib.hid (And.intro hl1 ((keep_drew (fun k => k = q) w).trans hk1))
  clear hl1 hk1
  go_wp2
  rw [rounds_succ]
  go_wp2
  go_ret2
  exact ⟨rfl, F.out.1, F.out.2⟩

set_option maxRecDepth 100000 in
set_option maxHeartbeats 2000000 in
theorem limAtLeast_cut (q p g o n c N K : Nat) (v : Value) (l : List UInt8) (i : Nat) (cur : List Value) (t : TypeId) (w : World) (hr : Rdr w p v l i) (hl : LimAt w q p N) (hN2 : N ≤ 9223372036854775807) (hpq : p < q) (hqg : q ≠ g) (hpg : p < g)
    (hg : w.heap[g]? = some (.cells cur.toArray t (0, 0))) (hnc : n ≤ c) (hc : c ≤ 9223372036854775807) (hfit : o + n ≤ cur.length) (hK : K = min N (l.length - i)) (hK0 : 0 < K) (hKn : K < n) (e0 e1 : Addr) (he : ErrAt p w 0 e0) (he1 : ErrAt p w 5 e1) :
    Calls Tryd.prog 107 #[limV q, .slice (some ⟨g, o, none⟩) n c, .int .i64 n] w fun e w' => e = .returned (.tuple #[.int .i64 K, errV e1]) ∧ Rdr w' p v l (i + K) ∧ Keep (fun k => k = p ∨ k = q ∨ k = g) w w' := by
  have HR := Lib.hid (limRead_some q p g o n c N K v l i cur t w.drew hr.drew hl.drew (by omega) hN2 (by omega) hpq hqg hpg hg (by omega) hnc hc hfit (by omega))
  have hsl2 := fun W => run_from (P := Tryd.prog) Tryd.underlying43 info_u8 (some ⟨g, o, none⟩) n c K (by omega) W
  rw [cutA_own _ _ _ _ (by omega)] at hsl2
  have hmf : ∀ (fn : Fn) (first cap : Array Value) (w : World), (Instr.makeFunc fn first cap).run Tryd.prog w = .ok (.func fn first cap) w := fun _ _ _ _ => rfl
  have hna := fun w => nil_limRead ⟨q, 0, none⟩ w
  have hme := fun w => method_limRead ⟨q, 0, none⟩ w
  have b1 : n ≤ 9223372036854775807 := by omega
  have hend : N - K = 0 ∨ i + K = l.length := by omega
  have HEND := Lib.hid hend
  have HE := Lib.hid he
  have HE1 := Lib.hid he1
  clear hr hg hl he he1 hK hend
  go_enter Tryd.func107, Tryd.ntmps107
  go_wp2
  refine wp_loop_rounds 3 ?_
  rw [rounds_succ]
  go_wp2_with fail
  go_region_with (go_at_call 159; refine HR.out.mono ?_; rintro e w1 ⟨rfl, hr1, hl1, hg1, hk1⟩)
  have hk1' := (keep_drew (fun k => k = p ∨ k = q ∨ k = g) w).trans hk1
  have q1 : ErrAt p w1 0 e0 := HE.out.keep hk1' (fun k h => by omega)
  have q2 : ErrAt p w1 5 e1 := HE1.out.keep hk1' (fun k h => by omega)
  have HR2 := Lib.hid (limRead_end q p (n - K) (c - K) (N - K) (some ⟨g, o + K, none⟩) v l (i + K) w1.drew hr1.drew hl1.drew (by omega) HEND.out (by omega) e0 q1.drew)
  have HK1 := Lib.hid hk1'
  have HRD := Lib.hid hr1.drew
  have Q1 := Lib.hid q1
  have Q2 := Lib.hid q2
  clear HR hg1 hk1 hr1 hl1 hk1' q1 q2
  go_wp2
  rw [rounds_succ]
  go_wp2_with fail
  go_region_with (go_at_call 159; refine HR2.out.mono ?_; rintro e w2 ⟨rfl, hl2, hk2⟩)
  have k1 : w2.cell? ⟨0, 0, none⟩ = _ := hk2.cell Q1.out.drew.cell (fun h => by have := Q1.out.lt; dsimp only at h; omega)
  have k2 : w2.cell? ⟨5, 0, none⟩ = _ := hk2.cell Q2.out.drew.cell (fun h => by have := Q2.out.lt; dsimp only at h; omega)
  have keq := run_eqErr_same e0
  have F := Lib.hid (HK1.out.trans (((keep_drew _ w1).trans hk2).mono (fun _ _ h => Or.inr (Or.inl h))))
  have HRF := Lib.hid (HRD.out.keep hk2 (fun k h => by omega))
  clear hl2 hk2
  go_wp2
  rw [rounds_succ]
  go_wp2
  go_ret2
  exact ⟨rfl, HRF.out, F.out⟩

set_option maxRecDepth 100000 in
set_option maxHeartbeats 1000000 in
theorem limAtLeast_zero (q c : Nat) (A : Option Addr) (w : World) :
    Calls Tryd.prog 107 #[limV q, .slice A 0 c, .int .i64 0] w fun e w' => e = .returned (.tuple #[.int .i64 0, .nilIface]) ∧ w' = w := by
  go_enter Tryd.func107, Tryd.ntmps107
  go_wp2
  refine wp_loop_rounds 1 ?_
  rw [rounds_succ]
  go_wp2
  go_ret2
  exact ⟨rfl, rfl⟩

/-- io.ReadFull hands on what io.ReadAtLeast answers. -/
theorem limFull_of (q n c : Nat) (A : Option Addr) (w : World) (v0 v1 : Value) (R : World → Prop) (h : Calls Tryd.prog 107 #[limV q, .slice A n c, .int .i64 n] w fun e w' => e = .returned (.tuple #[v0, v1]) ∧ R w') :
    Calls Tryd.prog 87 #[limV q, .slice A n c] w fun e w' => e = .returned (.tuple #[v0, v1]) ∧ R w' := by
  have H := Lib.hid h
  clear h
  go_enter Tryd.func87, Tryd.ntmps87
  go_wp2_with fail
  refine H.out.mono ?_
  rintro e w1 ⟨rfl, h1⟩
  go_wp2
  go_ret2
  exact ⟨rfl, h1⟩
end Go.Proofs.YthfgnhgijgjggaaDoor
/- Contract: impl.bytesOf: the bytes of strings, one slice each. -/
namespace Go.Proofs.YthfgnhgijgjggaaDoor
open Go.RowKit

/-- The slice value v holds the strings ss. -/
def SS (w : World) (v : Value) (ss : List ByteArray) : Prop :=
  ∃ (A : Option Addr) (c : Nat), v = .slice A ss.length c ∧ ss.length ≤ c ∧ (0 < ss.length → ∃ b o, A = some ⟨b, o, none⟩ ∧ ∀ (j : Nat) (s : ByteArray), ss[j]? = some s → w.cell? ⟨b, o + j, none⟩ = some (.string s))
theorem SS.below {w w' : World} {v : Value} {ss : List ByteArray} (h : SS w v ss) (hb : Below w.heap.size w w') : SS w' v ss := by
  obtain ⟨A, c, e, hc, h⟩ := h
  refine ⟨A, c, e, hc, fun hl => ?_⟩
  obtain ⟨b, o, e, h⟩ := h hl
  exact ⟨b, o, e, fun j s hj => below_cell hb (h j s hj)⟩

/-- x is a slice, from block lo on and not in row r, of the bytes of s. -/
def PartN (w : World) (lo : Nat) (r : Option Nat) (x : Value) (s : ByteArray) : Prop :=
  ∃ b c, x = .slice (some ⟨b, 0, none⟩) s.size c ∧ s.size ≤ c ∧ lo ≤ b ∧ b < w.heap.size ∧ some b ≠ r ∧ ∀ i (h : i < s.data.toList.length), w.cell? ⟨b, 0 + i, none⟩ = some (.int .u8 (s.data.toList[i].toNat))

theorem PartN.grown {w w2 : World} {lo : Nat} {row r2 : Option Nat} {x : Value} {s : ByteArray} (h : PartN w lo row x s) (hg : w.grownBy w2 row) (hr : r2 = row ∨ r2 = some w.heap.size) : PartN w2 lo r2 x s := by
  obtain ⟨b, c, e, hc, h1, h2, h3, h4⟩ := h
  refine ⟨b, c, e, hc, h1, Nat.lt_of_lt_of_le h2 hg.size, ?_, fun i hi => ?_⟩
  · rcases hr with rfl | rfl
    · exact h3
    · intro e; injection e; omega
  · rw [World.cell?_of_block (hg.block b h2 h3)]; exact h4 i hi
theorem PartN.below {w w2 : World} {lo : Nat} {row : Option Nat} {x : Value} {s : ByteArray} (h : PartN w lo row x s) (hg : Below w.heap.size w w2) : PartN w2 lo row x s := by
  obtain ⟨b, c, e, hc, h1, h2, h3, h4⟩ := h
  exact ⟨b, c, e, hc, h1, Nat.lt_of_lt_of_le h2 hg.size, h3, fun i hi => below_cell hg (h4 i hi)⟩

theorem ownsRow_below {w w' : World} {B size n : Nat} {e : TypeId} {v : Value} {xs : List Value} (h : w.ownsRow B e size v n xs) (hb : Below w.heap.size w w') : w'.ownsRow B e size v n xs := by
  refine ⟨h.1, ?_⟩
  rcases h.2 with h | ⟨g, cap, cur, hv, hbg, hg, rest⟩
  · exact .inl h
  · exact .inr ⟨g, cap, cur, hv, hbg, (hb.block g (block_of_row hg)).trans hg, rest⟩

/-- The slice value v (nil, or a row from block lo on) holds slices of the bytes of the strings ss, that lie from block lo on. -/
def Parts (w : World) (lo : Nat) (v : Value) (ss : List ByteArray) : Prop :=
  ∃ (A : Option Addr) (c : Nat), v = .slice A ss.length c ∧ ss.length ≤ c ∧ (0 < ss.length → ∃ g, A = some ⟨g, 0, none⟩ ∧ lo ≤ g ∧ g < w.heap.size ∧ ∀ (j : Nat) (s : ByteArray), ss[j]? = some s → ∃ x, w.cell? ⟨g, 0 + j, none⟩ = some x ∧ PartN w lo none x s)
theorem Parts.below {w w' : World} {lo : Nat} {v : Value} {ss : List ByteArray} (h : Parts w lo v ss) (hb : Below w.heap.size w w') : Parts w' lo v ss := by
  obtain ⟨A, c, e, hc, h⟩ := h
  refine ⟨A, c, e, hc, fun hl => ?_⟩
  obtain ⟨g, e, h1, h2, h⟩ := h hl
  refine ⟨g, e, h1, Nat.lt_of_lt_of_le h2 hb.size, fun j s hj => ?_⟩
  obtain ⟨x, hx, hp⟩ := h j s hj
  exact ⟨x, below_cell hb hx, hp.below hb⟩

theorem parts_of_own {w : World} {lo : Nat} {v : Value} {n : Nat} {xs : List Value} {e : TypeId} {ss : List ByteArray} (hn : ss.length = n) (ho : w.ownsRow lo e 1 v n xs) (hp : ∀ (j : Nat) (x : Value) (s : ByteArray), xs[j]? = some x → ss[j]? = some s → PartN w lo v.ownBlock x s) : Parts w lo v ss := by
  subst hn
  obtain ⟨hl, ho⟩ := ho
  rcases ho with ⟨rfl, h0⟩ | ⟨g, cap, cur, rfl, hbg, hg, hnc, hcm, hcs, ht⟩
  · exact ⟨none, 0, by rw [h0], by omega, fun h => by omega⟩
  · refine ⟨_, cap, rfl, hnc, fun _ => ⟨g, rfl, hbg, block_of_row hg, fun j s hj => ?_⟩⟩
    have hjs : j < ss.length := by
      rcases Nat.lt_or_ge j ss.length with h | h
      · exact h
      · rw [List.getElem?_eq_none h] at hj; cases hj
    have hjx : j < xs.length := by omega
    refine ⟨xs[j], ?_, ?_⟩
    · have hadd : (⟨g, 0 + j, none⟩ : Addr) = ⟨g, j, none⟩ := by rw [Nat.zero_add]
      rw [hadd, cell_of_row w g j cur e (0, 0) hg]
      have h3 : xs[j]? = some xs[j] := List.getElem?_eq_getElem hjx
      generalize xs[j] = y at h3
      rw [← ht, List.getElem?_take] at h3
      split at h3
      · rw [← Array.getElem?_toList]; exact h3
      · cases h3
    · obtain ⟨b, c, e1, h1, h2, h3, _, h5⟩ := hp j _ _ (List.getElem?_eq_getElem hjx) hj
      exact ⟨b, c, e1, h1, h2, h3, by simp, h5⟩

theorem info_bsl : ∃ i, Tryd.prog.info? 43 = some i ∧ i.zero = some (.slice none 0 0) ∧ i.size = 1 ∧ i.bytes = 24 := by
  have h : (Tryd.prog.info? 43).map (fun i => (i.zero, i.size, i.bytes)) = some (some (.slice none 0 0), 1, 24) := by kernel_rfl
  obtain ⟨i, hi, h2⟩ := Option.map_eq_some_iff.1 h
  simp only [Prod.mk.injEq] at h2
  exact ⟨i, hi, h2.1, h2.2.1, h2.2.2⟩

set_option maxRecDepth 100000 in
set_option maxHeartbeats 4000000 in
theorem bytesOf_any (v : Value) (ss : List ByteArray) (w : World) (hs : SS w v ss) (hn : ss.length ≤ 1000) :
    Calls Tryd.prog 54 #[v] w fun e w' => (∃ v', e = .returned v' ∧ Parts w' w.heap.size v' ss) ∧ Below w.heap.size w w' := by
  obtain ⟨i0, hi, hz0, hz1, hz2⟩ := info_bsl
  obtain ⟨A, c, rfl, hc, hcells⟩ := hs
  obtain ⟨n, hN⟩ : ∃ n, n = ss.length := ⟨_, rfl⟩
  rw [← hN] at hc hn
  have HC := Lib.hid hcells
  have HN := Lib.hid hN
  rw [← hN]
  clear hcells hc hN
  go_enter Tryd.func54, Tryd.ntmps54
  go_wp2
  go_loopw [3, 8] (fun v i wr => ∃ (k : Nat) (xs : List Value), k ≤ n ∧ i = .int .i64 k ∧ Hid (xs.length = k) ∧ wr.ownsRow w.heap.size 43 1 v k xs ∧ Hid (∀ (j : Nat) (x : Value) (s : ByteArray), xs[j]? = some x → ss[j]? = some s → PartN wr w.heap.size v.ownBlock x s) ∧ Below w.heap.size w wr) (fun _ i _ => n - (intOf i).toNat)
  case atStart => exact ⟨0, [], Nat.zero_le _, rfl, Lib.hid rfl, ⟨rfl, .inl ⟨rfl, rfl⟩⟩, Lib.hid (fun j x s h => by simp at h), Below.refl _ _⟩
  case round =>
    obtain ⟨k, xs, hk, rfl, hxl, hown, hp, hb⟩ := hrel
    have hBw := hb.size
    by_cases hlt : k < n
    · obtain ⟨b, o, rfl, hcl⟩ := HC.out (by rw [← HN.out]; omega)
      have hks : k < ss.length := by rw [← HN.out]; exact hlt
      obtain ⟨s, hsv⟩ : ∃ s, ss[k]? = some s := ⟨_, List.getElem?_eq_getElem hks⟩
      have hc0 := below_cell hb (hcl k s hsv)
      obtain ⟨c1, w1, hconv, hc1, hb1, hsz1, -, hcells1⟩ := conv_bytes (P := Tryd.prog) Tryd.underlying9 Tryd.underlying43 Tryd.underlying5 wr s
      have HSV := Lib.hid hsv
      have HSZ := Lib.hid hsz1
      have HCE := Lib.hid hcells1
      have HKS := Lib.hid hks
      have hown1 := ownsRow_below hown hb1
      have hown0 := hown
      clear hcl hsv hsz1 hcells1 hown hks
      go_wp2_with (at_builtin; refine wpList_append_own_at _ rfl _ _ 111 rfl w.heap.size 43 i0 (.slice none 0 0) 1 24 Tryd.underlying111 hi hz0 hz1 hz2 rfl (by decide) _ _ _ rfl (hown1.alloc _) ⟨w1.heap.size, 0, none⟩ 1 1 [.slice (some ⟨wr.heap.size, 0, none⟩) s.size c1] rfl rfl ?c1 ?c2 ?c3 ?c4 ?c5 ?_)
      case c1 =>
        intro j u hj
        match j, hj with
        | 0, hj => simp at hj; subst hj; simp [Addr.add]
      case c2 => intro u hu; simp at hu; subst hu; rfl
      case c3 => unfold maxLen; omega
      case c4 => omega
      case c5 => have := hb1.size; simp; omega
      intro v' w2 hown' hgrow _ hat
      have hbw1 := hb1.size
      have hb01 : Below w.heap.size w w1 := hb.trans (hb1.mono hBw)
      have hb2 : Below w.heap.size w w2 := (hb01.alloc (by omega) _).grown hgrow (by simp; omega) (fun q hq => (hown1.lt q hq).1)
      have hpn : Hid (∀ (j : Nat) (x : Value) (s' : ByteArray), (xs ++ [Value.slice (some ⟨wr.heap.size, 0, none⟩) s.size c1])[j]? = some x → ss[j]? = some s' → PartN w2 w.heap.size v'.ownBlock x s') := by
        refine Lib.hid fun j x s' hx hs' => ?_
        have halc : Below w1.heap.size w1 (w1.alloc (.cells #[.slice (some ⟨wr.heap.size, 0, none⟩) s.size c1] 43)) := (Below.refl _ _).alloc (Nat.le_refl _) _
        by_cases hj : j < k
        · rw [List.getElem?_append_left (by rw [hxl.out]; exact hj)] at hx
          exact (((hp.out j x s' hx hs').below hb1).below halc).grown hgrow (by simpa using hat)
        · have hjk : j = k := by
            rcases Nat.lt_or_ge j (k + 1) with h | h
            · omega
            · rw [List.getElem?_eq_none (by rw [List.length_append, hxl.out]; simpa using h)] at hx; cases hx
          subst hjk
          rw [List.getElem?_append_right (by rw [hxl.out]; exact Nat.le_refl _), hxl.out, Nat.sub_self] at hx
          obtain rfl : Value.slice (some ⟨wr.heap.size, 0, none⟩) s.size c1 = x := by simpa using hx
          obtain rfl : s = s' := by have := HSV.out; rw [this] at hs'; injection hs'
          have hpn0 : PartN w1 w.heap.size u3.ownBlock (.slice (some ⟨wr.heap.size, 0, none⟩) s.size c1) s :=
            ⟨_, _, rfl, hc1, hBw, by rw [HSZ.out]; omega, fun e => by have := hown0.lt _ e.symm; omega, HCE.out⟩
          exact (hpn0.below halc).grown hgrow (by simpa using hat)
      have HO := Lib.hid hown'
      clear hown1 hgrow hown' hat
      go_wp2
      go_roundw
      case rel => exact ⟨k + 1, _, by omega, by go_num, Lib.hid (by rw [List.length_append, hxl.out]; rfl), HO.out, hpn, hb2⟩
      case measure => simp [intOf]; omega
    · obtain rfl : k = n := by omega
      have HO := Lib.hid hown
      clear hown
      go_wp2
      go_ret
      exact ⟨⟨_, rfl, parts_of_own HN.out.symm HO.out hp.out⟩, hb⟩
end Go.Proofs.YthfgnhgijgjggaaDoor
