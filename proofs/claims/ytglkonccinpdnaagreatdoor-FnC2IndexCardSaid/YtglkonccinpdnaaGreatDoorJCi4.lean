/- Contracts, joined (CbJ CbK CbL CbM). -/
import Derived.Test.YtglkonccinpdnaaGreatDoorJCi3
import Derived.Deep.RegionHeld3
/- Contracts: a step of the decoder. -/
namespace Go.Proofs.YtglkonccinpdnaaGreatDoor
open Go.RowKit
section
variable (dd s tk k : Nat) (sv : Value) (lv : Value) (xs : List Value)

set_option maxRecDepth 100000 in
set_option maxHeartbeats 4000000 in
theorem stepVal (P : World → Prop) (w : World) (hd : w.heap[dd]? = some (decO s sv 0 lv))
    (hc : Calls Tryz.prog 95 #[.pointer (some ⟨dd, 0, none⟩), .pointer (some ⟨tk, 0, none⟩)] w fun e w' => e = .returned (.tuple #[.bool false, .nilIface]) ∧ P w')
    :
    Calls Tryz.prog 82 #[.pointer (some ⟨dd, 0, none⟩), .pointer (some ⟨tk, 0, none⟩)] w fun e w' => e = .returned (.tuple #[.bool false, .nilIface]) ∧ P w' := by
  have HC := Lib.hid hc
  have c9 := cell_of_row' (cur := [_, _, _, _, _, _, _, _, _, _, _]) hd 9
  clear hc hd
  go_enter Tryz.func82, Tryz.ntmps82
  go_wp2_with fail
  refine HC.out.mono ?_
  rintro e w1 ⟨rfl, hp⟩
  have HP := Lib.hid hp
  clear hp HC c9
  go_wp2
  go_ret2
  exact ⟨rfl, HP.out⟩

set_option maxRecDepth 100000 in
set_option maxHeartbeats 4000000 in
theorem stepArr (P : World → Prop) (w : World) (hd : w.heap[dd]? = some (decO s sv 4 lv))
    (hc : Calls Tryz.prog 99 #[.pointer (some ⟨dd, 0, none⟩), .pointer (some ⟨tk, 0, none⟩)] w fun e w' => e = .returned (.tuple #[.bool false, .nilIface]) ∧ P w')
    :
    Calls Tryz.prog 82 #[.pointer (some ⟨dd, 0, none⟩), .pointer (some ⟨tk, 0, none⟩)] w fun e w' => e = .returned (.tuple #[.bool false, .nilIface]) ∧ P w' := by
  have HC := Lib.hid hc
  have c9 := cell_of_row' (cur := [_, _, _, _, _, _, _, _, _, _, _]) hd 9
  clear hc hd
  go_enter Tryz.func82, Tryz.ntmps82
  go_wp2_with fail
  refine HC.out.mono ?_
  rintro e w1 ⟨rfl, hp⟩
  have HP := Lib.hid hp
  clear hp HC c9
  go_wp2
  go_ret2
  exact ⟨rfl, HP.out⟩

set_option maxRecDepth 100000 in
set_option maxHeartbeats 4000000 in
theorem stepKey (P : World → Prop) (w : World) (hd : w.heap[dd]? = some (decO s sv 5 lv))
    (hc : Calls Tryz.prog 100 #[.pointer (some ⟨dd, 0, none⟩), .pointer (some ⟨tk, 0, none⟩)] w fun e w' => e = .returned (.tuple #[.bool false, .nilIface]) ∧ P w')
    :
    Calls Tryz.prog 82 #[.pointer (some ⟨dd, 0, none⟩), .pointer (some ⟨tk, 0, none⟩)] w fun e w' => e = .returned (.tuple #[.bool false, .nilIface]) ∧ P w' := by
  have HC := Lib.hid hc
  have c9 := cell_of_row' (cur := [_, _, _, _, _, _, _, _, _, _, _]) hd 9
  clear hc hd
  go_enter Tryz.func82, Tryz.ntmps82
  go_wp2_with fail
  refine HC.out.mono ?_
  rintro e w1 ⟨rfl, hp⟩
  have HP := Lib.hid hp
  clear hp HC c9
  go_wp2
  go_ret2
  exact ⟨rfl, HP.out⟩

set_option maxRecDepth 100000 in
set_option maxHeartbeats 4000000 in
theorem stepMv (P : World → Prop) (w : World) (hd : w.heap[dd]? = some (decO s sv 6 lv))
    (hc : Calls Tryz.prog 101 #[.pointer (some ⟨dd, 0, none⟩), .pointer (some ⟨tk, 0, none⟩)] w fun e w' => e = .returned (.tuple #[.bool false, .nilIface]) ∧ P w')
    :
    Calls Tryz.prog 82 #[.pointer (some ⟨dd, 0, none⟩), .pointer (some ⟨tk, 0, none⟩)] w fun e w' => e = .returned (.tuple #[.bool false, .nilIface]) ∧ P w' := by
  have HC := Lib.hid hc
  have c9 := cell_of_row' (cur := [_, _, _, _, _, _, _, _, _, _, _]) hd 9
  clear hc hd
  go_enter Tryz.func82, Tryz.ntmps82
  go_wp2_with fail
  refine HC.out.mono ?_
  rintro e w1 ⟨rfl, hp⟩
  have HP := Lib.hid hp
  clear hp HC c9
  go_wp2
  go_ret2
  exact ⟨rfl, HP.out⟩

set_option maxRecDepth 100000 in
set_option maxHeartbeats 4000000 in
theorem stepEnd (P : World → Prop) (w : World) (hd : w.heap[dd]? = some (decO s sv 5 lv))
    (hc : Calls Tryz.prog 100 #[.pointer (some ⟨dd, 0, none⟩), .pointer (some ⟨tk, 0, none⟩)] w fun e w' => e = .returned (.tuple #[.bool true, .nilIface]) ∧ P w')
    (hx : ∀ w1, P w1 → ∃ ph1 lv1, w1.heap[dd]? = some (decO s (stkV k 1) ph1 lv1)):
    Calls Tryz.prog 82 #[.pointer (some ⟨dd, 0, none⟩), .pointer (some ⟨tk, 0, none⟩)] w fun e w' => e = .returned (.tuple #[.bool true, .nilIface]) ∧ P w' := by
  have HC := Lib.hid hc
  have c9 := cell_of_row' (cur := [_, _, _, _, _, _, _, _, _, _, _]) hd 9
  clear hc hd
  have HX := Lib.hid hx
  clear hx
  go_enter Tryz.func82, Tryz.ntmps82
  go_wp2_with fail
  refine HC.out.mono ?_
  rintro e w1 ⟨rfl, hp⟩
  have HP := Lib.hid hp
  clear hp HC c9
  obtain ⟨ph1, lv1, hd1⟩ := HX.out w1 HP.out
  have c8 := cell_of_row' (cur := [_, _, _, _, _, _, _, _, _, _, _]) hd1 8
  clear hd1
  go_wp2
  go_ret2
  exact ⟨rfl, HP.out⟩

set_option maxRecDepth 100000 in
set_option maxHeartbeats 4000000 in
theorem stepPop (P : World → Prop) (w : World) (hd : w.heap[dd]? = some (decO s sv 4 lv))
    (hc : Calls Tryz.prog 99 #[.pointer (some ⟨dd, 0, none⟩), .pointer (some ⟨tk, 0, none⟩)] w fun e w' => e = .returned (.tuple #[.bool true, .nilIface]) ∧ P w')
    (ph0 : Int) (lv1 : Value) (hxs : 0 < xs.length) (hx : ∀ w1, P w1 → w1.heap[dd]? = some (decO s (stkV k (xs.length + 1)) 4 lv1) ∧ Stk w1 195 k (xs ++ [.int .u8 ph0])):
    Calls Tryz.prog 82 #[.pointer (some ⟨dd, 0, none⟩), .pointer (some ⟨tk, 0, none⟩)] w fun e w' => e = .returned (.tuple #[.bool false, .nilIface]) ∧ ∃ w1, P w1 ∧ w'.heap[dd]? = some (decO s (stkV k xs.length) ph0 lv1) ∧ Keep (fun k => k = dd) w1 w' := by
  have HC := Lib.hid hc
  have c9 := cell_of_row' (cur := [_, _, _, _, _, _, _, _, _, _, _]) hd 9
  clear hc hd
  have HX := Lib.hid hx
  clear hx
  go_enter Tryz.func82, Tryz.ntmps82
  go_wp2_with fail
  refine HC.out.mono ?_
  rintro e w1 ⟨rfl, hp⟩
  have HP := Lib.hid hp
  clear hp HC c9
  obtain ⟨hd1, hs1⟩ := HX.out w1 HP.out
  have c8 := cell_of_row' (cur := [_, _, _, _, _, _, _, _, _, _, _]) hd1 8
  have c9 := cell_of_row' (cur := [_, _, _, _, _, _, _, _, _, _, _]) hd1 9
  have f8 := frozen_of_row' (cur := [_, _, _, _, _, _, _, _, _, _, _]) hd1 8
  have f9 := frozen_of_row' (cur := [_, _, _, _, _, _, _, _, _, _, _]) hd1 9
  have cl := hs1.last
  have hle : xs.length + 1 ≤ 10 := by obtain ⟨_, _, _, _, h⟩ := hs1; simpa using h
  obtain ⟨m, hm⟩ : ∃ m, m = xs.length := ⟨_, rfl⟩
  rw [← hm] at c8 cl hle hd1
  have hm0 : 0 < m := by omega
  have hq1 : ((m + 1 : Nat) : Int) - 1 = (m : Int) := by omega
  have hq2 : (0 : Int) ≤ (m : Int) := by omega
  have hq3 : ¬ (m : Int) ≤ 0 := by omega
  have D1 : Hid ((w1.setCell ⟨dd, 9, none⟩ (.int .u8 ph0)).heap[dd]? = some (decO s (stkV k (m + 1)) ph0 lv1)) := Lib.hid (Lib.heap_setCell_same (i := 9) hd1 _)
  have D2 : Hid (((w1.setCell ⟨dd, 9, none⟩ (.int .u8 ph0)).setCell ⟨dd, 8, none⟩ (stkV k m)).heap[dd]? = some (decO s (stkV k m) ph0 lv1)) := Lib.hid (Lib.heap_setCell_same (i := 8) D1.out _)
  have K2 : Hid (Keep (fun k => k = dd) w1 ((w1.setCell ⟨dd, 9, none⟩ (.int .u8 ph0)).setCell ⟨dd, 8, none⟩ (stkV k m))) := Lib.hid (((Keep.refl (fun k => k = dd) w1).setCell (p := dd) rfl 9 _).setCell (p := dd) rfl 8 _)
  have HM := Lib.hid hm
  clear hd1 hs1 hm
  go_wp2
  go_ret2
  exact ⟨rfl, w1, HP.out, HM.out ▸ D2.out, K2.out⟩
end
end Go.Proofs.YtglkonccinpdnaaGreatDoor
/- Contracts: the decoder is made. -/
namespace Go.Proofs.YtglkonccinpdnaaGreatDoor
open Go.RowKit

theorem below_any {a w w' : World} (h : Below a.heap.size a w) (k : Below w.heap.size w w') : Below a.heap.size a w' := below_next h k
theorem heap_new_at {w : World} {o : Obj} {k : Nat} (h : w.heap.size = k) : (w.alloc o).heap[k]? = some o := h ▸ heap_alloc_new w o
theorem heap_old_at {w : World} {o : Obj} {k : Nat} {x : Obj} (h : w.heap[k]? = some x) : (w.alloc o).heap[k]? = some x := row_below ((Below.refl _ w).alloc (Nat.le_refl _) o) (block_of_row h) h
theorem drew_row {w : World} {k : Nat} {x : Option Obj} (h : w.heap[k]? = x) : w.drew.heap[k]? = x := h
theorem drew_sz (w : World) : w.drew.heap.size = w.heap.size := rfl
theorem size_alloc' (w : World) (o : Obj) : (w.alloc o).heap.size = w.heap.size + 1 := World.size_alloc w o
set_option maxRecDepth 100000 in
set_option maxHeartbeats 2000000 in
theorem newRdr_ok (p : Nat) (v : Value) (l : List UInt8) (w : World) (hr : Rdr w p v l 0) (hl : l.length ≤ 4611686018427387904) (hp : p < w.heap.size) :
    Calls Tryz.prog 94 #[rdV p] w fun e w' =>
      e = .returned (srsV (w.heap.size + 1)) ∧ Srs w' (w.heap.size + 1) w.heap.size p v l 0 ∧ Below w.heap.size w w' ∧ w'.heap.size = w.heap.size + 2 := by
  have B1 : Below w.heap.size w (w.alloc (rtsO p 0 0 0)) := (Below.refl _ _).alloc (Nat.le_refl _) _
  have B2 : Below w.heap.size w ((w.alloc (rtsO p 0 0 0)).alloc (.cells (srsL w.heap.size (List.replicate 32 (.int .u8 0)) 0).toArray 219)) := bel_al B1 _
  have r0 := heap_alloc_new w (rtsO p 0 0 0)
  have B3 : Below (w.alloc (rtsO p 0 0 0)).heap.size (w.alloc (rtsO p 0 0 0)) ((w.alloc (rtsO p 0 0 0)).alloc (.cells (srsL w.heap.size (List.replicate 32 (.int .u8 0)) 0).toArray 219)) := (Below.refl _ _).alloc (Nat.le_refl _) _
  have r1 := row_below B3 (block_of_row r0) r0
  have s1 := heap_alloc_new (w.alloc (rtsO p 0 0 0)) (.cells (srsL w.heap.size (List.replicate 32 (.int .u8 0)) 0).toArray 219)
  rw [size_alloc'] at s1
  have HR := Lib.hid hr
  have HF : Hid (Srs ((w.alloc (rtsO p 0 0 0)).alloc (.cells (srsL w.heap.size (List.replicate 32 (.int .u8 0)) 0).toArray 219)) (w.heap.size + 1) w.heap.size p v l 0) :=
    Lib.hid ⟨⟨_, List.length_replicate, s1⟩, ⟨⟨0, 0, 0, r1, Or.inl rfl⟩, hr.below B2, hp⟩, Nat.lt_succ_self _, hl⟩
  have HS : Hid (((w.alloc (rtsO p 0 0 0)).alloc (.cells (srsL w.heap.size (List.replicate 32 (.int .u8 0)) 0).toArray 219)).heap.size = w.heap.size + 2) := Lib.hid (by rw [size_alloc', size_alloc'])
  have HB := Lib.hid B2
  clear hr B1 B2 B3 r0 r1 s1
  go_enter Tryz.func94, Tryz.ntmps94
  go_wp2
  go_ret
  exact ⟨rfl, HF.out, HB.out, HS.out⟩

abbrev row10 (x : Value) (t : TypeId) : Obj := .cells (List.replicate 10 x).toArray t (0, 0)
theorem info_ph3 : (Tryz.prog.info? 195).map (fun i => (i.zero, i.size, i.bytes)) = some (some (.int .u8 0), 1, 1) := by kernel_rfl
theorem info_in3 : (Tryz.prog.info? 3).map (fun i => (i.zero, i.size, i.bytes)) = some (some (.int .i64 0), 1, 8) := by kernel_rfl
theorem make10 {x : Value} {t e : TypeId} {b : Nat} (ht : Tryz.prog.underlying t = some (.slice e)) (hi : (Tryz.prog.info? e).map (fun i => (i.zero, i.size, i.bytes)) = some (some x, 1, b)) (hb : b ≤ 8) (hx : x.cells = #[x]) (W : World) :
    (Instr.makeSlice t (.int .i64 0) (.int .i64 10)).run Tryz.prog W = .ok (.slice (some ⟨W.heap.size, 0, none⟩) 0 10) (W.alloc (row10 x e)) := by
  obtain ⟨i, hi, h2⟩ := Option.map_eq_some_iff.1 hi
  simp only [Prod.mk.injEq] at h2
  obtain ⟨hz, hsz, hby⟩ := h2
  have hr := run_make (P := Tryz.prog) W t e i _ ht hi hz .i64 .i64 0 10 (by omega) (by omega) (by rw [hby]; omega) (by omega)
  have e1 : madeCells x.cells (Int.toNat 10 * i.size) = (List.replicate 10 x).toArray := by
    rw [hsz, hx]
    apply Array.ext
    · simp [size_madeCells]
    · intro j h1 h2
      have h0 : [x][j % 1]?.getD default = x := by rw [Nat.mod_one]; rfl
      have h3 : (List.replicate 10 x).toArray[j] = x := by rw [List.getElem_toArray]; exact List.getElem_replicate ..
      rw [h3]
      simp [madeCells, h0]
  rw [e1] at hr
  exact hr
theorem stk10 (w : World) (x : Value) (t : TypeId) (k : Nat) (h : w.heap[k]? = some (row10 x t)) : Stk w t k [] := ⟨_, h, by simp, rfl, by simp⟩
abbrev cfgO : Obj := .cells #[.bool true, .bool false, .int .i64 0, .bool false, .bool false, .bool false, .bool false] 165 (0, 0)
set_option maxRecDepth 100000 in
set_option maxHeartbeats 4000000 in
theorem newDec_ok (p : Nat) (v : Value) (l : List UInt8) (w : World) (hr : Rdr w p v l 0) (hl : l.length ≤ 4611686018427387904) (hp : p < w.heap.size) :
    Calls Tryz.prog 81 #[.agg #[.bool true, .bool false, .int .i64 0, .bool false, .bool false, .bool false, .bool false], rdV p] w fun e w' =>
      ∃ dd s q k f : Nat, e = .returned (.pointer (some ⟨dd, 0, none⟩)) ∧ w'.heap[dd]? = some (decO s (stkV k 0) 0 (stkV f 0)) ∧ Srs w' s q p v l 0 ∧ Stk w' 195 k [] ∧ Stk w' 3 f [] ∧
        (w.heap.size ≤ q ∧ w.heap.size ≤ k ∧ w.heap.size ≤ f ∧ k ≠ q ∧ f ≠ q ∧ k ≠ s ∧ f ≠ s ∧ k ≠ f ∧ k < dd ∧ f < dd ∧ s < dd ∧ dd < w'.heap.size) ∧ Below w.heap.size w w' := by
  have B1 : Below w.heap.size w (w.alloc cfgO) := (Below.refl _ _).alloc (Nat.le_refl _) _
  have r1 := heap_alloc_new w cfgO
  have z1 := size_alloc' w cfgO
  obtain ⟨w1, hw1⟩ : ∃ w1, w1 = w.alloc cfgO := ⟨_, rfl⟩
  rw [← hw1] at B1 r1 z1
  have HN : ∀ W, Below w1.heap.size w1 W → Hid (Calls Tryz.prog 94 #[rdV p] W fun e w' => ∃ s q : Nat, e = .returned (srsV s) ∧ Srs w' s q p v l 0 ∧ W.heap.size ≤ q ∧ s < w'.heap.size ∧ Below W.heap.size W w') := by
    intro W h
    refine Lib.hid ((newRdr_ok p v l W ((hr.below B1).below h) hl (by have := h.size; omega)).mono ?_)
    rintro e w' ⟨rfl, h1, h2, h3⟩
    exact ⟨_, _, rfl, h1, Nat.le_refl _, by omega, h2⟩
  have C0 := Lib.hid (cell_of_row' (cur := [_, _, _, _, _, _, _]) r1 0)
  have C1 := Lib.hid (cell_of_row' (cur := [_, _, _, _, _, _, _]) r1 1)
  have C2 := Lib.hid (cell_of_row' (cur := [_, _, _, _, _, _, _]) r1 2)
  have C3 := Lib.hid (cell_of_row' (cur := [_, _, _, _, _, _, _]) r1 3)
  have C4 := Lib.hid (cell_of_row' (cur := [_, _, _, _, _, _, _]) r1 4)
  have C5 := Lib.hid (cell_of_row' (cur := [_, _, _, _, _, _, _]) r1 5)
  have C6 := Lib.hid (cell_of_row' (cur := [_, _, _, _, _, _, _]) r1 6)
  have mk1 := make10 (x := .int .u8 0) Tryz.underlying193 info_ph3 (by omega) rfl
  have mk2 := make10 (x := .int .i64 0) Tryz.underlying194 info_in3 (by omega) rfl
  have HB1 := Lib.hid B1
  have HZ1 := Lib.hid z1
  subst hw1
  clear hr r1 B1 z1
  go_enter Tryz.func81, Tryz.ntmps81
  go_wp2_with fail
  go_region_law (
        (rw [if_pos (by rfl)]
         go_simp
         go_at_call 94
         refine (HN _ (by repeat (first | assumption | exact Below.refl _ _ | apply Below.drew | apply bel_al))).out.mono ?_
         rintro e w2 ⟨s, q, rfl, hs, hq, hz, hb⟩
         have hb' := below_any (a := w.alloc cfgO) (by repeat (first | assumption | exact Below.refl _ _ | apply Below.drew | apply bel_al)) hb
         have q0 := below_cell hb' C0.out
         have p0 : ∀ o, (w2.alloc o).cell? ⟨w.heap.size, 0, none⟩ = _ := fun o => below_cell (bel_al hb' o) C0.out
         have o0 : ∀ o o', ((w2.alloc o).alloc o').cell? ⟨w.heap.size, 0, none⟩ = _ := fun o o' => below_cell (bel_al (bel_al hb' o) o') C0.out
         have q1 := below_cell hb' C1.out
         have p1 : ∀ o, (w2.alloc o).cell? ⟨w.heap.size, 1, none⟩ = _ := fun o => below_cell (bel_al hb' o) C1.out
         have o1 : ∀ o o', ((w2.alloc o).alloc o').cell? ⟨w.heap.size, 1, none⟩ = _ := fun o o' => below_cell (bel_al (bel_al hb' o) o') C1.out
         have q2 := below_cell hb' C2.out
         have p2 : ∀ o, (w2.alloc o).cell? ⟨w.heap.size, 2, none⟩ = _ := fun o => below_cell (bel_al hb' o) C2.out
         have o2 : ∀ o o', ((w2.alloc o).alloc o').cell? ⟨w.heap.size, 2, none⟩ = _ := fun o o' => below_cell (bel_al (bel_al hb' o) o') C2.out
         have q3 := below_cell hb' C3.out
         have p3 : ∀ o, (w2.alloc o).cell? ⟨w.heap.size, 3, none⟩ = _ := fun o => below_cell (bel_al hb' o) C3.out
         have o3 : ∀ o o', ((w2.alloc o).alloc o').cell? ⟨w.heap.size, 3, none⟩ = _ := fun o o' => below_cell (bel_al (bel_al hb' o) o') C3.out
         have q4 := below_cell hb' C4.out
         have p4 : ∀ o, (w2.alloc o).cell? ⟨w.heap.size, 4, none⟩ = _ := fun o => below_cell (bel_al hb' o) C4.out
         have o4 : ∀ o o', ((w2.alloc o).alloc o').cell? ⟨w.heap.size, 4, none⟩ = _ := fun o o' => below_cell (bel_al (bel_al hb' o) o') C4.out
         have q5 := below_cell hb' C5.out
         have p5 : ∀ o, (w2.alloc o).cell? ⟨w.heap.size, 5, none⟩ = _ := fun o => below_cell (bel_al hb' o) C5.out
         have o5 : ∀ o o', ((w2.alloc o).alloc o').cell? ⟨w.heap.size, 5, none⟩ = _ := fun o o' => below_cell (bel_al (bel_al hb' o) o') C5.out
         have q6 := below_cell hb' C6.out
         have p6 : ∀ o, (w2.alloc o).cell? ⟨w.heap.size, 6, none⟩ = _ := fun o => below_cell (bel_al hb' o) C6.out
         have o6 : ∀ o o', ((w2.alloc o).alloc o').cell? ⟨w.heap.size, 6, none⟩ = _ := fun o o' => below_cell (bel_al (bel_al hb' o) o') C6.out))
  all_goals
    clear q0 q1 q2 q3 q4 q5 q6 p0 p1 p2 p3 p4 p5 p6 o0 o1 o2 o3 o4 o5 o6 mk1 mk2 HN C0 C1 C2 C3 C4 C5 C6
    simp only [drew_sz, World.size_alloc] at hq
    have HSR := Lib.hid hs
    have HBB := Lib.hid hb
    have HBW := Lib.hid hb'
    clear hs hb hb'
    go_wp2
    go_ret
  all_goals
    have hz0 := HBB.out.size
    simp only [drew_sz, World.size_alloc] at hz0
    have hqs := HSR.out.lt
    refine ⟨_, s, q, _, _, rfl, heap_new_at (by simp only [World.size_alloc]), ?_, stk10 _ (.int .u8 0) _ _ ?_, stk10 _ (.int .i64 0) _ _ ?_, ?_, ?_⟩
    · repeat (first | exact HSR.out | refine Srs.below ?_ ((Below.refl _ _).alloc (Nat.le_refl _) _))
    · repeat (first | exact heap_new_at (by simp only [World.size_alloc]) | refine heap_old_at ?_ | refine row_below HBB.out (by simp only [World.size_alloc, drew_sz]; omega) ?_ | refine drew_row ?_)
    · repeat (first | exact heap_new_at (by simp only [World.size_alloc]) | refine heap_old_at ?_ | refine row_below HBB.out (by simp only [World.size_alloc, drew_sz]; omega) ?_ | refine drew_row ?_)
    · simp only [World.size_alloc]
      refine ⟨?_, ?_, ?_, ?_, ?_, ?_, ?_, ?_, ?_, ?_, ?_, ?_⟩ <;> omega
    · have hb := below_any HB1.out HBW.out
      repeat (first | exact hb | apply bel_al)
end Go.Proofs.YtglkonccinpdnaaGreatDoor
/- Contracts: the decoder's steps, over a decoder that stands somewhere in its bytes. (genCbL.py) -/
namespace Go.Proofs.YtglkonccinpdnaaGreatDoor
open Go.RowKit

/-- Where the decoder's blocks lie. -/
structure DecL (dd s q p k f tk : Nat) : Prop where
  pk : p < k
  pf : p < f
  kq : k ≠ q
  fq : f ≠ q
  ks : k ≠ s
  fs : f ≠ s
  kf : k ≠ f
  kd : k < dd
  fd : f < dd
  sd : s < dd
  dt : dd < tk
/-- The decoder stands at byte i, in phase ph, with its two stacks. -/
structure Dec (w : World) (dd s q p k f tk : Nat) (v : Value) (l : List UInt8) (i : Nat) (ph : Int) (xs ys : List Value) : Prop where
  hd : w.heap[dd]? = some (decO s (stkV k xs.length) ph (stkV f ys.length))
  hr : Srs w s q p v l i
  hK : Stk w 195 k xs
  hF : Stk w 3 f ys
  lay : DecL dd s q p k f tk
/-- A token of a type, with its text, its bytes and its number. -/
def Tok (w : World) (tk : Nat) (ty : Int) (sr : Value) (bs : Value) (ut : Value) : Prop := ∃ ln bl it ft tg ta, w.heap[tk]? = some (tokO ty ln sr bs bl it ut ft tg ta)
abbrev DS (dd s q p k f tk : Nat) : Nat → Prop := fun k' => k' = p ∨ k' = q ∨ k' = s ∨ k' = tk ∨ k' = dd ∨ k' = k ∨ k' = f
theorem Dec.keep {w w' : World} {dd s q p k f tk : Nat} {v : Value} {l : List UInt8} {i : Nat} {ph : Int} {xs ys : List Value} (h : Dec w dd s q p k f tk v l i ph xs ys) {S : Nat → Prop} (hk : Keep S w w') (hS : ∀ j, S j → p < j ∧ j ≠ q ∧ j ≠ s ∧ j ≠ k ∧ j ≠ f ∧ j ≠ dd) : Dec w' dd s q p k f tk v l i ph xs ys :=
  ⟨hk.row h.hd (fun e => (hS _ e).2.2.2.2.2 rfl), h.hr.keep hk (fun j e => ⟨(hS j e).1, (hS j e).2.1, (hS j e).2.2.1⟩), h.hK.keep hk (fun e => (hS _ e).2.2.2.1 rfl), h.hF.keep hk (fun e => (hS _ e).2.2.2.2.1 rfl), h.lay⟩

set_option maxHeartbeats 1000000 in
theorem dMap (dd s q p k f tk : Nat) (v : Value) (l : List UInt8) (i : Nat) (b : Nat) (hb0 : 160 ≤ b) (hb1 : b ≤ 184) (w : World) (h : Dec w dd s q p k f tk v l i 0 [] []) (ty : Int) (sr bs ut : Value) (ht : Tok w tk ty sr bs ut) (hi : i + 1 + (headN l (i + 1) b).2 ≤ l.length) (hil : i < l.length) (hb : (l[i]'hil).toNat = b) (e0 : Addr) (he : ErrAt p w 0 e0) :
    Calls Tryz.prog 82 #[.pointer (some ⟨dd, 0, none⟩), .pointer (some ⟨tk, 0, none⟩)] w fun e w' => e = .returned (.tuple #[.bool false, .nilIface]) ∧ Dec w' dd s q p k f tk v l (i + 1 + (headN l (i + 1) b).2) 5 [.int .u8 0] [.int .i64 (headN l (i + 1) b).1] ∧ Tok w' tk 123 sr bs ut ∧ Keep (DS dd s q p k f tk) w w' := by
  obtain ⟨ln, bl, it, ft, tg, ta, ht⟩ := ht
  obtain ⟨x1, x2, x3, x4, x5, x6, x7, x8, x9, x10, x11⟩ := h.lay
  have y1 := h.hr.lt
  have y2 := h.hr.rts.lt
  refine stepVal _ _ _ _ _ _ w h.hd ?_
  refine accValue _ _ _ _ _ _ _ _ _ _ _ _ _ _ _ _ _ _ _ _ _ _ _ w h.hd h.hr x10 x11 ht hil e0 he ?_
  intro w2 hr2 hd2 ht2 hk2
  rw [hb]
  refine (help_map dd s q p tk k f v l (i + 1) 0 [] [] _ _ _ _ _ _ _ _ _ _ b hb0 hb1 w2 hd2 hr2 x1 x2 x3 x4 x5 x6 x7 x8 x9 x10 x11 ht2 (h.hK.keep hk2 (by omega)) (h.hF.keep hk2 (by omega)) (by simp) (by simp) hi e0 (he.keep hk2 (fun j hj => by omega))).mono ?_
  rintro e w3 ⟨rfl, a1, a2, a3, a4, a5, a6⟩
  exact ⟨rfl, ⟨a3, a1, a4, a5, h.lay⟩, ⟨_, _, _, _, _, _, a2⟩, (hk2.mono (T := DS dd s q p k f tk) (fun j _ hj => by unfold DS; omega)).trans (a6.mono (fun j _ hj => hj))⟩

set_option maxHeartbeats 1000000 in
theorem dKey (dd s q p k f tk : Nat) (v : Value) (l : List UInt8) (i : Nat) (b n : Nat) (hb0 : 96 < b) (hb1 : b < 120) (hn0 : 0 < n) (hn1 : n < 256) (xs ys : List Value) (w : World) (h : Dec w dd s q p k f tk v l i 5 xs (ys ++ [.int .i64 n])) (ty : Int) (sr bs ut : Value) (ht : Tok w tk ty sr bs ut) (hi : i + 1 + b % 32 ≤ l.length) (hil : i < l.length) (hb : (l[i]'hil).toNat = b) (e0 : Addr) (he : ErrAt p w 0 e0) :
    Calls Tryz.prog 82 #[.pointer (some ⟨dd, 0, none⟩), .pointer (some ⟨tk, 0, none⟩)] w fun e w' => e = .returned (.tuple #[.bool false, .nilIface]) ∧ Dec w' dd s q p k f tk v l (i + 1 + b % 32) 6 xs (ys ++ [.int .i64 ((n - 1 : Nat) : Int)]) ∧ Tok w' tk 115 (.string ⟨((l.drop (i + 1)).take (b % 32)).toArray⟩) bs ut ∧ Keep (DS dd s q p k f tk) w w' := by
  obtain ⟨ln, bl, it, ft, tg, ta, ht⟩ := ht
  obtain ⟨x1, x2, x3, x4, x5, x6, x7, x8, x9, x10, x11⟩ := h.lay
  have y1 := h.hr.lt
  have y2 := h.hr.rts.lt
  have hd := h.hd
  rw [List.length_append, List.length_singleton] at hd
  refine stepKey _ _ _ _ _ _ w hd ?_
  refine accMapNext _ _ _ _ _ _ _ _ _ _ _ _ _ _ _ _ _ _ _ _ _ _ _ true n hn0 hn1 w hd h.hF h.hr x2 x4 x6 x10 x9 x11 ht hil e0 he ?_
  intro w2 hr2 hd2 ht2 hF2 hk2
  rw [hb]
  refine (help_str _ _ _ _ _ _ _ _ _ _ _ _ _ _ _ _ _ _ _ _ _ b hb0 hb1 w2 hd2 hr2 x10 x11 ht2 hi e0 (he.keep hk2 (fun j hj => by omega))).mono ?_
  rintro e w3 ⟨rfl, a1, a2, a3⟩
  have d3 := a3.row hd2 (by omega)
  refine ⟨rfl, ⟨?_, a1, (h.hK.keep hk2 (by omega)).keep a3 (by omega), hF2.keep a3 (by omega), h.lay⟩, ⟨_, _, _, _, _, _, a2⟩, (hk2.mono (T := DS dd s q p k f tk) (fun j _ hj => by unfold DS; omega)).trans (a3.mono (fun j _ hj => by unfold DS; omega))⟩
  rw [List.length_append, List.length_singleton]; exact d3

set_option maxHeartbeats 1000000 in
theorem dUint (dd s q p k f tk : Nat) (v : Value) (l : List UInt8) (i : Nat) (b : Nat) (hb1 : b ≤ 24) (xs ys : List Value) (w : World) (h : Dec w dd s q p k f tk v l i 6 xs ys) (ty : Int) (sr bs ut : Value) (ht : Tok w tk ty sr bs ut) (hi : i + 1 + (headN l (i + 1) b).2 ≤ l.length) (hil : i < l.length) (hb : (l[i]'hil).toNat = b) (e0 : Addr) (he : ErrAt p w 0 e0) :
    Calls Tryz.prog 82 #[.pointer (some ⟨dd, 0, none⟩), .pointer (some ⟨tk, 0, none⟩)] w fun e w' => e = .returned (.tuple #[.bool false, .nilIface]) ∧ Dec w' dd s q p k f tk v l (i + 1 + (headN l (i + 1) b).2) 5 xs ys ∧ Tok w' tk 117 sr bs (.int .u64 (headN l (i + 1) b).1) ∧ Keep (DS dd s q p k f tk) w w' := by
  obtain ⟨ln, bl, it, ft, tg, ta, ht⟩ := ht
  obtain ⟨x1, x2, x3, x4, x5, x6, x7, x8, x9, x10, x11⟩ := h.lay
  have y1 := h.hr.lt
  have y2 := h.hr.rts.lt
  refine stepMv _ _ _ _ _ _ w h.hd ?_
  refine accMapVal _ _ _ _ _ _ _ _ _ _ _ _ _ _ _ _ _ _ _ _ _ _ true w h.hd h.hr x10 x11 ht hil e0 he ?_
  intro w2 hr2 hd2 ht2 hk2
  rw [hb]
  refine (help_uint _ _ _ _ _ _ _ _ _ _ _ _ _ _ _ _ _ _ _ _ _ b hb1 w2 hd2 hr2 x10 x11 ht2 hi e0 (he.keep hk2 (fun j hj => by omega))).mono ?_
  rintro e w3 ⟨rfl, a1, a2, a3⟩
  exact ⟨rfl, ⟨a3.row hd2 (by omega), a1, (h.hK.keep hk2 (by omega)).keep a3 (by omega), (h.hF.keep hk2 (by omega)).keep a3 (by omega), h.lay⟩, ⟨_, _, _, _, _, _, a2⟩, (hk2.mono (T := DS dd s q p k f tk) (fun j _ hj => by unfold DS; omega)).trans (a3.mono (fun j _ hj => by unfold DS; omega))⟩

set_option maxHeartbeats 1000000 in
theorem dEnd (dd s q p k f tk : Nat) (v : Value) (l : List UInt8) (i : Nat) (x : Value) (w : World) (h : Dec w dd s q p k f tk v l i 5 [x] [.int .i64 0]) (ty : Int) (sr bs ut : Value) (ht : Tok w tk ty sr bs ut) :
    Calls Tryz.prog 82 #[.pointer (some ⟨dd, 0, none⟩), .pointer (some ⟨tk, 0, none⟩)] w fun e w' => e = .returned (.tuple #[.bool true, .nilIface]) ∧ Tok w' tk 125 sr bs ut ∧ Keep (DS dd s q p k f tk) w w' := by
  obtain ⟨ln, bl, it, ft, tg, ta, ht⟩ := ht
  obtain ⟨x1, x2, x3, x4, x5, x6, x7, x8, x9, x10, x11⟩ := h.lay
  have y1 := h.hr.lt
  have y2 := h.hr.rts.lt
  refine (stepEnd dd s tk k _ _ (fun w' => w'.heap[dd]? = some (decO s (stkV k 1) 5 (stkV f 0)) ∧ w'.heap[tk]? = some (tokO 125 ln sr bs bl it ut ft tg ta) ∧ Keep (DS dd s q p k f tk) w w') w h.hd ?_ (fun w1 hw1 => ⟨_, _, hw1.1⟩)).mono ?_
  · refine (accMapClose dd s tk f (stkV k 1) 5 [] ty ln sr bs bl it ut ft tg ta w h.hd h.hF x9 x11 ht).mono ?_
    rintro e w1 ⟨rfl, a1, a2, a3, a4⟩
    exact ⟨rfl, a1, a2, a4.mono (fun j _ hj => by unfold DS; omega)⟩
  · rintro e w1 ⟨rfl, a1, a2, a3⟩
    exact ⟨rfl, ⟨_, _, _, _, _, _, a2⟩, a3⟩

set_option maxHeartbeats 1000000 in
theorem dArr (dd s q p k f tk : Nat) (v : Value) (l : List UInt8) (i : Nat) (b : Nat) (hb0 : 128 ≤ b) (hb1 : b ≤ 152) (xs ys : List Value) (hx : xs.length < 10) (hy : ys.length < 10) (w : World) (h : Dec w dd s q p k f tk v l i 6 xs ys) (ty : Int) (sr bs ut : Value) (ht : Tok w tk ty sr bs ut) (hi : i + 1 + (headN l (i + 1) b).2 ≤ l.length) (hil : i < l.length) (hb : (l[i]'hil).toNat = b) (e0 : Addr) (he : ErrAt p w 0 e0) :
    Calls Tryz.prog 82 #[.pointer (some ⟨dd, 0, none⟩), .pointer (some ⟨tk, 0, none⟩)] w fun e w' => e = .returned (.tuple #[.bool false, .nilIface]) ∧ Dec w' dd s q p k f tk v l (i + 1 + (headN l (i + 1) b).2) 4 (xs ++ [.int .u8 5]) (ys ++ [.int .i64 (headN l (i + 1) b).1]) ∧ Tok w' tk 91 sr bs ut ∧ Keep (DS dd s q p k f tk) w w' := by
  obtain ⟨ln, bl, it, ft, tg, ta, ht⟩ := ht
  obtain ⟨x1, x2, x3, x4, x5, x6, x7, x8, x9, x10, x11⟩ := h.lay
  have y1 := h.hr.lt
  have y2 := h.hr.rts.lt
  refine stepMv _ _ _ _ _ _ w h.hd ?_
  refine accMapVal _ _ _ _ _ _ _ _ _ _ _ _ _ _ _ _ _ _ _ _ _ _ false w h.hd h.hr x10 x11 ht hil e0 he ?_
  intro w2 hr2 hd2 ht2 hk2
  rw [hb]
  refine (help_arr dd s q p tk k f v l (i + 1) 5 xs ys _ _ _ _ _ _ _ _ _ _ b hb0 hb1 w2 hd2 hr2 x1 x2 x3 x4 x5 x6 x7 x8 x9 x10 x11 ht2 (h.hK.keep hk2 (by omega)) (h.hF.keep hk2 (by omega)) hx hy hi e0 (he.keep hk2 (fun j hj => by omega))).mono ?_
  rintro e w3 ⟨rfl, a1, a2, a3, a4, a5, a6⟩
  refine ⟨rfl, ⟨?_, a1, a4, a5, h.lay⟩, ⟨_, _, _, _, _, _, a2⟩, (hk2.mono (T := DS dd s q p k f tk) (fun j _ hj => by unfold DS; omega)).trans (a6.mono (fun j _ hj => hj))⟩
  rw [List.length_append, List.length_append, List.length_singleton, List.length_singleton]; exact a3

set_option maxHeartbeats 1000000 in
theorem dPop (dd s q p k f tk : Nat) (v : Value) (l : List UInt8) (i : Nat) (ph0 : Int) (xs ys : List Value) (hx : 0 < xs.length) (w : World) (h : Dec w dd s q p k f tk v l i 4 (xs ++ [.int .u8 ph0]) (ys ++ [.int .i64 0])) (ty : Int) (sr bs ut : Value) (ht : Tok w tk ty sr bs ut) :
    Calls Tryz.prog 82 #[.pointer (some ⟨dd, 0, none⟩), .pointer (some ⟨tk, 0, none⟩)] w fun e w' => e = .returned (.tuple #[.bool false, .nilIface]) ∧ Dec w' dd s q p k f tk v l i ph0 xs ys ∧ Tok w' tk 93 sr bs ut ∧ Keep (DS dd s q p k f tk) w w' := by
  obtain ⟨ln, bl, it, ft, tg, ta, ht⟩ := ht
  obtain ⟨x1, x2, x3, x4, x5, x6, x7, x8, x9, x10, x11⟩ := h.lay
  have y1 := h.hr.lt
  have y2 := h.hr.rts.lt
  have hd := h.hd
  rw [List.length_append, List.length_singleton, List.length_append, List.length_singleton] at hd
  refine (stepPop dd s tk k _ _ xs (fun w' => (w'.heap[dd]? = some (decO s (stkV k (xs.length + 1)) 4 (stkV f ys.length)) ∧ Stk w' 195 k (xs ++ [.int .u8 ph0])) ∧ w'.heap[tk]? = some (tokO 93 ln sr bs bl it ut ft tg ta) ∧ Stk w' 3 f ys ∧ Keep (fun k => k = dd ∨ k = tk) w w') w hd ?_ ph0 (stkV f ys.length) hx (fun w1 hw1 => hw1.1)).mono ?_
  · refine (accArrClose dd s tk f (stkV k (xs.length + 1)) 4 ys ty ln sr bs bl it ut ft tg ta w hd h.hF x9 x11 ht).mono ?_
    rintro e w1 ⟨rfl, a1, a2, a3, a4⟩
    exact ⟨rfl, ⟨a1, h.hK.keep a4 (by omega)⟩, a2, a3, a4⟩
  · rintro e w2 ⟨rfl, w1, ⟨⟨a1, a2⟩, a3, a4, a5⟩, a6, a7⟩
    refine ⟨rfl, ⟨a6, (h.hr.keep a5 (fun j hj => by omega)).keep a7 (fun j hj => by omega), (a2.pop).keep a7 (by omega), a4.keep a7 (by omega), h.lay⟩, ⟨_, _, _, _, _, _, a7.row a3 (by omega)⟩, (a5.mono (T := DS dd s q p k f tk) (fun j _ hj => by unfold DS; omega)).trans (a7.mono (fun j _ hj => by unfold DS; omega))⟩
end Go.Proofs.YtglkonccinpdnaaGreatDoor
/- Contract: carv1.zzDecodeHeader of the pragma's bytes. -/
namespace Go.Proofs.YtglkonccinpdnaaGreatDoor
open Go.RowKit

/-- The pragma behind its length: {"version": 2}. -/
abbrev pragB : List UInt8 := [161, 103, 118, 101, 114, 115, 105, 111, 110, 2]

abbrev tokZ : Array Value := #[.int .u8 0, .int .i64 0, .string ⟨#[]⟩, .slice none 0 0, .bool false, .int .i64 0, .int .u64 0, .float .f64 0, .bool false, .int .i64 0]
theorem info_tok : (Tryz.prog.info? 169).map (·.size) = some 10 := by kernel_rfl
theorem Tok.zero {w : World} {tk : Nat} (h : w.heap[tk]? = some (.cells tokZ 169 (0, 0))) : Tok w tk 0 (.string ⟨#[]⟩) (.slice none 0 0) (.int .u64 0) := ⟨_, _, _, _, _, _, h⟩
/-- The token set to its zero. -/
def clrTok (w : World) (tk : Nat) : World := ((((((((((w.setCell ⟨tk, 0, none⟩ (.int .u8 0)).setCell ⟨tk, 1, none⟩ (.int .i64 0)).setCell ⟨tk, 2, none⟩ (.string ⟨#[]⟩)).setCell ⟨tk, 3, none⟩ (.slice none 0 0)).setCell ⟨tk, 4, none⟩ (.bool false)).setCell ⟨tk, 5, none⟩ (.int .i64 0)).setCell ⟨tk, 6, none⟩ (.int .u64 0)).setCell ⟨tk, 7, none⟩ (.float .f64 0)).setCell ⟨tk, 8, none⟩ (.bool false)).setCell ⟨tk, 9, none⟩ (.int .i64 0))
set_option maxHeartbeats 1000000 in
theorem Tok.clear {w : World} {tk : Nat} {ty : Int} {sr bs ut : Value} (h : Tok w tk ty sr bs ut) : Tok (clrTok w tk) tk 0 (.string ⟨#[]⟩) (.slice none 0 0) (.int .u64 0) := by
  obtain ⟨ln, bl, it, ft, tg, ta, h0⟩ := h
  have h1 : (w.setCell ⟨tk, 0, none⟩ (.int .u8 0)).heap[tk]? = some (.cells #[.int .u8 0, ln, sr, bs, bl, it, ut, ft, tg, ta] 169 (0, 0)) := Lib.heap_setCell_same (i := 0) h0 _
  have h2 : ((w.setCell ⟨tk, 0, none⟩ (.int .u8 0)).setCell ⟨tk, 1, none⟩ (.int .i64 0)).heap[tk]? = some (.cells #[.int .u8 0, .int .i64 0, sr, bs, bl, it, ut, ft, tg, ta] 169 (0, 0)) := Lib.heap_setCell_same (i := 1) h1 _
  have h3 : (((w.setCell ⟨tk, 0, none⟩ (.int .u8 0)).setCell ⟨tk, 1, none⟩ (.int .i64 0)).setCell ⟨tk, 2, none⟩ (.string ⟨#[]⟩)).heap[tk]? = some (.cells #[.int .u8 0, .int .i64 0, .string ⟨#[]⟩, bs, bl, it, ut, ft, tg, ta] 169 (0, 0)) := Lib.heap_setCell_same (i := 2) h2 _
  have h4 : ((((w.setCell ⟨tk, 0, none⟩ (.int .u8 0)).setCell ⟨tk, 1, none⟩ (.int .i64 0)).setCell ⟨tk, 2, none⟩ (.string ⟨#[]⟩)).setCell ⟨tk, 3, none⟩ (.slice none 0 0)).heap[tk]? = some (.cells #[.int .u8 0, .int .i64 0, .string ⟨#[]⟩, .slice none 0 0, bl, it, ut, ft, tg, ta] 169 (0, 0)) := Lib.heap_setCell_same (i := 3) h3 _
  have h5 : (((((w.setCell ⟨tk, 0, none⟩ (.int .u8 0)).setCell ⟨tk, 1, none⟩ (.int .i64 0)).setCell ⟨tk, 2, none⟩ (.string ⟨#[]⟩)).setCell ⟨tk, 3, none⟩ (.slice none 0 0)).setCell ⟨tk, 4, none⟩ (.bool false)).heap[tk]? = some (.cells #[.int .u8 0, .int .i64 0, .string ⟨#[]⟩, .slice none 0 0, .bool false, it, ut, ft, tg, ta] 169 (0, 0)) := Lib.heap_setCell_same (i := 4) h4 _
  have h6 : ((((((w.setCell ⟨tk, 0, none⟩ (.int .u8 0)).setCell ⟨tk, 1, none⟩ (.int .i64 0)).setCell ⟨tk, 2, none⟩ (.string ⟨#[]⟩)).setCell ⟨tk, 3, none⟩ (.slice none 0 0)).setCell ⟨tk, 4, none⟩ (.bool false)).setCell ⟨tk, 5, none⟩ (.int .i64 0)).heap[tk]? = some (.cells #[.int .u8 0, .int .i64 0, .string ⟨#[]⟩, .slice none 0 0, .bool false, .int .i64 0, ut, ft, tg, ta] 169 (0, 0)) := Lib.heap_setCell_same (i := 5) h5 _
  have h7 : (((((((w.setCell ⟨tk, 0, none⟩ (.int .u8 0)).setCell ⟨tk, 1, none⟩ (.int .i64 0)).setCell ⟨tk, 2, none⟩ (.string ⟨#[]⟩)).setCell ⟨tk, 3, none⟩ (.slice none 0 0)).setCell ⟨tk, 4, none⟩ (.bool false)).setCell ⟨tk, 5, none⟩ (.int .i64 0)).setCell ⟨tk, 6, none⟩ (.int .u64 0)).heap[tk]? = some (.cells #[.int .u8 0, .int .i64 0, .string ⟨#[]⟩, .slice none 0 0, .bool false, .int .i64 0, .int .u64 0, ft, tg, ta] 169 (0, 0)) := Lib.heap_setCell_same (i := 6) h6 _
  have h8 : ((((((((w.setCell ⟨tk, 0, none⟩ (.int .u8 0)).setCell ⟨tk, 1, none⟩ (.int .i64 0)).setCell ⟨tk, 2, none⟩ (.string ⟨#[]⟩)).setCell ⟨tk, 3, none⟩ (.slice none 0 0)).setCell ⟨tk, 4, none⟩ (.bool false)).setCell ⟨tk, 5, none⟩ (.int .i64 0)).setCell ⟨tk, 6, none⟩ (.int .u64 0)).setCell ⟨tk, 7, none⟩ (.float .f64 0)).heap[tk]? = some (.cells #[.int .u8 0, .int .i64 0, .string ⟨#[]⟩, .slice none 0 0, .bool false, .int .i64 0, .int .u64 0, .float .f64 0, tg, ta] 169 (0, 0)) := Lib.heap_setCell_same (i := 7) h7 _
  have h9 : (((((((((w.setCell ⟨tk, 0, none⟩ (.int .u8 0)).setCell ⟨tk, 1, none⟩ (.int .i64 0)).setCell ⟨tk, 2, none⟩ (.string ⟨#[]⟩)).setCell ⟨tk, 3, none⟩ (.slice none 0 0)).setCell ⟨tk, 4, none⟩ (.bool false)).setCell ⟨tk, 5, none⟩ (.int .i64 0)).setCell ⟨tk, 6, none⟩ (.int .u64 0)).setCell ⟨tk, 7, none⟩ (.float .f64 0)).setCell ⟨tk, 8, none⟩ (.bool false)).heap[tk]? = some (.cells #[.int .u8 0, .int .i64 0, .string ⟨#[]⟩, .slice none 0 0, .bool false, .int .i64 0, .int .u64 0, .float .f64 0, .bool false, ta] 169 (0, 0)) := Lib.heap_setCell_same (i := 8) h8 _
  have h10 : ((((((((((w.setCell ⟨tk, 0, none⟩ (.int .u8 0)).setCell ⟨tk, 1, none⟩ (.int .i64 0)).setCell ⟨tk, 2, none⟩ (.string ⟨#[]⟩)).setCell ⟨tk, 3, none⟩ (.slice none 0 0)).setCell ⟨tk, 4, none⟩ (.bool false)).setCell ⟨tk, 5, none⟩ (.int .i64 0)).setCell ⟨tk, 6, none⟩ (.int .u64 0)).setCell ⟨tk, 7, none⟩ (.float .f64 0)).setCell ⟨tk, 8, none⟩ (.bool false)).setCell ⟨tk, 9, none⟩ (.int .i64 0)).heap[tk]? = some (.cells #[.int .u8 0, .int .i64 0, .string ⟨#[]⟩, .slice none 0 0, .bool false, .int .i64 0, .int .u64 0, .float .f64 0, .bool false, .int .i64 0] 169 (0, 0)) := Lib.heap_setCell_same (i := 9) h9 _
  exact Tok.zero h10
theorem keep_clear (w : World) (tk : Nat) : Keep (fun k => k = tk) w (clrTok w tk) := ((((((((((Keep.refl (fun k => k = tk) w).setCell (p := tk) rfl 0 _).setCell (p := tk) rfl 1 _).setCell (p := tk) rfl 2 _).setCell (p := tk) rfl 3 _).setCell (p := tk) rfl 4 _).setCell (p := tk) rfl 5 _).setCell (p := tk) rfl 6 _).setCell (p := tk) rfl 7 _).setCell (p := tk) rfl 8 _).setCell (p := tk) rfl 9 _
theorem run_store_float {P : Program} (w : World) (a : Addr) (m : Mode) (k : FloatKind) (x : Nat) : (store a (.float k x) m).run P w = stored P w a (.float k x) m := run_store P w a _ m rfl
attribute [local go_sem] run_store_float
/-- A block that holds none of it has turned. -/
theorem Dec.off {w w' : World} {dd s q p k f tk : Nat} {v : Value} {l : List UInt8} {i : Nat} {ph : Int} {xs ys : List Value} (h : Dec w dd s q p k f tk v l i ph xs ys) {g : Nat} (hk : Keep (fun k => k = g) w w') (hv : OffBlock v l g) (hg : g ≠ p ∧ g ≠ q ∧ g ≠ s ∧ g ≠ k ∧ g ≠ f ∧ g ≠ dd) : Dec w' dd s q p k f tk v l i ph xs ys := by
  obtain ⟨g1, g2, g3, g4, g5, g6⟩ := hg
  obtain ⟨hd, ⟨⟨scr, s1, sr⟩, ⟨⟨b1, b2, b3, r1, r2⟩, rd, rl⟩, sl, sf⟩, hK, hF, hl⟩ := h
  exact ⟨hk.row hd (fun e => g6 e.symm), ⟨⟨scr, s1, hk.row sr (fun e => g3 e.symm)⟩, ⟨⟨b1, b2, b3, hk.row r1 (fun e => g2 e.symm), r2⟩, rd.keep' hk g1 hv, rl⟩, sl, sf⟩, hK.keep hk (fun e => g4 e.symm), hF.keep hk (fun e => g5 e.symm), hl⟩
theorem Tok.ty {w : World} {tk : Nat} {ty : Int} {sr bs ut : Value} (h : Tok w tk ty sr bs ut) : w.cell? ⟨tk, 0, none⟩ = some (.int .u8 ty) := by
  obtain ⟨_, _, _, _, _, _, h⟩ := h
  exact cell_of_row' (cur := [_, _, _, _, _, _, _, _, _, _]) h 0
theorem Tok.cells {w : World} {tk : Nat} {ty : Int} {sr bs ut : Value} (h : Tok w tk ty sr bs ut) : ∃ ln bl it ft tg ta, (w.cell? ⟨tk, 0, none⟩ = some (.int .u8 ty) ∧ w.cell? ⟨tk, 1, none⟩ = some ln ∧ w.cell? ⟨tk, 2, none⟩ = some sr ∧ w.cell? ⟨tk, 3, none⟩ = some bs ∧ w.cell? ⟨tk, 4, none⟩ = some bl ∧ w.cell? ⟨tk, 5, none⟩ = some it ∧ w.cell? ⟨tk, 6, none⟩ = some ut ∧ w.cell? ⟨tk, 7, none⟩ = some ft ∧ w.cell? ⟨tk, 8, none⟩ = some tg ∧ w.cell? ⟨tk, 9, none⟩ = some ta) ∧ ∀ i, w.frozen? ⟨tk, i, none⟩ = false := by
  obtain ⟨ln, bl, it, ft, tg, ta, h⟩ := h
  have c := fun i => cell_of_row' (cur := [_, _, _, _, _, _, _, _, _, _]) h i
  exact ⟨ln, bl, it, ft, tg, ta, ⟨c 0, c 1, c 2, c 3, c 4, c 5, c 6, c 7, c 8, c 9⟩, fun i => frozen_of_row' (cur := [_, _, _, _, _, _, _, _, _, _]) h i⟩

set_option maxRecDepth 100000 in
set_option maxHeartbeats 8000000 in
theorem zzPragma (A : Option Addr) (c hb : Nat) (rv : Value) (x : Int) (w : World) (hbs : BS w (.slice A 10 c) pragB) (hh : w.heap[hb]? = some (.cells #[rv, .int .u64 x] 119 (0, 0))) (hoff : OffBlock (.slice A 10 c) pragB hb) (e0 : Addr) (he : ErrAt w.heap.size w 0 e0) :
    Calls Tryz.prog 62 #[.slice A 10 c, .pointer (some ⟨hb, 0, none⟩)] w fun e w' => e = .returned .nilIface ∧ w'.heap[hb]? = some (.cells #[rv, .int .u64 2] 119 (0, 0)) ∧ Keep (fun k => k = hb) w w' := by
  have HN := Lib.hid (newReader (.slice A 10 c) pragB w hbs (by decide))
  have HH := Lib.hid hh
  have HE := Lib.hid he
  have HOFF := Lib.hid hoff
  clear hbs hh he hoff
  go_enter Tryz.func62, Tryz.ntmps62
  go_wp2_with fail
  refine HN.out.mono ?_
  rintro e w1 ⟨rfl, hr1, hz1, hb1⟩
  have HD := Lib.hid (newDec_ok w.heap.size (.slice A 10 c) pragB w1 hr1 (by decide) (by omega))
  clear hr1 HN
  go_wp2_with fail
  refine HD.out.mono ?_
  rintro e w2 ⟨dd, s, q, k, f, rfl, hd2, hs2, hk2, hf2, ⟨o1, o2, o3, o4, o5, o6, o7, o8, o9, o10, o11, o12⟩, hb2⟩
  have HD2 := Lib.hid hd2
  have HS2 := Lib.hid hs2
  have HK2 := Lib.hid hk2
  have HF2 := Lib.hid hf2
  clear hd2 hs2 hk2 hf2 HD
  go_wp2_with fail
  have hB3 : Below w2.heap.size w2 (w2.alloc (.cells tokZ 169)) := (Below.refl _ _).alloc (Nat.le_refl _) _
  have hT3 : Tok (w2.alloc (.cells tokZ 169)) w2.heap.size 0 _ _ _ := Tok.zero (heap_alloc_new w2 _)
  have hD3 : Dec (w2.alloc (.cells tokZ 169)) dd s q w.heap.size k f w2.heap.size (.slice A 10 c) pragB 0 0 [] [] :=
    Dec.keep (S := fun _ => False) ⟨HD2.out, HS2.out, HK2.out, HF2.out, ⟨by omega, by omega, o4, o5, o6, o7, o8, o9, o10, o11, o12⟩⟩ hB3.keep (fun _ h => h.elim)
  have hs := hb2.size
  have hE3 : ErrAt w.heap.size (w2.alloc (.cells tokZ 169)) 0 e0 := ((HE.out.below hb1).below hb2).below hB3
  have hK3 : Keep (fun _ => False) w (w2.alloc (.cells tokZ 169)) := (hb1.keep.trans hb2.keep).trans hB3.keep
  have hq3 := hD3.hr.lt
  have hp3 := hD3.hr.rts.lt
  obtain ⟨tk, htk⟩ : ∃ tk, tk = w2.heap.size := ⟨_, rfl⟩
  rw [← htk] at hT3 hD3 o12 hs ⊢
  have HTK := Lib.hid htk
  clear htk
  generalize w2.alloc (.cells tokZ 169) = w3 at *
  have hhb := block_of_row HH.out
  have HC := dMap dd s q w.heap.size k f tk (.slice A 10 c) pragB 0 161 (by decide) (by decide) w3 hD3 _ _ _ _ hT3 (by decide) (by decide) rfl e0 hE3
  rw [show headN pragB (0 + 1) 161 = (1, 0) from by decide] at HC
  have HC1 := Lib.hid HC
  have HE3 := Lib.hid hE3
  have HK3 := Lib.hid hK3
  clear hT3 hD3 HC HD2 HS2 HK2 HF2 hB3 hE3 hK3
  refine HC1.out.mono ?_
  rintro e w4 ⟨rfl, hd4, ht4, hk4⟩
  obtain ⟨ln, bl, it, ft, tg, ta, ⟨c0, c1, c2, c3, c4, c5, c6, c7, c8, c9⟩, fz⟩ := ht4.cells
  have f0 := fz 0
  have f1 := fz 1
  have f2 := fz 2
  have f3 := fz 3
  have f4 := fz 4
  have f5 := fz 5
  have f6 := fz 6
  have f7 := fz 7
  have f8 := fz 8
  have f9 := fz 9
  clear fz
  have HT4 := Lib.hid ht4
  have HD4 := Lib.hid hd4
  have HK4 := Lib.hid hk4
  have hp0 : w.heap.size < tk := by omega
  have hD5 : Dec (clrTok w4 tk) dd s q w.heap.size k f tk (.slice A 10 c) pragB 1 5 [.int .u8 0] ([] ++ [.int .i64 ((1 : Nat) : Int)]) := HD4.out.keep (keep_clear w4 tk) (fun j hj => by omega)
  have hE5 : ErrAt w.heap.size (clrTok w4 tk) 0 e0 := (HE3.out.keep HK4.out (fun j hj => by have : DS dd s q w.heap.size k f tk j := hj; unfold DS at this; omega)).keep (keep_clear w4 tk) (fun j hj => by omega)
  have HC := Lib.hid (dKey dd s q w.heap.size k f tk (.slice A 10 c) pragB 1 103 1 (by decide) (by decide) (by decide) (by decide) [.int .u8 0] [] (clrTok w4 tk) hD5 _ _ _ _ (Tok.clear HT4.out) (by decide) (by decide) rfl e0 hE5)
  have HE5 := Lib.hid hE5
  clear hd4 ht4 hk4 HC1 hD5 hE5
  go_wp2_with fail
  refine wp_loop_rounds 3 ?_
  rw [rounds_succ]
  go_wp2_with fail
  refine HC.out.mono ?_
  rintro e w5 ⟨rfl, hd5, ht5, hk5⟩
  clear c0 c1 c2 c3 c4 c5 c6 c7 c8 c9 f0 f1 f2 f3 f4 f5 f6 f7 f8 f9
  have ht5' : Tok w5 tk 115 (.string ⟨#[118, 101, 114, 115, 105, 111, 110]⟩) (.slice none 0 0) (.int .u64 0) := ht5
  obtain ⟨ln5, bl5, it5, ft5, tg5, ta5, ⟨c0, c1, c2, c3, c4, c5, c6, c7, c8, c9⟩, fz⟩ := ht5'.cells
  have f0 := fz 0
  have f1 := fz 1
  have f2 := fz 2
  have f3 := fz 3
  have f4 := fz 4
  have f5 := fz 5
  have f6 := fz 6
  have f7 := fz 7
  have f8 := fz 8
  have f9 := fz 9
  clear fz
  have HT5 := Lib.hid ht5'
  have HD5 := Lib.hid hd5
  have HK5 := Lib.hid hk5
  have hD6 : Dec (clrTok w5 tk) dd s q w.heap.size k f tk (.slice A 10 c) pragB 9 6 [.int .u8 0] [.int .i64 0] := hd5.keep (keep_clear w5 tk) (fun j hj => by omega)
  have hE6 : ErrAt w.heap.size (clrTok w5 tk) 0 e0 := (HE5.out.keep hk5 (fun j hj => by have : DS dd s q w.heap.size k f tk j := hj; unfold DS at this; omega)).keep (keep_clear w5 tk) (fun j hj => by omega)
  have HC6 := Lib.hid (dUint dd s q w.heap.size k f tk (.slice A 10 c) pragB 9 2 (by decide) [.int .u8 0] [.int .i64 0] (clrTok w5 tk) hD6 _ _ _ _ (Tok.clear HT5.out) (by decide) (by decide) rfl e0 hE6)
  have HE6 := Lib.hid hE6
  clear hd5 ht5 ht5' hk5 hD6 hE6 HC
  go_wp2_with fail
  refine HC6.out.mono ?_
  rintro e w6 ⟨rfl, hd6, ht6, hk6⟩
  clear c0 c1 c2 c3 c4 c5 c6 c7 c8 c9 f0 f1 f2 f3 f4 f5 f6 f7 f8 f9
  have ht6' : Tok w6 tk 117 (.string ⟨#[]⟩) (.slice none 0 0) (.int .u64 2) := ht6
  have hK36 : Keep (DS dd s q w.heap.size k f tk) w3 w6 := (((HK4.out.trans ((keep_clear w4 tk).mono (fun j _ hj => by unfold DS; omega))).trans HK5.out).trans ((keep_clear w5 tk).mono (fun j _ hj => by unfold DS; omega))).trans hk6
  have hK6 : Keep (fun _ => False) w w6 := HK3.out.trans2 hK36 (fun j hj hd => by unfold DS at hd; omega)
  have hh6 := hK6.row HH.out (fun h => h)
  have h1 := cell_of_row' (cur := [_, _]) hh6 1
  have g1 := frozen_of_row' (cur := [_, _]) hh6 1
  have hh7 : (w6.setCell ⟨hb, 1, none⟩ (.int .u64 2)).heap[hb]? = some (.cells #[rv, .int .u64 2] 119 (0, 0)) := Lib.heap_setCell_same (i := 1) hh6 _
  have hk7 : Keep (fun k => k = hb) w6 (w6.setCell ⟨hb, 1, none⟩ (.int .u64 2)) := (Keep.refl (fun k => k = hb) w6).setCell (p := hb) rfl 1 _
  have hne : hb ≠ tk := by omega
  have ht7 : Tok (w6.setCell ⟨hb, 1, none⟩ (.int .u64 2)) tk 117 (.string ⟨#[]⟩) (.slice none 0 0) (.int .u64 2) := by
    obtain ⟨_, _, _, _, _, _, h⟩ := ht6'
    exact ⟨_, _, _, _, _, _, hk7.row h (fun e => hne e.symm)⟩
  have HD6 := Lib.hid hd6
  have d0 := ht6'.ty
  have d6 : w6.cell? ⟨tk, 6, none⟩ = some (.int .u64 2) := by
    obtain ⟨_, _, _, _, _, _, h⟩ := ht6'
    exact cell_of_row' (cur := [_, _, _, _, _, _, _, _, _, _]) h 6
  have hD7 := hd6.off hk7 HOFF.out ⟨by omega, by omega, by omega, by omega, by omega, by omega⟩
  have HT7 := Lib.hid ht7
  have HH7 := Lib.hid hh7
  have HKW := Lib.hid (hK6.mono (T := fun k => k = hb) (fun _ _ h => h.elim) |>.trans hk7)
  have hD8 : Dec (clrTok (w6.setCell ⟨hb, 1, none⟩ (.int .u64 2)) tk) dd s q w.heap.size k f tk (.slice A 10 c) pragB 10 5 [.int .u8 0] [.int .i64 0] := hD7.keep (keep_clear _ tk) (fun j hj => by omega)
  have HC8 := Lib.hid (dEnd dd s q w.heap.size k f tk (.slice A 10 c) pragB 10 (.int .u8 0) _ hD8 _ _ _ _ (Tok.clear HT7.out))
  have hne' : tk ≠ hb := by omega
  obtain ⟨ln6, bl6, it6, ft6, tg6, ta6, ⟨c0, c1, c2, c3, c4, c5, c6, c7, c8, c9⟩, fz⟩ := ht6'.cells
  have f0 := fz 0
  have f1 := fz 1
  have f2 := fz 2
  have f3 := fz 3
  have f4 := fz 4
  have f5 := fz 5
  have f6 := fz 6
  have f7 := fz 7
  have f8 := fz 8
  have f9 := fz 9
  clear fz
  clear hd6 ht6 ht6' hk6 hK36 hK6 hh6 hh7 hk7 ht7 hD7 hD8 HD6 HC6 d0 d6
  go_wp2_with fail
  rw [rounds_succ]
  go_wp2_with fail
  refine HC8.out.mono ?_
  rintro e w9 ⟨rfl, ht9, hk9⟩
  clear c0 c1 c2 c3 c4 c5 c6 c7 c8 c9 f0 f1 f2 f3 f4 f5 f6 f7 f8 f9
  have t0 := ht9.ty
  have hk9' : Keep (fun k => k = hb) w w9 := HKW.out.trans2 ((keep_clear _ tk).mono (T := DS dd s q w.heap.size k f tk) (fun j _ hj => by unfold DS; omega) |>.trans hk9) (fun j hj hd => by unfold DS at hd; omega)
  have hh9 := hk9.row ((keep_clear _ tk).row HH7.out (fun e => hne e)) (fun e => by unfold DS at e; omega)
  have HK9 := Lib.hid hk9'
  have HH9 := Lib.hid hh9
  clear ht9 hk9 hk9' hh9 h1 g1
  go_wp2
  go_ret
  exact ⟨rfl, HH9.out, HK9.out⟩
end Go.Proofs.YtglkonccinpdnaaGreatDoor
