/- Contracts: a header of version 2 that is sound is read. -/
import Derived.Test.YticnifjmicipnaaDoorC2H
namespace Go.Proofs.YticnifjmicipnaaDoor
open Go.RowKit

theorem i64_below (n : Nat) (h : n < 9223372036854775808) : wrap64 (n : Int) = n := by unfold wrap64; omega

set_option maxRecDepth 100000 in
set_option maxHeartbeats 1000000 in
theorem headRead_ok (p h : Nat) (v : Value) (l : List UInt8) (i : Nat) (x0 x1 x2 x3 x4 : Value) (t : TypeId) (w : World) (hr : Rdr w p v l i) (hh : w.heap[h]? = some (.cells #[x0, x1, x2, x3, x4] t (0, 0))) (hhp : h ≠ p) (hv : OffBlock v l h) (hok : hdOk l i) :
    Calls Tryd.prog 20 #[.pointer (some ⟨h, 0, none⟩), rdV p] w fun e w' => e = .returned (.tuple #[.int .i64 40, .nilIface]) ∧ Rdr w' p v l (i + 40) ∧
      w'.heap[h]? = some (.cells #[.int .u64 (leAt l i 0), .int .u64 (leAt l i 1), .int .u64 (leAt l i 2), .int .u64 (leAt l i 3), .int .u64 (leAt l i 4)] t (0, 0)) ∧ Keep (fun k => k = p ∨ k = h) w w' := by
  have hlh := block_of_row hh
  obtain ⟨r, hrow⟩ := hr.row
  have hlp := block_of_row hrow
  clear hrow r
  obtain ⟨q0, q1, q2, q3, q4, q5⟩ := hok
  have HR := Lib.hid (charRead_ok p h v l i x0 x1 x2 x3 x4 t w hr hlp hh hhp hv (by omega))
  have HV := Lib.hid hv
  clear hr hh hv
  go_enter Tryd.func20, Tryd.ntmps20
  go_wp2_with fail
  refine HR.out.mono ?_
  rintro e w2 ⟨rfl, hr2, hh2, hk2⟩
  obtain ⟨w3, hmk, hb3, hs3, hrow⟩ := make_bytes (P := Tryd.prog) Tryd.underlying34 info_u8 w2 24 (by omega)
  rw [show ((24 : Nat) : Int) = 24 from rfl] at hmk
  have hlp2 := Nat.lt_of_lt_of_le hlp hk2.size
  have hlh2 := Nat.lt_of_lt_of_le hlh hk2.size
  have HR2 := Lib.hid (rdFull_ok p w2.heap.size 24 24 v l (i + 16) _ _ w3 (hr2.below hb3) hlp2 hrow (by rw [List.length_replicate]) (by omega))
  have HH3 := Lib.hid (row_below hb3 hlh2 hh2)
  clear hr2 hrow HR hh2
  go_wp2_with fail
  refine HR2.out.mono ?_
  rintro e w4 ⟨rfl, hr4, hg4, hk4⟩
  have hh4 : w4.heap[h]? = _ := hk4.row HH3.out (by omega)
  have hlen : ((l.drop (i + 16)).take 24).length = 24 := by rw [List.length_take, List.length_drop]; omega
  have hbs : BS w4 (.slice (some ⟨w2.heap.size, 0, none⟩) 24 24) ((l.drop (i + 16)).take 24) := by have := BS.of_row (c := 24) hg4.out (by omega); rwa [hlen] at this
  have e1 : ((l.drop (i + 16)).take 24).take 8 = (l.drop (i + 8 * 2)).take 8 := by rw [List.take_take]; rfl
  have e2 : ((((l.drop (i + 16)).take 24)).drop 8).take 8 = (l.drop (i + 8 * 3)).take 8 := by rw [List.drop_take, List.drop_drop, List.take_take]; rfl
  have e3 : ((l.drop (i + 16)).take 24).drop 16 = (l.drop (i + 8 * 4)).take 8 := by rw [List.drop_take, List.drop_drop]
  have b1 := (hbs.to_ (P := Tryd.prog) Tryd.underlying34 info_u8 8 (by omega)).2.2
  have b2 := ((hbs.to_ (P := Tryd.prog) Tryd.underlying34 info_u8 16 (by omega)).2.2.from_ (P := Tryd.prog) Tryd.underlying34 info_u8 8 (by omega)).2
  have b3 := (hbs.from_ (P := Tryd.prog) Tryd.underlying34 info_u8 16 (by omega)).2
  rw [cutA_own _ _ _ _ (by omega)] at b2 b3
  have e2' : (((l.drop (i + 16)).take 24).take 16).drop 8 = (l.drop (i + 8 * 3)).take 8 := by rw [List.take_take, List.drop_take, List.drop_drop]; rfl
  rw [e1] at b1
  rw [e2'] at b2
  rw [e3] at b3
  have U1 : ∀ W, Below w4.heap.size w4 W → Hid (Calls Tryd.prog 31 #[.agg #[], .slice (some ⟨w2.heap.size, 0, none⟩) 8 24] W fun e w' => e = .returned (.int .u64 (leAt l i 2)) ∧ Below W.heap.size W w') := fun W hb => Lib.hid (u64LE' _ _ 24 _ W (b1.below hb))
  have U2 : ∀ W, Below w4.heap.size w4 W → Hid (Calls Tryd.prog 31 #[.agg #[], .slice (some ⟨w2.heap.size, 8, none⟩) 8 16] W fun e w' => e = .returned (.int .u64 (leAt l i 3)) ∧ Below W.heap.size W w') := fun W hb => Lib.hid (u64LE' _ _ 16 _ W (b2.below hb))
  have U3 : ∀ W, Below w4.heap.size w4 W → Hid (Calls Tryd.prog 31 #[.agg #[], .slice (some ⟨w2.heap.size, 16, none⟩) 8 8] W fun e w' => e = .returned (.int .u64 (leAt l i 4)) ∧ Below W.heap.size W w') := fun W hb => Lib.hid (u64LE' _ _ 8 _ W (b3.below hb))
  generalize hM2 : leAt l i 2 = M2 at U1 q1 q2
  generalize hM3 : leAt l i 3 = M3 at U2 q3 q4
  generalize hM4 : leAt l i 4 = M4 at U3 q5
  have G2 := Lib.hid hM2
  have G3 := Lib.hid hM3
  have G4 := Lib.hid hM4
  clear hM2 hM3 hM4 q0
  have p2 : (51 : Int) ≤ (M2 : Int) := by omega
  have p3 : (0 : Int) < (M3 : Int) := by omega
  have p4 : (0 : Int) ≤ (M4 : Int) := by omega
  have z2 := i64_below M2 q2
  have z3 := i64_below M3 q4
  have z4 := i64_below M4 q5
  generalize hN2 : (M2 : Int) = N2 at U1 z2 p2
  generalize hN3 : (M3 : Int) = N3 at U2 z3 p3
  generalize hN4 : (M4 : Int) = N4 at U3 z4 p4
  have H2 := Lib.hid hN2
  have H3 := Lib.hid hN3
  have H4 := Lib.hid hN4
  clear hN2 hN3 hN4 q1 q2 q3 q4 q5
  have f0 : Below w4.heap.size w4 w4.drew := below_drewN _ _ 1
  clear b1 b2 b3 hbs hlen e1 e2 e2' e3 hg4 HR2
  go_wp2_with fail
  go_region_with (go_at_call 31; refine (U1 _ f0).out.mono ?_; rintro e w5 ⟨rfl, hb5⟩)
  have f1 : Below w4.heap.size w4 w5 := below_next f0 hb5
  have f2 : Below w4.heap.size w4 w5.drew := f1.drewN 1
  go_wp2_with fail
  go_region_with (go_at_call 31; refine (U2 _ f2).out.mono ?_; rintro e w6 ⟨rfl, hb6⟩)
  have f3 : Below w4.heap.size w4 w6 := below_next f2 hb6
  have f4 : Below w4.heap.size w4 w6.drew := f3.drewN 1
  go_wp2_with fail
  go_region_with (go_at_call 31; refine (U3 _ f4).out.mono ?_; rintro e w7 ⟨rfl, hb7⟩)
  have f5 : Below w4.heap.size w4 w7 := below_next f4 hb7
  have hk7 : Keep (fun k => k = p ∨ k = h) w w7 := hk2.trans2 ((hb3.keep.trans hk4).trans f5.keep) (fun k hk h => by rcases h with h | h; exact Or.inl h; have := hk2.size; omega)
  have hr7 : Rdr w7 p v l (i + 16 + 24) := hr4.below f5
  have hh7 := row_below f5 (block_of_row hh4) hh4
  clear hb5 hb6 hb7 f0 f1 f2 f3 f4 f5 U1 U2 U3 hk4 hr4 hh4 HH3
  have c2 := cell_of_row' (cur := [_, _, _, _, _]) hh7 2
  have c3 := cell_of_row' (cur := [_, _, _, _, _]) hh7 3
  have c4 := cell_of_row' (cur := [_, _, _, _, _]) hh7 4
  have g2 := frozen_of_row' (cur := [_, _, _, _, _]) hh7 2
  have g3 := frozen_of_row' (cur := [_, _, _, _, _]) hh7 3
  have g4 := frozen_of_row' (cur := [_, _, _, _, _]) hh7 4
  have HH7 := Lib.hid hh7
  clear hh7
  go_wp2
  go_ret2
  refine ⟨rfl, ?_, ?_, ?_⟩
  · exact ((hr7.keep' (Keep.setCell (S := fun k => k = h) (Keep.setCell (S := fun k => k = h) (Keep.setCell (S := fun k => k = h) (Keep.refl _ w7) (show h = h from rfl) _ _) (show h = h from rfl) _ _) (show h = h from rfl) _ _) hhp HV.out) :)
  · rw [Lib.heap_setCell_same (i := 4) (Lib.heap_setCell_same (i := 3) (Lib.heap_setCell_same (i := 2) HH7.out _) _) _, G2.out, G3.out, G4.out, H2.out, H3.out, H4.out]; rfl
  · exact ((hk7.setCell (Or.inr rfl) _ _).setCell (Or.inr rfl) _ _).setCell (Or.inr rfl) _ _
end Go.Proofs.YticnifjmicipnaaDoor
