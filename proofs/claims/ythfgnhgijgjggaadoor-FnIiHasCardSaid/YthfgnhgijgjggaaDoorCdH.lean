/- Contracts: impl.cidIn where NewCidV0 panics. -/
import Derived.Test.YthfgnhgijgjggaaDoorCdG
namespace Go.Proofs.YthfgnhgijgjggaaDoor
open Go.RowKit

set_option maxRecDepth 100000 in
set_option maxHeartbeats 8000000 in
theorem cidIn_v0bad (codec code : Nat) (d : ByteArray) (hd : d.size ≤ 2147483600) (hcode : code < 9223372036854775808) (hbad : ¬ (code = 18 ∧ d.size = 32)) (w : World) (hu : CdS w) :
    Calls Tryd.prog 40 #[.agg #[.int .u64 0, .int .u64 codec, .int .u64 code, .string d]] w fun e w' => e = .returned (.tuple #[.agg #[.string ⟨#[]⟩], .bool false]) ∧ Below w.heap.size w w' := by
  have hmf := hmfA
  obtain ⟨A, c, w4, hconv, hbs, hb4, r1, r2, r3⟩ := cidIn_pre 0 codec code d w
  have HE := Lib.hid (encode_any _ _ _ _ w4 hbs (by rw [ba_len]; omega) code (by omega))
  have hml := mhEnc_len_le code d.data.toList (by omega) (by rw [ba_len]; omega)
  rw [ba_len] at hml
  have hrd := mhRd_enc code d.data.toList [] (by omega) (by rw [ba_len]; omega)
  rw [List.append_nil] at hrd
  have HRD := Lib.hid hrd
  clear hrd
  generalize mhEnc code d.data.toList = M at HE hml HRD
  have d2 := cell_of_row' (cur := [_, _, _, _]) r1 2
  have HBAD : Hid (¬ (code = 18 ∧ d.data.toList.length = 32)) := Lib.hid (by rw [ba_len]; exact hbad)
  have HR1 := Lib.hid r1
  have HR2 := Lib.hid r2
  have HR3 := Lib.hid r3
  have hml2 : M.length ≤ 2147483647 := by omega
  clear hbs r1 r2 r3 hbad hcode
  generalize hcx : (codec : Int) = x at *
  clear hcx
  go_enter_defers Tryd.func40, Tryd.ntmps40
  go_wp2_with fail
  refine HE.out.mono ?_
  rintro e w5 ⟨rfl, hr, hb5⟩
  have hbs5 := BS.of_row (c := M.length) hr.out (Nat.le_refl _)
  have hb6 := below_next hb4 hb5
  have q1 := row_below hb5 (block_of_row HR1.out) HR1.out
  have q2 := row_below hb5 (block_of_row HR2.out) HR2.out
  have q3 := row_below hb5 (block_of_row HR3.out) HR3.out
  have c0 := cell_of_row' (cur := [_, _, _, _]) q1 0
  have c1 := cell_of_row' (cur := [_, _, _, _]) q1 1
  have HV := Lib.hid (newCidV0_bad _ _ _ M w5.drew hbs5 (by omega) ((hu.below hb6).below (below_drewN _ _ 1)) _ _ HRD.out HBAD.out)
  have Q1 := Lib.hid q1
  have Q2 := Lib.hid q2
  have Q3 := Lib.hid q3
  clear hbs5 hr HE hconv d2 q1 q2 q3 hml
  go_wp2_with fail
  refine wp_region_any (by kernel_rfl) ?_
  change wpAny _ _ _ _ _ _ _ (World.drew _)
  repeat (any_goals (first
    | exact AllReady.nil
    | (refine AllReady.cons rfl (fun K hK => ?_) ?_; focus (go_simp; first
        | (refine hK _ _ ?_; clear hK K)
        | (go_wp2_with fail
           refine HV.out.mono ?_
           rintro e w6 ⟨⟨t, p, rfl⟩, hb7⟩
           have s2 := row_below hb7 (block_of_row Q2.out) Q2.out
           have s3 := row_below hb7 (block_of_row Q3.out) Q3.out
           have k2 := cell_of_row' (cur := [_]) s2 0
           have k3 := cell_of_row' (cur := [_]) s3 0
           have f2 := frozen_of_row' (cur := [_]) s2 0
           have f3 := frozen_of_row' (cur := [_]) s3 0
           dsimp only
           clear hK K
           go_wp2
           refine leaves_cons (f := 68) (args := #[.pointer (some ⟨w.heap.size + 1, 0, none⟩), .pointer (some ⟨w.heap.size + 1 + 1, 0, none⟩)]) (by simp) (by simp [go_sem]) ?_
           refine (cidIn_catch (w.heap.size + 1) (w.heap.size + 1 + 1) (by omega) _ _ _ _ [] _ k2 f2 k3 f3).mono ?_
           rintro e u' w'' ⟨rfl, rfl, rfl⟩
           refine ⟨_, results_row_cell rfl _ _ (w.heap.size + 1) 80 #[.string ⟨#[]⟩] (0, 0) _ ⟨w.heap.size + 2, 0, none⟩ (.bool false) rfl (by simp [World.setCell, Array.getElem?_modify, s2]) Tryd.underlying80 rfl (by kernel_rfl) rfl (loadBool (World.cell?_setCell_same _ _ _ (by rw [World.cell?_setCell_other _ _ _ _ (by simp)]; exact k3))), rfl, ?_⟩
           exact (((hb6.drewN 1).trans (hb7.mono hb6.size)).setCell (by show w.heap.size ≤ w.heap.size + 1; omega) _).setCell (by show w.heap.size ≤ w.heap.size + 1 + 1; omega) _)))
    | refine wpAny_ready (rs := [0, 2]) (by decide +kernel) (by simp) ?_
    | refine wpAny_ready (rs := [0, 3]) (by decide +kernel) (by simp) ?_
    | refine wpAny_ready (rs := [0, 4]) (by decide +kernel) (by simp) ?_
    | refine wpAny_ready (rs := [0]) (by decide +kernel) (by simp) ?_
    | refine wpAny_ready (rs := [1, 2]) (by decide +kernel) (by simp) ?_
    | refine wpAny_ready (rs := [1, 3]) (by decide +kernel) (by simp) ?_
    | refine wpAny_ready (rs := [1, 4]) (by decide +kernel) (by simp) ?_
    | refine wpAny_ready (rs := [1]) (by decide +kernel) (by simp) ?_))
end Go.Proofs.YthfgnhgijgjggaaDoor
