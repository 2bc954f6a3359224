/- Contracts: impl.cidIn at version 0, and at another version. -/
import Derived.Test.YthfgnhgijgjggaaDoorCdF
import Derived.Deep.RegionHeld3
namespace Go.Proofs.YthfgnhgijgjggaaDoor
open Go.RowKit

set_option maxRecDepth 100000 in
set_option maxHeartbeats 4000000 in
theorem cidIn_v0 (codec : Nat) (d : ByteArray) (hd : d.size = 32) (w : World) (hu : UvS w) :
    Calls Tryd.prog 40 #[.agg #[.int .u64 0, .int .u64 codec, .int .u64 18, .string d]] w fun e w' => e = .returned (.tuple #[.agg #[.string ⟨(mhEnc 18 d.data.toList).toArray⟩], .bool ((codec : Int) == 112)]) ∧ Below w.heap.size w w' := by
  have hmf := hmfA
  obtain ⟨A, c, w4, hconv, hbs, hb4, r1, r2, r3⟩ := cidIn_pre 0 codec 18 d w
  have HE := Lib.hid (encode_any _ _ _ _ w4 hbs (by rw [ba_len]; omega) 18 (by omega))
  have hml := mhEnc_len_le 18 d.data.toList (by omega) (by rw [ba_len]; omega)
  rw [ba_len] at hml
  have hrd := mhRd_enc 18 d.data.toList [] (by omega) (by rw [ba_len]; omega)
  rw [List.append_nil] at hrd
  have hl32 : d.data.toList.length = 32 := by rw [ba_len]; exact hd
  have HRD := Lib.hid hrd
  clear hrd
  generalize mhEnc 18 d.data.toList = M at HE hml HRD ⊢
  have d2 := cell_of_row' (cur := [_, _, _, _]) r1 2
  have HL32 := Lib.hid hl32
  have HR1 := Lib.hid r1
  have HR2 := Lib.hid r2
  have HR3 := Lib.hid r3
  have hml2 : M.length ≤ 100 := by omega
  clear hbs r1 r2 r3 hl32 hml hd
  rw [show ((18 : Nat) : Int) = 18 from rfl] at HE
  generalize hcx : (codec : Int) = x at *
  clear hcx
  go_enter_defers Tryd.func40, Tryd.ntmps40
  go_wp2_with fail
  refine HE.out.mono ?_
  rintro e w5 ⟨rfl, hr, hb5⟩
  have hbs5 := BS.of_row (c := M.length) hr.out (Nat.le_refl _)
  have hb6 := below_next hb4 hb5
  have q1 := row_below hb5 (block_of_row HR1.out) HR1.out
  have q2 := row_below hb5 (block_of_row HR2.out) HR2.out
  have q3 := row_below hb5 (block_of_row HR3.out) HR3.out
  have c0 := cell_of_row' (cur := [_, _, _, _]) q1 0
  have c1 := cell_of_row' (cur := [_, _, _, _]) q1 1
  have HV := Lib.hid (newCidV0_ok _ _ _ M w5.drew hbs5 (by omega) ((hu.below hb6).below (below_drewN _ _ 1)) _ HRD.out HL32.out)
  have Q1 := Lib.hid q1
  have Q2 := Lib.hid q2
  have Q3 := Lib.hid q3
  clear hbs5 hr HE hconv d2 q1 q2 q3
  go_wp2_with fail
  refine wp_region_noPanic ?_
  go_region_with (go_at_call 70; refine HV.out.mono ?_; rintro e w6 ⟨rfl, hb7⟩; have s1 := row_below hb7 (block_of_row Q1.out) Q1.out; have s2 := row_below hb7 (block_of_row Q2.out) Q2.out; have s3 := row_below hb7 (block_of_row Q3.out) Q3.out; have t1 := cell_of_row' (cur := [_, _, _, _]) s1 1; have k2 := cell_of_row' (cur := [_]) s2 0; have k3 := cell_of_row' (cur := [_]) s3 0; have f2 := frozen_of_row' (cur := [_]) s2 0; have f3 := frozen_of_row' (cur := [_]) s3 0)
  all_goals
    refine NoPanic.normal ?_
    go_wp2
    refine leaves_cons (f := 68) (args := #[.pointer (some ⟨w.heap.size + 1, 0, none⟩), .pointer (some ⟨w.heap.size + 1 + 1, 0, none⟩)]) (by simp) (by simp [go_sem]) ?_
    refine (cidIn_idle _ _ _).mono ?_
    rintro e u' w'' ⟨rfl, rfl, rfl⟩
    refine ⟨_, results_row_cell rfl _ _ (w.heap.size + 1) 80 #[.string ⟨M.toArray⟩] (0, 0) _ ⟨w.heap.size + 2, 0, none⟩ (.bool (x == 112)) rfl (by simp [World.setCell, Array.getElem?_modify, s2]) Tryd.underlying80 rfl (by kernel_rfl) rfl (loadBool (World.cell?_setCell_same _ _ _ (by rw [World.cell?_setCell_other _ _ _ _ (by simp)]; exact k3))), rfl, ?_⟩
    exact (((hb6.drewN 1).trans (hb7.mono hb6.size)).setCell (by show w.heap.size ≤ w.heap.size + 1; omega) _).setCell (by show w.heap.size ≤ w.heap.size + 1 + 1; omega) _
end Go.Proofs.YthfgnhgijgjggaaDoor
