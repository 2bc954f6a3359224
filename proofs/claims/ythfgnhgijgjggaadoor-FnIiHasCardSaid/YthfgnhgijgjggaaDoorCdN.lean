/- Contracts: (cid.Cid).Prefix, impl.cidOut. -/
import Derived.Test.YthfgnhgijgjggaaDoorCdM
import Derived.StillTailTactics
namespace Go.Proofs.YthfgnhgijgjggaaDoor
open Go.RowKit

set_option maxRecDepth 100000 in
set_option maxHeartbeats 4000000 in
theorem cdPrefix_v0 (s : ByteArray) (x : CidD) (h : CidStr s x) (hz : x.ver = 0) (w : World) :
    Calls Tryd.prog 44 #[.agg #[.string s]] w fun e w' => e = .returned (.agg #[.int .u64 0, .int .u64 112, .int .u64 18, .int .i64 32]) ∧ Below w.heap.size w w' := by
  have hA : Below w.heap.size w ((w.alloc (.cells #[.string s] 80)).alloc (.cells #[.int .u64 0, .int .u64 0, .int .u64 0, .int .i64 0] 91)) := ((Below.refl _ _).alloc (Nat.le_refl _) _).alloc (by simp) _
  obtain ⟨h34, hcz, _⟩ := h.v0 hz
  have HV := fun W => Lib.hid (cdVer0 s W h34 hcz)
  have HR1 := Lib.hid (heap_alloc2_new w (.cells #[.string s] 80) (.cells #[.int .u64 0, .int .u64 0, .int .u64 0, .int .i64 0] 91))
  clear h34 hcz h hz
  go_enter Tryd.func44, Tryd.ntmps44
  go_wp2_with fail
  refine (HV _).out.mono ?_
  rintro e w1 ⟨rfl, hb1⟩
  have hb := below_next hA hb1
  have hr := row_below hb1 (block_of_row HR1.out) HR1.out
  have c0 := cell_of_row' (cur := [_, _, _, _]) hr 0
  have c1 := cell_of_row' (cur := [_, _, _, _]) hr 1
  have c2 := cell_of_row' (cur := [_, _, _, _]) hr 2
  have c3 := cell_of_row' (cur := [_, _, _, _]) hr 3
  have f0 := frozen_of_row' (cur := [_, _, _, _]) hr 0
  have f1 := frozen_of_row' (cur := [_, _, _, _]) hr 1
  have f2 := frozen_of_row' (cur := [_, _, _, _]) hr 2
  have f3 := frozen_of_row' (cur := [_, _, _, _]) hr 3
  have HR := Lib.hid hr
  clear hr hA HV HR1
  go_wp2
  refine bodyPost_ret (results_cell_row rfl _ _ (w.heap.size + 1) 91 #[.int .u64 0, .int .u64 112, .int .u64 18, .int .i64 32] (0, 0) _ rfl (by simp [World.setCell, Array.getElem?_modify, HR.out]) Tryd.underlying91 rfl (by kernel_rfl)) rfl ?_
  exact ⟨rfl, (((hb.setCell (by show w.heap.size ≤ w.heap.size + 1; omega) _).setCell (by show w.heap.size ≤ w.heap.size + 1; omega) _).setCell (by show w.heap.size ≤ w.heap.size + 1; omega) _).setCell (by show w.heap.size ≤ w.heap.size + 1; omega) _⟩

set_option maxRecDepth 100000 in
set_option maxHeartbeats 4000000 in
theorem cdPrefix_v1 (s : ByteArray) (x : CidD) (h : CidStr s x) (hz : x.ver ≠ 0) (w : World) :
    Calls Tryd.prog 44 #[.agg #[.string s]] w fun e w' => e = .returned (.agg #[.int .u64 1, .int .u64 x.codec, .int .u64 x.code, .int .i64 x.dig.length]) ∧ Below w.heap.size w w' := by
  have hA : Below w.heap.size w ((w.alloc (.cells #[.string s] 80)).alloc (.cells #[.int .u64 0, .int .u64 0, .int .u64 0, .int .i64 0] 91)) := ((Below.refl _ _).alloc (Nat.le_refl _) _).alloc (by simp) _
  obtain ⟨hcz, e1, _, h63, h63'⟩ := h.v1 hz
  have HV := fun W => Lib.hid (cdVer1 s W (fun hh => hcz hh.2))
  have HR0 := Lib.hid (heap_alloc2_old w (.cells #[.string s] 80) (.cells #[.int .u64 0, .int .u64 0, .int .u64 0, .int .i64 0] 91))
  have HR1 := Lib.hid (heap_alloc2_new w (.cells #[.string s] 80) (.cells #[.int .u64 0, .int .u64 0, .int .u64 0, .int .i64 0] 91))
  have hfit := h.fits
  obtain ⟨z2, zM⟩ := h.size
  obtain ⟨m, hm⟩ : ∃ m, m = (Lib.uvarint x.codec).length := ⟨_, rfl⟩
  obtain ⟨k, hk⟩ : ∃ k, k = (Lib.uvarint x.code).length := ⟨_, rfl⟩
  have lm := Lib.uvarint_length64 (x := x.codec) (by omega)
  have lk := Lib.uvarint_length64 (x := x.code) (by omega)
  rw [← hm] at lm
  rw [← hk] at lk
  have hsz : s.size = 1 + (m + (k + ((Lib.uvarint x.dig.length).length + x.dig.length))) := by
    rw [← ba_len, e1]; unfold mhEnc; simp only [List.length_cons, List.length_append]; omega
  have D0 : uvDec (s.data.toList.drop 0) = .ok 1 1 := by rw [e1]; exact uvDec_one _
  have D1 : uvDec (s.data.toList.drop 1) = .ok x.codec m := by rw [e1, hm]; exact uvDec_back _ h63 _
  have E2 : s.data.toList.drop (1 + m) = Lib.uvarint x.code ++ (Lib.uvarint x.dig.length ++ x.dig) := by rw [e1, ← List.drop_drop, hm]; show (Lib.uvarint x.codec ++ mhEnc x.code x.dig).drop _ = _; rw [List.drop_left]; rfl
  have D2 : uvDec (s.data.toList.drop (1 + m)) = .ok x.code k := by rw [E2, hk]; exact uvDec_back _ h63' _
  have D3 : uvDec (s.data.toList.drop (1 + m + k)) = .ok x.dig.length (Lib.uvarint x.dig.length).length := by rw [← List.drop_drop, E2, hk, List.drop_left]; exact uvDec_back _ (by omega) _
  have T0 := fun W => run_str_from (P := Tryd.prog) Tryd.underlying9 s 0 (by omega) 0 rfl W
  have T1 := fun W => run_str_from (P := Tryd.prog) Tryd.underlying9 s 1 (by omega) 1 rfl W
  have T2 := fun W => run_str_from (P := Tryd.prog) Tryd.underlying9 s (1 + m) (by omega) (1 + (m : Int)) (by omega) W
  have T3 := fun W => run_str_from (P := Tryd.prog) Tryd.underlying9 s (1 + m + k) (by omega) (1 + (m : Int) + k) (by omega) W
  have U : ∀ j y q, uvDec (s.data.toList.drop j) = .ok y q → ∀ W, Hid (Calls Tryd.prog 80 #[.string ⟨(s.data.toList.drop j).toArray⟩] W fun e w' => e = .returned (.tuple #[.int .u64 y, .int .i64 q, .nilIface]) ∧ Below W.heap.size W w') := fun j y q hd W =>
    Lib.hid (cdUv_ok ⟨(s.data.toList.drop j).toArray⟩ W y q hd (by show (s.data.toList.drop j).toArray.size ≤ _; rw [List.size_toArray, List.length_drop, ba_len]; omega))
  have U0 := U 0 _ _ D0
  have U1 := U 1 _ _ D1
  have U2 := U (1 + m) _ _ D2
  have U3 := U (1 + m + k) _ _ D3
  have hw : wrap64 (x.dig.length : Int) = (x.dig.length : Int) := by unfold wrap64; omega
  rw [show ((1 : Nat) : Int) = 1 from rfl] at U0
  clear U D0 D1 D2 D3 E2 e1 hcz h hz hsz hm hk z2 zM h63 h63'
  generalize (Lib.uvarint x.dig.length).length = q at *
  generalize (⟨(s.data.toList.drop 0).toArray⟩ : ByteArray) = S0 at *
  generalize (⟨(s.data.toList.drop 1).toArray⟩ : ByteArray) = S1 at *
  generalize (⟨(s.data.toList.drop (1 + m)).toArray⟩ : ByteArray) = S2 at *
  generalize (⟨(s.data.toList.drop (1 + m + k)).toArray⟩ : ByteArray) = S3 at *
  generalize x.codec = cdc at *
  generalize x.code = code at *
  generalize x.dig.length = dl at *
  go_enter Tryd.func44, Tryd.ntmps44
  go_wp2_with fail
  refine (HV _).out.mono ?_
  rintro e w1 ⟨rfl, hb1⟩
  have hb := below_next hA hb1
  have r0 := row_below hb1 (block_of_row HR0.out) HR0.out
  have r1 := row_below hb1 (block_of_row HR1.out) HR1.out
  have c0 := cell_of_row' (cur := [_]) r0 0
  have HR := Lib.hid r1
  have HRR := Lib.hid r0
  clear r0 r1 hA HV HR0 HR1 hb1
  go_wp2_with fail
  refine (U0 _).out.mono ?_
  rintro e w2 ⟨rfl, hb2⟩
  have q0 := row_below hb2 (block_of_row HRR.out) HRR.out
  have c0 := cell_of_row' (cur := [_]) q0 0
  have Q0 := Lib.hid q0
  clear q0
  go_wp2_with fail
  refine (U1 _).out.mono ?_
  rintro e w3 ⟨rfl, hb3⟩
  have q0 := row_below hb3 (block_of_row Q0.out) Q0.out
  have c0 := cell_of_row' (cur := [_]) q0 0
  have Q1 := Lib.hid q0
  clear q0
  go_wp2_with fail
  refine (U2 _).out.mono ?_
  rintro e w4 ⟨rfl, hb4⟩
  have q0 := row_below hb4 (block_of_row Q1.out) Q1.out
  have c0 := cell_of_row' (cur := [_]) q0 0
  clear q0
  go_wp2_with fail
  refine (U3 _).out.mono ?_
  rintro e w5 ⟨rfl, hb5⟩
  have hb25 := below_next (below_next (below_next hb2 hb3) hb4) hb5
  have hb' := below_next hb hb25
  have hr := row_below hb25 (block_of_row HR.out) HR.out
  have d0 := cell_of_row' (cur := [_, _, _, _]) hr 0
  have d1 := cell_of_row' (cur := [_, _, _, _]) hr 1
  have d2 := cell_of_row' (cur := [_, _, _, _]) hr 2
  have d3 := cell_of_row' (cur := [_, _, _, _]) hr 3
  have f0 := frozen_of_row' (cur := [_, _, _, _]) hr 0
  have f1 := frozen_of_row' (cur := [_, _, _, _]) hr 1
  have f2 := frozen_of_row' (cur := [_, _, _, _]) hr 2
  have f3 := frozen_of_row' (cur := [_, _, _, _]) hr 3
  have HR5 := Lib.hid hr
  clear hr hb25 hb2 hb3 hb4 hb5 Q0 Q1 HR HRR U0 U1 U2 U3
  go_wp2
  refine bodyPost_ret (results_cell_row rfl _ _ (w.heap.size + 1) 91 #[.int .u64 1, .int .u64 cdc, .int .u64 code, .int .i64 dl] (0, 0) _ rfl (by simp [World.setCell, Array.getElem?_modify, HR5.out]) Tryd.underlying91 rfl (by kernel_rfl)) rfl ?_
  exact ⟨rfl, (((hb'.setCell (by show w.heap.size ≤ w.heap.size + 1; omega) _).setCell (by show w.heap.size ≤ w.heap.size + 1; omega) _).setCell (by show w.heap.size ≤ w.heap.size + 1; omega) _).setCell (by show w.heap.size ≤ w.heap.size + 1; omega) _⟩

theorem cdPrefix (s : ByteArray) (x : CidD) (h : CidStr s x) (w : World) :
    Calls Tryd.prog 44 #[.agg #[.string s]] w fun e w' => e = .returned (.agg #[.int .u64 x.ver, .int .u64 x.codec, .int .u64 x.code, .int .i64 x.dig.length]) ∧ Below w.heap.size w w' := by
  by_cases hz : x.ver = 0
  · obtain ⟨_, _, _, hx, hl⟩ := h.v0 hz
    have := cdPrefix_v0 s x h hz w
    rw [hl, hx]
    exact this
  · obtain ⟨_, _, hv, _⟩ := h.v1 hz
    have := cdPrefix_v1 s x h hz w
    rw [hv]
    exact this
end Go.Proofs.YthfgnhgijgjggaaDoor
