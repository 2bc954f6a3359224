/- Contracts, joined (SvG SvH Vars Undef Sents). -/
import Derived.Test.YthfgnhgijgjggaaDoorJSb5
import Derived.Test.YthfgnhgijgjggaaDoorJSb11
import Derived.Test.YthfgnhgijgjggaaDoorJSb12
import Derived.Test.YthfgnhgijgjggaaDoorProg
import Derived.Stop.LaidErr
import Derived.KernelRfl
import Derived.WideShapes
import Derived.ChangeMaps
/- FnSeBoth's walk: four ways. -/
namespace Go.Proofs.YthfgnhgijgjggaaDoor
open Go.RowKit

set_option maxRecDepth 100000 in
set_option maxHeartbeats 4000000 in
theorem sbLaw_left (s : ByteArray) (z : Bool) (w : World) (h2 : s.size ≤ 16384)
    (hB : Calls Tryd.prog 33 #[.string s, .bool z, .int .u64 1048576] w fun e w' => RbSays true e ∧ Below w.heap.size w w') :
    Calls Tryd.prog 9 #[.string s, .bool z] w fun e w' => e = .returned (.bool true) ∧ Below w.heap.size w w' := by
  have HB := Lib.hid hB
  have t1 : ((2147483647 : Int) < s.size) = False := by simp; omega
  have t2 : ((16384 : Int) < s.size) = False := by simp; omega
  clear hB h2
  go_enter Tryd.func9, Tryd.ntmps9
  go_wp2_with fail
  refine HB.out.mono ?_
  rintro e w1 ⟨⟨a0, a1, a2, n, k, s3, s4, b, rfl⟩, hb1⟩
  have hr := heap_alloc_new (w1.alloc (.cells #[.int .u64 a0, .int .u64 a1, .int .u64 a2, .string s3, .string s4] 60)) (.cells #[.string b, .int .i64 n, .int .u8 k, .bool true] 62)
  rw [World.size_alloc] at hr
  have j3 := cell_of_row' (cur := [_, _, _, _]) hr 3
  have HF := Lib.hid ((hb1.alloc hb1.size (.cells #[.int .u64 a0, .int .u64 a1, .int .u64 a2, .string s3, .string s4] 60)).alloc (by have := hb1.size; simp; omega) (.cells #[.string b, .int .i64 n, .int .u8 k, .bool true] 62))
  clear hr HB hb1
  go_wp2
  go_ret
  exact ⟨rfl, HF.out⟩

set_option maxRecDepth 100000 in
set_option maxHeartbeats 4000000 in
theorem sbLaw_fail (s : ByteArray) (z : Bool) (w : World) (h2 : s.size ≤ 16384)
    (hB : Calls Tryd.prog 33 #[.string s, .bool z, .int .u64 1048576] w fun e w' => RbSays false e ∧ Below w.heap.size w w')
    (hS : ∀ W, Below w.heap.size w W → Calls Tryd.prog 34 #[.string s, .bool z, .int .u64 1048576] W fun e w' => SrBad 2 e ∧ Below W.heap.size W w')
    (hO : ∀ W, Below w.heap.size w W → Calls Tryd.prog 26 #[] W fun e w' => e = .returned (.bool true) ∧ Below W.heap.size W w') :
    Calls Tryd.prog 9 #[.string s, .bool z] w fun e w' => e = .returned (.bool true) ∧ Below w.heap.size w w' := by
  have HB := Lib.hid hB
  have HS := Lib.hid hS
  have HO := Lib.hid hO
  have t1 : ((2147483647 : Int) < s.size) = False := by simp; omega
  have t2 : ((16384 : Int) < s.size) = False := by simp; omega
  clear hB h2 hS hO
  go_enter Tryd.func9, Tryd.ntmps9
  go_wp2_with fail
  refine HB.out.mono ?_
  rintro e w1 ⟨⟨a0, a1, a2, n, k, s3, s4, b, rfl⟩, hb1⟩
  have hr := heap_alloc_new (w1.alloc (.cells #[.int .u64 a0, .int .u64 a1, .int .u64 a2, .string s3, .string s4] 60)) (.cells #[.string b, .int .i64 n, .int .u8 k, .bool false] 62)
  rw [World.size_alloc] at hr
  have j3 := cell_of_row' (cur := [_, _, _, _]) hr 3
  have hF := (hb1.alloc hb1.size (.cells #[.int .u64 a0, .int .u64 a1, .int .u64 a2, .string s3, .string s4] 60)).alloc (by have := hb1.size; simp; omega) (.cells #[.string b, .int .i64 n, .int .u8 k, .bool false] 62)
  have HC := Lib.hid (HS.out _ hF)
  have HF := Lib.hid hF
  clear hr HB hb1 HS hF
  go_wp2_with fail
  refine HC.out.mono ?_
  rintro e w2 ⟨⟨m, rfl⟩, hb2⟩
  have hb3 := below_next HF.out hb2
  have hF2 := hb3.alloc hb3.size (.cells #[.int .u64 0, .int .u64 0, .int .u64 0, .string ⟨#[]⟩, .string ⟨#[]⟩] 60)
  have HO2 := Lib.hid (HO.out _ hF2)
  have HF2 := Lib.hid hF2
  clear j3 HC HF HO hb2 hb3 hF2
  go_wp2_with fail
  refine HO2.out.mono ?_
  rintro e w3 ⟨rfl, hb4⟩
  have hb5 := below_next HF2.out hb4
  clear HO2 hb4
  go_wp2
  go_ret
  exact ⟨rfl, hb5⟩

set_option maxRecDepth 100000 in
set_option maxHeartbeats 4000000 in
theorem sbLaw_end (s : ByteArray) (z : Bool) (w : World) (h2 : s.size ≤ 16384)
    (hB : Calls Tryd.prog 33 #[.string s, .bool z, .int .u64 1048576] w fun e w' => RbSays false e ∧ Below w.heap.size w w')
    (hS : ∀ W, Below w.heap.size w W → Calls Tryd.prog 34 #[.string s, .bool z, .int .u64 1048576] W fun e w' => SrBad 1 e ∧ Below W.heap.size W w')
    (hH : ∀ W, Below w.heap.size w W → Calls Tryd.prog 32 #[.string s, .bool z, .int .u64 1048576] W fun e w' => (∃ n : Int, e = .returned (.tuple #[noCid, .int .u64 0, .int .i64 n, .int .u8 1])) ∧ Below W.heap.size W w')
    (hO : ∀ W, Below w.heap.size w W → Calls Tryd.prog 26 #[] W fun e w' => e = .returned (.bool true) ∧ Below W.heap.size W w') :
    Calls Tryd.prog 9 #[.string s, .bool z] w fun e w' => e = .returned (.bool true) ∧ Below w.heap.size w w' := by
  have HB := Lib.hid hB
  have HS := Lib.hid hS
  have HH := Lib.hid hH
  have HO := Lib.hid hO
  have t1 : ((2147483647 : Int) < s.size) = False := by simp; omega
  have t2 : ((16384 : Int) < s.size) = False := by simp; omega
  clear hB h2 hS hO hH
  go_enter Tryd.func9, Tryd.ntmps9
  go_wp2_with fail
  refine HB.out.mono ?_
  rintro e w1 ⟨⟨a0, a1, a2, n, k, s3, s4, b, rfl⟩, hb1⟩
  have hr := heap_alloc_new (w1.alloc (.cells #[.int .u64 a0, .int .u64 a1, .int .u64 a2, .string s3, .string s4] 60)) (.cells #[.string b, .int .i64 n, .int .u8 k, .bool false] 62)
  rw [World.size_alloc] at hr
  have j3 := cell_of_row' (cur := [_, _, _, _]) hr 3
  have hF := (hb1.alloc hb1.size (.cells #[.int .u64 a0, .int .u64 a1, .int .u64 a2, .string s3, .string s4] 60)).alloc (by have := hb1.size; simp; omega) (.cells #[.string b, .int .i64 n, .int .u8 k, .bool false] 62)
  have HC := Lib.hid (HS.out _ hF)
  have HF := Lib.hid hF
  clear hr HB hb1 HS hF
  go_wp2_with fail
  refine HC.out.mono ?_
  rintro e w2 ⟨⟨m, rfl⟩, hb2⟩
  have hb3 := below_next HF.out hb2
  have hF2 := hb3.alloc hb3.size (.cells #[.int .u64 0, .int .u64 0, .int .u64 0, .string ⟨#[]⟩, .string ⟨#[]⟩] 60)
  have HC2 := Lib.hid (HH.out _ hF2)
  have HF2 := Lib.hid hF2
  clear j3 HC HF hb2 hb3 hF2 HH
  go_wp2_with fail
  refine HC2.out.mono ?_
  rintro e w3 ⟨⟨m3, rfl⟩, hb4⟩
  have hb5 := below_next HF2.out hb4
  have hF3 := hb5.alloc hb5.size (.cells #[.int .u64 0, .int .u64 0, .int .u64 0, .string ⟨#[]⟩] 26)
  have HO2 := Lib.hid (HO.out _ hF3)
  have HF3 := Lib.hid hF3
  clear HC2 HF2 hb4 hb5 hF3 HO
  go_wp2_with fail
  refine HO2.out.mono ?_
  rintro e w4 ⟨rfl, hb6⟩
  have hb7 := below_next HF3.out hb6
  clear HO2 hb6
  go_wp2
  go_ret
  exact ⟨rfl, hb7⟩

set_option maxRecDepth 100000 in
set_option maxHeartbeats 4000000 in
theorem sbLaw_ok (v0 v1 v2 M J : Int) (v3 D : ByteArray) (s : ByteArray) (z : Bool) (w : World) (h2 : s.size ≤ 16384) (hD : D.size ≤ 16384) (hM : 0 ≤ M) (hM2 : M ≤ 16384) (hJ : M + D.size = J)
    (heq : ∀ W, (binOp .eql 26 (.agg #[.int .u64 v0, .int .u64 v1, .int .u64 v2, .string v3]) (.agg #[.int .u64 v0, .int .u64 v1, .int .u64 v2, .string v3])).run Tryd.prog W = .ok (.bool true) W)
    (hB : Calls Tryd.prog 33 #[.string s, .bool z, .int .u64 1048576] w fun e w' => RbSays false e ∧ Below w.heap.size w w')
    (hS : ∀ W, Below w.heap.size w W → Calls Tryd.prog 34 #[.string s, .bool z, .int .u64 1048576] W fun e w' => e = .returned (.tuple #[.agg #[.int .u64 v0, .int .u64 v1, .int .u64 v2, .string v3, .string D], .int .i64 J, .int .u8 0]) ∧ Below W.heap.size W w')
    (hH : ∀ W, Below w.heap.size w W → Calls Tryd.prog 32 #[.string s, .bool z, .int .u64 1048576] W fun e w' => e = .returned (.tuple #[.agg #[.int .u64 v0, .int .u64 v1, .int .u64 v2, .string v3], .int .u64 (D.size : Int), .int .i64 M, .int .u8 0]) ∧ Below W.heap.size W w')
    (hO : ∀ W, Below w.heap.size w W → Calls Tryd.prog 26 #[] W fun e w' => e = .returned (.bool true) ∧ Below W.heap.size W w') :
    Calls Tryd.prog 9 #[.string s, .bool z] w fun e w' => e = .returned (.bool true) ∧ Below w.heap.size w w' := by
  subst hJ
  have HB := Lib.hid hB
  have HS := Lib.hid hS
  have HH := Lib.hid hH
  have HO := Lib.hid hO
  have t1 : ((2147483647 : Int) < s.size) = False := by simp; omega
  have t2 : ((16384 : Int) < s.size) = False := by simp; omega
  clear hB h2 hS hO hH
  go_enter Tryd.func9, Tryd.ntmps9
  go_wp2_with fail
  refine HB.out.mono ?_
  rintro e w1 ⟨⟨a0, a1, a2, n, k, s3, s4, b, rfl⟩, hb1⟩
  have hr := heap_alloc_new (w1.alloc (.cells #[.int .u64 a0, .int .u64 a1, .int .u64 a2, .string s3, .string s4] 60)) (.cells #[.string b, .int .i64 n, .int .u8 k, .bool false] 62)
  rw [World.size_alloc] at hr
  have j3 := cell_of_row' (cur := [_, _, _, _]) hr 3
  have hF := (hb1.alloc hb1.size (.cells #[.int .u64 a0, .int .u64 a1, .int .u64 a2, .string s3, .string s4] 60)).alloc (by have := hb1.size; simp; omega) (.cells #[.string b, .int .i64 n, .int .u8 k, .bool false] 62)
  have HC := Lib.hid (HS.out _ hF)
  have HF := Lib.hid hF
  clear hr HB hb1 HS hF
  go_wp2_with fail
  refine HC.out.mono ?_
  rintro e w2 ⟨rfl, hb2⟩
  have hb3 := below_next HF.out hb2
  have hF2 := hb3.alloc hb3.size (.cells #[.int .u64 v0, .int .u64 v1, .int .u64 v2, .string v3, .string D] 60)
  have hr2 := heap_alloc_new w2 (.cells #[.int .u64 v0, .int .u64 v1, .int .u64 v2, .string v3, .string D] 60)
  have HC2 := Lib.hid (HH.out _ hF2)
  have HF2 := Lib.hid hF2
  have HR2 := Lib.hid hr2
  clear j3 HC HF hb2 hb3 hF2 HH hr2
  go_wp2_with fail
  refine HC2.out.mono ?_
  rintro e w3 ⟨rfl, hb4⟩
  have hb5 := below_next HF2.out hb4
  have hF3 := hb5.alloc hb5.size (.cells #[.int .u64 v0, .int .u64 v1, .int .u64 v2, .string v3] 26)
  have hr3 := row_alloc (row_below hb4 (block_of_row HR2.out) HR2.out) (.cells #[.int .u64 v0, .int .u64 v1, .int .u64 v2, .string v3] 26)
  have hr4 := heap_alloc_new w3 (.cells #[.int .u64 v0, .int .u64 v1, .int .u64 v2, .string v3] 26)
  have HO2 := Lib.hid (HO.out _ hF3)
  have HF3 := Lib.hid hF3
  obtain ⟨⟨k0, k1, k2, k3, k4⟩, _⟩ := (Var5.mk hr3).cells
  obtain ⟨⟨l0, l1, l2, l3⟩, _⟩ := (Var4.mk hr4).cells
  have wr : IntKind.u64.wrap (D.size : Int) = D.size := IntWalk.u64_in _ (by omega)
  clear HC2 HF2 hb4 hb5 hF3 HO hr3 hr4 HR2
  go_wp2_with fail
  refine HO2.out.mono ?_
  rintro e w4 ⟨rfl, hb6⟩
  have hb7 := below_next HF3.out hb6
  clear HO2 hb6
  go_wp2
  go_ret
  exact ⟨rfl, hb7⟩
end Go.Proofs.YthfgnhgijgjggaaDoor
/- FnSeBoth's walk: all cases. -/
namespace Go.Proofs.YthfgnhgijgjggaaDoor
open Go.RowKit

theorem law_SeBoth_in (s : ByteArray) (z : Bool) (w : World) (hcd : CdS w) (e0 e1 e2 e3 e4 : Addr) (he : SeErrs w.heap.size w e0 e1 e2 e3) (he4 : ErrAt w.heap.size w 6 e4) (hn4 : e4 ≠ e0) (h2 : s.size ≤ 16384) :
    Calls Tryd.prog 9 #[.string s, .bool z] w fun e w' => e = .returned (.bool true) ∧ Below w.heap.size w w' := by
  have h3 : (1048576 : Nat) ≤ 33554432 := by omega
  have hO : ∀ W, Below w.heap.size w W → Calls Tryd.prog 26 #[] W fun e w' => e = .returned (.bool true) ∧ Below W.heap.size W w' := fun W h =>
    ldOne_any W e0 e1 _ _ _ _ ((he.uv.keep (S := fun _ => False) h.keep (fun _ h => h.elim)).mono h.size)
  have hE : ∀ (W w2 : World) (p : Nat), Below w.heap.size w W → W.heap.size < p → Below W.heap.size W w2 → SeErrs p w2 e0 e1 e2 e3 ∧ ErrAt p w2 6 e4 ∧ ∀ W', Keep (fun k => p ≤ k) w2 W' → CdS W' := by
    intro W w2 p hW hp h2
    have hb := hW.trans (h2.mono hW.size)
    have hs := hW.size
    refine ⟨(he.keep (S := fun _ => False) hb.keep (fun _ h => h.elim)).mono (by omega), (he4.keep (S := fun _ => False) hb.keep (fun _ h => h.elim)).mono (by omega), fun W' hk => ?_⟩
    exact hcd.below (hb.trans (hk.below (fun k hk h => by omega) hb.size))
  have hE1 : ∀ (w2 : World) (p : Nat) (e : SeErrs p w2 e0 e1 e2 e3), SeErrs p (w2.alloc cidZ) e0 e1 e2 e3 := fun w2 p e => e.keep (S := fun _ => False) ((Below.refl _ w2).alloc (Nat.le_refl _) _).keep (fun _ h => h.elim)
  have hE4 : ∀ (w2 : World) (p : Nat) (e : ErrAt p w2 6 e4), ErrAt p (w2.alloc cidZ) 6 e4 := fun w2 p e => e.keep (S := fun _ => False) ((Below.refl _ w2).alloc (Nat.le_refl _) _).keep (fun _ h => h.elim)
  have hR1 : ∀ (w2 : World) (p : Nat) (v : Value) (l : List UInt8) (i : Nat), Rdr w2 p v l i → Rdr (w2.alloc cidZ) p v l i := fun w2 p v l i e => e.keep (S := fun _ => False) ((Below.refl _ w2).alloc (Nat.le_refl _) _).keep (fun _ h => h.elim)
  have hpw : ∀ (w2 : World) (p : Nat) (v : Value) (l : List UInt8) (i : Nat), Rdr w2 p v l i → p < w2.heap.size := fun w2 p v l i e => by obtain ⟨r, h⟩ := e.row; exact block_of_row h
  have hsl : s.data.toList.length = s.size := ba_len s
  by_cases h0 : s.size = 0
  · have hnil : s.data.toList = [] := List.eq_nil_of_length_eq_zero (by rw [hsl]; exact h0)
    refine sbLaw_end s z w h2 (rb_bad s w z 1048576 _ _ 1 (by omega) (rl_empty s _ z 1048576 h0)) (fun W hW => seRead_bad 1 s (by omega) z 1048576 W fun p v w2 hr hp hb => ?_) (fun W hW => seHead_bad 1 s (by omega) z 1048576 W fun p v w2 hr hp hb => ?_) hO
    · obtain ⟨q1, q2, q3⟩ := hE W w2 p hW hp hb
      refine readNode_err 1 p v w2 z 1048576 _ (hpw _ _ _ _ _ hr) (ldRead_err 1 p v _ z 1048576 _ ((ldSize_empty p v _ 0 _ (hR1 _ _ _ _ _ hr) e0 e1 e2 e3 (hE1 _ _ q1) (by rw [hnil]; rfl) z 1048576).mono fun e w' ⟨a1, a2, a3⟩ => ?_))
      exact ⟨_, a1, errK_end (hE1 _ _ q1) (a3.mono fun k _ h => by omega), a2, a3⟩
    · obtain ⟨q1, q2, q3⟩ := hE W w2 p hW hp hb
      refine node_err 1 p v w2 z 1048576 h3 _ (hpw _ _ _ _ _ hr) ((ldSize_empty p v _ 0 _ (hR1 _ _ _ _ _ hr) e0 e1 e2 e3 (hE1 _ _ q1) (by rw [hnil]; rfl) z 1048576).mono fun e w' ⟨a1, a2, a3⟩ => ?_)
      exact ⟨_, a1, errK_end (hE1 _ _ q1) (a3.mono fun k _ h => by omega), a2, a3⟩
  · have h0' : 0 < s.size := by omega
    rcases uvR_cases (uvDec s.data.toList) with ⟨x, m, hd⟩ | hno
    · have hml := (uvDec_ok hd).2.1
      rw [hsl] at hml
      by_cases hbig : 1048576 < x
      · refine sbLaw_fail s z w h2 (rb_bad s w z 1048576 _ _ 2 (by omega) (rl_big s _ (by omega) z 1048576 h0' x m hd hbig)) (fun W hW => seRead_bad 2 s (by omega) z 1048576 W fun p v w2 hr hp hb => ?_) hO
        obtain ⟨q1, q2, q3⟩ := hE W w2 p hW hp hb
        refine readNode_err 2 p v w2 z 1048576 _ (hpw _ _ _ _ _ hr) (ldRead_err 2 p v _ z 1048576 _ ((ldSize_big p v _ 0 _ (hR1 _ _ _ _ _ hr) e0 e1 e2 e3 e4 (hE1 _ _ q1) (hE4 _ _ q2) hn4 x m hd z 1048576 hbig).mono fun e w' ⟨E, a1, a2, a3, a4⟩ => ?_))
        exact ⟨E, a1, errK_other (hE1 _ _ q1) (a4.mono fun k _ h => by omega) a2, a3, a4⟩
      · by_cases hz : z = true ∧ x = 0
        · obtain ⟨rfl, rfl⟩ := hz
          refine sbLaw_end s true w h2 (rb_bad s w true 1048576 _ _ 1 (by omega) (rl_end s _ (by omega) true 1048576 h0' 0 m hd rfl rfl)) (fun W hW => seRead_bad 1 s (by omega) true 1048576 W fun p v w2 hr hp hb => ?_) (fun W hW => seHead_bad 1 s (by omega) true 1048576 W fun p v w2 hr hp hb => ?_) hO
          · obtain ⟨q1, q2, q3⟩ := hE W w2 p hW hp hb
            refine readNode_err 1 p v w2 true 1048576 _ (hpw _ _ _ _ _ hr) ((ldRead_end p v _ 0 _ (hR1 _ _ _ _ _ hr) e0 e1 _ _ _ _ (hE1 _ _ q1).uv m hd 1048576).mono fun e w' ⟨a1, a2, a3⟩ => ?_)
            exact ⟨_, a1, errK_end (hE1 _ _ q1) (a3.mono fun k _ h => by omega), ⟨_, a2⟩, a3⟩
          · obtain ⟨q1, q2, q3⟩ := hE W w2 p hW hp hb
            refine node_err 1 p v w2 true 1048576 h3 _ (hpw _ _ _ _ _ hr) ((ldSize_end p v _ 0 _ (hR1 _ _ _ _ _ hr) e0 e1 _ _ _ _ (hE1 _ _ q1).uv m hd 1048576).mono fun e w' ⟨a1, a2, a3⟩ => ?_)
            exact ⟨_, a1, errK_end (hE1 _ _ q1) (a3.mono fun k _ h => by omega), ⟨_, a2⟩, a3⟩
        · have hz' : z = true → x ≠ 0 := fun h1 h2 => hz ⟨h1, h2⟩
          by_cases hleft : 0 < x ∧ m = s.size
          · exact sbLaw_left s z w h2 (rb_left s w z 1048576 _ _ (rl_left s _ (by omega) z 1048576 h0' x m hd (by omega) hz' hleft.1 hleft.2))
          · by_cases hsh : s.size < m + x
            · have hx0 : 0 < x := by omega
              have hm2 : m < s.size := by
                rcases Nat.lt_or_ge m s.size with h | h
                · exact h
                · exact absurd ⟨hx0, by omega⟩ hleft
              refine sbLaw_fail s z w h2 (rb_bad s w z 1048576 _ _ 2 (by omega) (rl_short s _ (by omega) z 1048576 h0' x m hd h3 (by omega) hz' hm2 hsh)) (fun W hW => seRead_bad 2 s (by omega) z 1048576 W fun p v w2 hr hp hb => ?_) hO
              obtain ⟨q1, q2, q3⟩ := hE W w2 p hW hp hb
              exact readNode_err 2 p v w2 z 1048576 _ (hpw _ _ _ _ _ hr) (ldRead_short p v _ 0 _ (hR1 _ _ _ _ _ hr) e0 e1 e2 e3 (hE1 _ _ q1) x m hd z 1048576 (by omega) h3 hz' (by rw [hsl]; omega) (by rw [hsl]; omega))
            · have hin : m + x ≤ s.size := by omega
              -- the section's bytes
              have hLe : (s.data.toList.drop (0 + m)).take x = (s.data.toList.drop m).take x := by rw [Nat.zero_add]
              have hLl : ((s.data.toList.drop m).take x).length = x := by rw [List.length_take, List.length_drop, hsl]; omega
              have hbs : (⟨((s.data.toList.drop m).take x).toArray⟩ : ByteArray).size = x := by rw [← ba_len]; exact hLl
              cases hc : cidRd ((s.data.toList.drop m).take x) with
              | none =>
                have hRB : Calls Tryd.prog 33 #[.string s, .bool z, .int .u64 1048576] w fun e w' => RbSays false e ∧ Below w.heap.size w w' := by
                  by_cases hx0 : x = 0
                  · subst hx0
                    have hzf : z = false := by cases z; rfl; exact absurd rfl (hz' rfl)
                    refine rb_noCid s w z 1048576 ⟨#[]⟩ _ (by show (0 : Nat) ≤ _; omega) ?_ (rl_zero s _ (by omega) z 1048576 h0' m hd hzf (by omega))
                    rw [List.take_zero] at hc
                    exact hc
                  · exact rb_noCid s w z 1048576 _ _ (by rw [hbs]; omega) hc (rl_ok s _ (by omega) z 1048576 h0' x m hd h3 (by omega) hz' (by omega) (fun h => hleft ⟨by omega, h⟩) hin)
                refine sbLaw_fail s z w h2 hRB (fun W hW => seRead_bad 2 s (by omega) z 1048576 W fun p v w2 hr hp hb => ?_) hO
                obtain ⟨q1, q2, q3⟩ := hE W w2 p hW hp hb
                exact readNode_noCid p v _ 0 w2 hr e0 e1 e2 e3 q1 q3 x m hd z 1048576 (by omega) hz' (by rw [hsl]; omega) (by rw [hsl]; omega) _ rfl (by rw [hLe]; exact hc)
              | some ck =>
                obtain ⟨c, k⟩ := ck
                obtain ⟨t1, t2, t3, t4⟩ := cidRd_take hc
                have hk2 : 2 ≤ k := by
                  have := (cidEnc_length_le c t3 t4).1
                  rw [← t2, List.length_take] at this
                  omega
                rw [hLl] at t1
                have hx0 : 0 < x := by omega
                have hm2 : m ≠ s.size := fun h => hleft ⟨hx0, h⟩
                have hdl : c.dig.length ≤ (cidEnc c).length := by unfold cidEnc mhEnc; split <;> simp <;> omega
                have hcl : (cidEnc c).length = k := by rw [← t2, List.length_take, hLl]; omega
                have hDz : (⟨(((s.data.toList.drop m).take x).drop k).toArray⟩ : ByteArray).size = x - k := by rw [← ba_len]; show (((s.data.toList.drop m).take x).drop k).length = _; rw [List.length_drop, hLl]
                refine sbLaw_ok c.ver c.codec c.code ((m : Int) + k) ((m : Int) + x) ⟨c.dig.toArray⟩ ⟨(((s.data.toList.drop m).take x).drop k).toArray⟩ s z w h2 (by rw [hDz]; omega) (by omega) (by omega) (by rw [hDz]; omega) (fun W => eqCid_same c W)
                  (rb_cid s w z 1048576 _ _ (by rw [hbs]; omega) c k hc (rl_ok s _ (by omega) z 1048576 h0' x m hd h3 (by omega) hz' hx0 hm2 hin)) (fun W hW => ?_) (fun W hW => ?_) hO
                · have hcs : CidStr ⟨(cidEnc c).toArray⟩ c := ⟨rfl, t3, by omega⟩
                  have := seRead_ok s (by omega) z 1048576 W _ c hcs ⟨(((s.data.toList.drop m).take x).drop k).toArray⟩ (0 + m + x) (hcd.below hW) (by omega) fun p v w2 hr hp hb => by
                    obtain ⟨q1, q2, q3⟩ := hE W w2 p hW hp hb
                    exact readNode_ok p v _ 0 w2 hr e0 e1 e2 e3 q1 q3 x m hd z 1048576 (by omega) hz' (by rw [hsl]; omega) (by rw [hsl]; omega) _ (by rw [Nat.zero_add]) c k hc
                  rw [show ((0 + m + x : Nat) : Int) = (m : Int) + x by omega] at this
                  exact this
                · have hcs : CidStr ⟨(((s.data.toList.drop m).take x).take k).toArray⟩ c := ⟨t2, t3, by omega⟩
                  have := seHead_ok s (by omega) z 1048576 W _ c hcs ((x : Int) - k) (0 + m + k) (hcd.below hW) (by omega) fun p v w2 hr hp hb => by
                    obtain ⟨q1, q2, q3⟩ := hE W w2 p hW hp hb
                    exact node_ok p v _ 0 w2 hr e0 e1 e2 e3 q1 q3 x m hd z 1048576 h3 hx0 (by omega) _ (by rw [Nat.zero_add]) (by rw [hLl]; omega) c k hc
                  rw [show ((0 + m + k : Nat) : Int) = (m : Int) + k by omega, show ((x : Int) - k) = (((⟨(((s.data.toList.drop m).take x).drop k).toArray⟩ : ByteArray).size : Nat) : Int) by rw [hDz]; omega] at this
                  exact this
    · refine sbLaw_fail s z w h2 (rb_bad s w z 1048576 _ _ 2 (by omega) (rl_no s _ (by omega) z 1048576 h0' hno)) (fun W hW => seRead_bad 2 s (by omega) z 1048576 W fun p v w2 hr hp hb => ?_) hO
      obtain ⟨q1, q2, q3⟩ := hE W w2 p hW hp hb
      refine readNode_err 2 p v w2 z 1048576 _ (hpw _ _ _ _ _ hr) (ldRead_err 2 p v _ z 1048576 _ ((ldSize_no p v _ 0 _ (hR1 _ _ _ _ _ hr) e0 e1 e2 e3 (hE1 _ _ q1) (fun h => by rw [List.drop_zero] at h; rw [h] at hsl; simp at hsl; omega) hno z 1048576).mono fun e w' ⟨E, a1, a2, a3, a4⟩ => ?_))
      exact ⟨E, a1, errK_other (hE1 _ _ q1) (a4.mono fun k _ h => by omega) a2, a3, a4⟩

set_option maxRecDepth 100000 in
set_option maxHeartbeats 4000000 in
theorem law_SeBoth (s : ByteArray) (z : Bool) (w : World) (hcd : CdS w) (e0 e1 e2 e3 e4 : Addr) (he : SeErrs w.heap.size w e0 e1 e2 e3) (he4 : ErrAt w.heap.size w 6 e4) (hn4 : e4 ≠ e0) :
    Calls Tryd.prog 9 #[.string s, .bool z] w fun e w' => e = .returned (.bool true) ∧ Below w.heap.size w w' := by
  by_cases h1 : s.size ≤ 2147483647
  · by_cases h2 : s.size ≤ 16384
    · exact law_SeBoth_in s z w hcd e0 e1 e2 e3 e4 he he4 hn4 h2
    · have h4 : (16384 : Int) < (s.size : Int) := by omega
      clear h2 he he4 hcd
      go_enter Tryd.func9, Tryd.ntmps9
      go_wp2
      go_ret
      exact ⟨rfl, Below.refl _ _⟩
  · have h4 : (2147483647 : Int) < (s.size : Int) := by omega
    clear h1 he he4 hcd
    go_enter Tryd.func9, Tryd.ntmps9
    go_wp2
    go_ret
    exact ⟨rfl, Below.refl _ _⟩
end Go.Proofs.YthfgnhgijgjggaaDoor
/- What a row's list of sentinels gives the walks: each variable's cell holds a pointer. -/
namespace Go.Proofs.YthfgnhgijgjggaaDoor
open Go.RowKit Go.ChangeShapes

theorem cellsErr : Tryd.prog.cellsOf 220 = 1 := by kernel_rfl
theorem cellsStr : Tryd.prog.cellsOf 9 = 1 := by kernel_rfl
theorem starErr : "*" ++ "errors.errorString" = "*errors.errorString" := by decide
/-- The one row of that name. -/
theorem rowErr (u : TypeId) (h : Tryd.prog.typeName? 3 u = some "*errors.errorString") : u = 218 :=
  typeName_ptr_named (nm := "errors.errorString") (by rw [starErr]; kernel_rfl) (by kernel_rfl) (by decide) u (by rw [starErr]; exact h)

/-- The head of the list: the variable's cell. -/
theorem sent_cell {n : String} {text : List UInt8} {r : List (String × DataW Unit)} {W : World} {g : Nat}
    (h : laidMet Tryd.prog ((n, .iface "*errors.errorString" (.ptr (.agg [.lit (.string text)]))) :: r) W) (hg : Tryd.prog.globalNamed n = some g) (ht : (Tryd.prog.globals[g]?).map (·.type) = some 84) :
    ∃ a : Addr, W.cell? ⟨g, 0, none⟩ = some (.iface 218 (.pointer (some a))) := by
  obtain ⟨a, s, hv, _, _, _⟩ := laid_sentinel h hg ht Tryd.underlying84 rowErr Tryd.underlying218 Tryd.underlying220 rfl rfl Tryd.underlying9 cellsErr cellsStr
  exact ⟨a, by have h0 := World.var?_cell hg hv 0; simpa using h0⟩

theorem gOver : Tryd.prog.globalNamed "pub-droshky/pub/varint.ErrOverflow" = some 2 := by kernel_rfl
theorem gOverT : (Tryd.prog.globals[2]?).map (·.type) = some 84 := by kernel_rfl
theorem gUnder : Tryd.prog.globalNamed "pub-droshky/pub/varint.ErrUnderflow" = some 4 := by kernel_rfl
theorem gUnderT : (Tryd.prog.globals[4]?).map (·.type) = some 84 := by kernel_rfl
theorem gNotMin : Tryd.prog.globalNamed "pub-droshky/pub/varint.ErrNotMinimal" = some 3 := by kernel_rfl
theorem gNotMinT : (Tryd.prog.globals[3]?).map (·.type) = some 84 := by kernel_rfl
theorem gShort : Tryd.prog.globalNamed "pub-droshky/pub/multihash.ErrTooShort" = some 8 := by kernel_rfl
theorem gShortT : (Tryd.prog.globals[8]?).map (·.type) = some 84 := by kernel_rfl
end Go.Proofs.YthfgnhgijgjggaaDoor
/- What a row's list gives of package cid's Undef: its cell holds a string. -/
namespace Go.Proofs.YthfgnhgijgjggaaDoor
open Go.RowKit Go.ChangeShapes Go.WideShapes

theorem cellsCC : Tryd.prog.cellsOf 80 = 1 := by kernel_rfl
theorem undef_cell {n : String} {x : DataW Unit} {r : List (String × DataW Unit)} {W : World} {g : Nat}
    (h : laidMet Tryd.prog ((n, x) :: r) W) (hg : Tryd.prog.globalNamed n = some g) (ht : (Tryd.prog.globals[g]?).map (·.type) = some 80) :
    ∃ s : ByteArray, W.cell? ⟨g, 0, none⟩ = some (.string s) := by
  obtain ⟨ps, ⟨g0, t0, cs0, f0, p0, q0, hg0, ht0, hv0, hd0, _, e0⟩, _, hrows⟩ := h
  obtain rfl := Option.some.inj (hg.symm.trans hg0)
  obtain rfl := Option.some.inj (ht.symm.trans ht0)
  obtain ⟨xs, n, _, hx, hcl, hlen, hfs⟩ := DataW.trod_struct Tryd.underlying80 hd0
  match xs, hlen with
  | [y], _ =>
  obtain ⟨s, e1, _, _⟩ := DataW.trod_string Tryd.underlying9 (hfs 0 _ rfl)
  have hc := World.var?_cell hg0 hv0 0
  refine ⟨s, ?_⟩
  change List.take (Tryd.prog.cellsOf 9) (List.drop 0 cs0.toList) = _ at e1
  rw [cellsStr, List.drop_zero] at e1
  rw [hc]
  have h2 := congrArg (fun l => l[0]?) e1
  simpa using h2

theorem gUndef : Tryd.prog.globalNamed "pub-droshky/pub/cid.Undef" = some 1 := by kernel_rfl
theorem gUndefT : (Tryd.prog.globals[1]?).map (·.type) = some 80 := by kernel_rfl
end Go.Proofs.YthfgnhgijgjggaaDoor
/- What a row's list of sentinels gives walks that compare errors: each is an object of its own, known by its text. -/
namespace Go.Proofs.YthfgnhgijgjggaaDoor
open Go.RowKit Go.ChangeShapes

theorem laid_sentinel_row {P : Program} {n nm : String} {text : List UInt8} {r : List (String × DataW Unit)} {W : World} {g : Nat} {ti tp te ts : TypeId} {ms : Array (String × TypeId)} {f : Field}
    (h : laidMet P ((n, .iface nm (.ptr (.agg [.lit (.string text)]))) :: r) W)
    (hg : P.globalNamed n = some g) (ht : (P.globals[g]?).map (·.type) = some ti) (hi : P.underlying ti = some (.interface ms)) (hrow : ∀ u, P.typeName? 3 u = some nm → u = tp)
    (hp : P.underlying tp = some (.pointer te)) (he : P.underlying te = some (.struct #[f])) (hft : f.type = ts) (hfo : f.offset = 0) (hs : P.underlying ts = some .string) (hc : P.cellsOf te = 1) (hcs : P.cellsOf ts = 1) :
    ∃ (a : Addr) (s : ByteArray), W.var? P n = some #[.iface tp (.pointer (some a))] ∧ W.cell? a = some (.string s) ∧ s.data.toList = text ∧ ∃ c t, W.heap[a.block]? = some (.cells c t (0, 0)) := by
  obtain ⟨ps, ⟨g0, t0, cs0, f0, p0, q0, hg0, ht0, hv0, hd0, _, e0⟩, _, hrows⟩ := h
  obtain rfl := Option.some.inj (hg.symm.trans hg0)
  obtain rfl := Option.some.inj (ht.symm.trans ht0)
  subst e0
  obtain ⟨l0⟩ := cs0
  have ok0 : ∀ u v, l0 = [.iface u v] → Value.okWide P W .any 0 u v := fun u v e => by
    subst e
    exact (hrows g 0 (by simp [MemPlace.row])).2 u v (by simpa using World.var?_cell hg0 hv0 0)
  obtain ⟨a0, s0, rfl, hc0, hs0, hz0, hp0⟩ := errorString_of_trod hi hrow hp he hft hfo hs hc hcs hd0 ok0
  exact ⟨a0, s0, hv0, hc0, hs0, (hrows a0.block a0.off (by rw [hp0]; simp [MemPlace.row])).1⟩

/-- The head of the list: the variable's cell, the object, its text. -/
theorem sent_err {n : String} {text : List UInt8} {r : List (String × DataW Unit)} {W : World} {g : Nat}
    (h : laidMet Tryd.prog ((n, .iface "*errors.errorString" (.ptr (.agg [.lit (.string text)]))) :: r) W) (hg : Tryd.prog.globalNamed n = some g) (ht : (Tryd.prog.globals[g]?).map (·.type) = some 84) :
    ∃ a : Addr, ErrAt W.heap.size W g a ∧ ∃ s, W.cell? a = some (.string s) ∧ s.data.toList = text := by
  obtain ⟨a, s, hv, hc, hs, cs, t, hr⟩ := laid_sentinel_row h hg ht Tryd.underlying84 rowErr Tryd.underlying218 Tryd.underlying220 rfl rfl Tryd.underlying9 cellsErr cellsStr
  have h0 : W.cell? ⟨g, 0, none⟩ = some (errV a) := by have h0 := World.var?_cell hg hv 0; simpa using h0
  exact ⟨a, ⟨block_of_cell h0, block_of_row hr, h0, cs, t, hr⟩, s, hc, hs⟩

theorem sent_ne {W : World} {a b : Addr} {s t : ByteArray} {x y : List UInt8} (ha : W.cell? a = some (.string s)) (hb : W.cell? b = some (.string t)) (hs : s.data.toList = x) (ht : t.data.toList = y) (h : x ≠ y) : a ≠ b := by
  rintro rfl
  rw [ha] at hb
  injection hb with hb
  injection hb with hb
  subst hb
  exact h (hs.symm.trans ht)

theorem gEOF : Tryd.prog.globalNamed "io.EOF" = some 0 := by kernel_rfl
theorem gEOFT : (Tryd.prog.globals[0]?).map (·.type) = some 84 := by kernel_rfl
theorem gUnexp : Tryd.prog.globalNamed "io.ErrUnexpectedEOF" = some 5 := by kernel_rfl
theorem gUnexpT : (Tryd.prog.globals[5]?).map (·.type) = some 84 := by kernel_rfl
theorem gShortBuf : Tryd.prog.globalNamed "io.ErrShortBuffer" = some 7 := by kernel_rfl
theorem gShortBufT : (Tryd.prog.globals[7]?).map (·.type) = some 84 := by kernel_rfl
end Go.Proofs.YthfgnhgijgjggaaDoor
