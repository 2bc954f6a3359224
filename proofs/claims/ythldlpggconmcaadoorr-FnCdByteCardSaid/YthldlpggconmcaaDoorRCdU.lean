/- Contracts: laws.cdGood. FnCdSame's walk: two identifiers have the same bytes just if they are equal. -/
import Derived.Test.YthldlpggconmcaaDoorRCdT
namespace Go.Proofs.YthldlpggconmcaaDoorR
open Go.RowKit

/-- laws.cdGood. -/
def CidD.good (x : CidD) (d : ByteArray) : Prop := d.size ≤ 4096 ∧ x.tidy

set_option maxRecDepth 100000 in
set_option maxHeartbeats 1000000 in
theorem cdGood_yes (x : CidD) (d : ByteArray) (hx : x.dig = d.data.toList) (hg : x.good d) (w : World) :
    Calls Tryd.prog 23 #[.agg #[.int .u64 x.ver, .int .u64 x.codec, .int .u64 x.code, .string d]] w fun e w' => e = .returned (.bool true) ∧ Below w.heap.size w w' := by
  obtain ⟨h1, ht⟩ := hg
  have hA : Below w.heap.size w (w.alloc (cidO x.ver x.codec x.code d)) := (Below.refl _ _).alloc (Nat.le_refl _) _
  have T := fun W => Lib.hid (spTidy_yes x d hx ht W)
  have h1' : decide (d.size ≤ 4096) = true := decide_eq_true h1
  clear hx ht
  generalize (x.ver : Int) = c0 at *
  generalize (x.codec : Int) = c1 at *
  generalize (x.code : Int) = c2 at *
  go_enter Tryd.func23, Tryd.ntmps23
  go_wp2_with fail
  refine (T _).out.mono ?_
  rintro e w1 ⟨rfl, hb1⟩
  go_wp2
  go_ret
  exact ⟨rfl, below_next hA hb1⟩

set_option maxRecDepth 100000 in
set_option maxHeartbeats 1000000 in
theorem cdGood_no (x : CidD) (d : ByteArray) (hx : x.dig = d.data.toList) (hg : ¬ x.good d) (w : World) :
    Calls Tryd.prog 23 #[.agg #[.int .u64 x.ver, .int .u64 x.codec, .int .u64 x.code, .string d]] w fun e w' => e = .returned (.bool false) ∧ Below w.heap.size w w' := by
  have hA : Below w.heap.size w (w.alloc (cidO x.ver x.codec x.code d)) := (Below.refl _ _).alloc (Nat.le_refl _) _
  by_cases h1 : d.size ≤ 4096
  · have ht : ¬ x.tidy := fun ht => hg ⟨h1, ht⟩
    have T := fun W => Lib.hid (spTidy_no x d hx ht W)
    have h1' : decide (d.size ≤ 4096) = true := decide_eq_true h1
    clear hx ht hg
    generalize (x.ver : Int) = c0 at *
    generalize (x.codec : Int) = c1 at *
    generalize (x.code : Int) = c2 at *
    go_enter Tryd.func23, Tryd.ntmps23
    go_wp2_with fail
    refine (T _).out.mono ?_
    rintro e w1 ⟨rfl, hb1⟩
    go_wp2
    go_ret
    exact ⟨rfl, below_next hA hb1⟩
  · have h1' : decide (d.size ≤ 4096) = false := decide_eq_false h1
    clear hx hg
    generalize (x.ver : Int) = c0 at *
    generalize (x.codec : Int) = c1 at *
    generalize (x.code : Int) = c2 at *
    go_enter Tryd.func23, Tryd.ntmps23
    go_wp2
    go_ret
    exact ⟨rfl, hA⟩

theorem eqCid_args (x y : CidD) (d f : ByteArray) (hx : x.dig = d.data.toList) (hy : y.dig = f.data.toList) (W : World) :
    (x = y → (binOp .eql 26 (.agg #[.int .u64 x.ver, .int .u64 x.codec, .int .u64 x.code, .string d]) (.agg #[.int .u64 y.ver, .int .u64 y.codec, .int .u64 y.code, .string f])).run Tryd.prog W = .ok (.bool true) W) ∧
    (x ≠ y → (binOp .eql 26 (.agg #[.int .u64 x.ver, .int .u64 x.codec, .int .u64 x.code, .string d]) (.agg #[.int .u64 y.ver, .int .u64 y.codec, .int .u64 y.code, .string f])).run Tryd.prog W = .ok (.bool false) W) := by
  have e1 : cidVal x = .agg #[.int .u64 x.ver, .int .u64 x.codec, .int .u64 x.code, .string d] := by unfold cidVal; rw [hx, ba_mk]
  have e2 : cidVal y = .agg #[.int .u64 y.ver, .int .u64 y.codec, .int .u64 y.code, .string f] := by unfold cidVal; rw [hy, ba_mk]
  rw [← e1, ← e2]
  exact ⟨fun h => by rw [h]; exact eqCid_same y W, fun h => eqCid_other x y h W⟩

set_option maxRecDepth 100000 in
set_option maxHeartbeats 2000000 in
theorem law_CdSame_good (x y : CidD) (d f : ByteArray) (hx : x.dig = d.data.toList) (hy : y.dig = f.data.toList) (hgx : x.good d) (hgy : y.good f) (w : World) (hu : CdS w) :
    Calls Tryd.prog 6 #[.agg #[.int .u64 x.ver, .int .u64 x.codec, .int .u64 x.code, .string d], .agg #[.int .u64 y.ver, .int .u64 y.codec, .int .u64 y.code, .string f]] w fun e w' => e = .returned (.bool true) ∧ Below w.heap.size w w' := by
  have hdx := hgx.1
  have hdy := hgy.1
  have hA : Below w.heap.size w ((w.alloc (cidO x.ver x.codec x.code d)).alloc (cidO y.ver y.codec y.code f)) := ((Below.refl _ _).alloc (Nat.le_refl _) _).alloc (by simp) _
  have hI : InRow ((w.alloc (cidO x.ver x.codec x.code d)).alloc (cidO y.ver y.codec y.code f)) w.heap.size x.ver x.codec x.code d := heap_alloc2_old _ _ _
  have hJ : InRow ((w.alloc (cidO x.ver x.codec x.code d)).alloc (cidO y.ver y.codec y.code f)) (w.heap.size + 1) y.ver y.codec y.code f := heap_alloc2_new _ _ _
  have F1 := fun W => Lib.hid (fits1 x.ver x.codec x.code d (by omega) W)
  have F2 := fun W => Lib.hid (fits1 y.ver y.codec y.code f (by omega) W)
  have G1 := fun W => Lib.hid (cdGood_yes x d hx hgx W)
  have G2 := fun W => Lib.hid (cdGood_yes y f hy hgy W)
  have B1 := fun W (h : Below w.heap.size w W) => Lib.hid (cdBytesI x.ver x.codec x.code d ⟨(cidEnc x).toArray⟩ true W (fun w1 hb => cidIn_ok x hgx.2 d hx (by omega) w1 ((hu.below h).below hb).toUvS))
  have B2 := fun W (h : Below w.heap.size w W) => Lib.hid (cdBytesI y.ver y.codec y.code f ⟨(cidEnc y).toArray⟩ true W (fun w1 hb => cidIn_ok y hgy.2 f hy (by omega) w1 ((hu.below h).below hb).toUvS))
  have O := fun W (h : Below w.heap.size w W) => Lib.hid (cdOne_any W (hu.below h))
  have hE : ∃ b : Bool, ((⟨(cidEnc x).toArray⟩ : ByteArray).toList == (⟨(cidEnc y).toArray⟩ : ByteArray).toList) = b ∧ ∀ W, (binOp .eql 26 (.agg #[.int .u64 x.ver, .int .u64 x.codec, .int .u64 x.code, .string d]) (.agg #[.int .u64 y.ver, .int .u64 y.codec, .int .u64 y.code, .string f])).run Tryd.prog W = .ok (.bool b) W := by
    by_cases hxy : x = y
    · exact ⟨true, by rw [hxy]; exact beq_self_eq_true _, fun W => (eqCid_args x y d f hx hy W).1 hxy⟩
    · refine ⟨false, ?_, fun W => (eqCid_args x y d f hx hy W).2 hxy⟩
      rw [ba_toList, ba_toList, beq_eq_false_iff_ne]
      exact fun h => hxy (cidEnc_inj hgx.2 hgy.2 (by rw [hx, ba_len]; omega) (by rw [hy, ba_len]; omega) h)
  obtain ⟨b, hEs, hEc⟩ := hE
  generalize (x.ver : Int) = c0 at *
  generalize (x.codec : Int) = c1 at *
  generalize (x.code : Int) = c2 at *
  generalize (y.ver : Int) = e0 at *
  generalize (y.codec : Int) = e1 at *
  generalize (y.code : Int) = e2 at *
  generalize (⟨(cidEnc x).toArray⟩ : ByteArray) = X at *
  generalize (⟨(cidEnc y).toArray⟩ : ByteArray) = Y at *
  have HI := Lib.hid hI
  have HJ := Lib.hid hJ
  obtain ⟨k0, k1, k2, k3⟩ := hI.cells
  obtain ⟨l0, l1, l2, l3⟩ := hJ.cells
  clear hI hJ hx hy hgx hgy hu
  go_enter Tryd.func6, Tryd.ntmps6
  go_wp2_with fail
  refine (F1 _).out.mono ?_
  rintro e w1 ⟨rfl, hb1⟩
  have b1 := below_next hA hb1
  have I1 := Lib.hid (HI.out.below hb1)
  have J1 := Lib.hid (HJ.out.below hb1)
  obtain ⟨k0, k1, k2, k3⟩ := I1.out.cells
  obtain ⟨l0, l1, l2, l3⟩ := J1.out.cells
  clear hb1
  go_wp2_with fail
  refine (F2 _).out.mono ?_
  rintro e w2 ⟨rfl, hb2⟩
  have b2 := below_next b1 hb2
  have I2 := Lib.hid (I1.out.below hb2)
  have J2 := Lib.hid (J1.out.below hb2)
  obtain ⟨k0, k1, k2, k3⟩ := I2.out.cells
  obtain ⟨l0, l1, l2, l3⟩ := J2.out.cells
  clear hb2 I1 J1
  go_wp2_with fail
  refine (G1 _).out.mono ?_
  rintro e w3 ⟨rfl, hb3⟩
  have b3 := below_next b2 hb3
  have I3 := Lib.hid (I2.out.below hb3)
  have J3 := Lib.hid (J2.out.below hb3)
  obtain ⟨k0, k1, k2, k3⟩ := I3.out.cells
  obtain ⟨l0, l1, l2, l3⟩ := J3.out.cells
  clear hb3 I2 J2
  go_wp2_with fail
  refine (G2 _).out.mono ?_
  rintro e w4 ⟨rfl, hb4⟩
  have b4 := below_next b3 hb4
  have I4 := Lib.hid (I3.out.below hb4)
  have J4 := Lib.hid (J3.out.below hb4)
  obtain ⟨k0, k1, k2, k3⟩ := I4.out.cells
  obtain ⟨l0, l1, l2, l3⟩ := J4.out.cells
  clear hb4 I3 J3
  go_wp2_with fail
  refine (B1 _ b4).out.mono ?_
  rintro e w5 ⟨rfl, hb5⟩
  have b5 := below_next b4 hb5
  have I5 := Lib.hid (I4.out.below hb5)
  have J5 := Lib.hid (J4.out.below hb5)
  obtain ⟨k0, k1, k2, k3⟩ := I5.out.cells
  obtain ⟨l0, l1, l2, l3⟩ := J5.out.cells
  clear hb5 I4 J4
  go_wp2_with fail
  refine (B2 _ b5).out.mono ?_
  rintro e w6 ⟨rfl, hb6⟩
  have b6 := below_next b5 hb6
  have I6 := Lib.hid (I5.out.below hb6)
  have J6 := Lib.hid (J5.out.below hb6)
  obtain ⟨k0, k1, k2, k3⟩ := I6.out.cells
  obtain ⟨l0, l1, l2, l3⟩ := J6.out.cells
  clear hb6 I5 J5
  go_wp2_with fail
  all_goals
    refine (O _ b6).out.mono ?_
    rintro e w7 ⟨rfl, hb7⟩
    have b7 := below_next b6 hb7
    clear hb7
    go_wp2
    go_ret
    exact ⟨rfl, b7⟩

set_option maxRecDepth 100000 in
set_option maxHeartbeats 2000000 in
theorem law_CdSame (x y : CidD) (d f : ByteArray) (hx : x.dig = d.data.toList) (hy : y.dig = f.data.toList) (w : World) (hu : CdS w) :
    Calls Tryd.prog 6 #[.agg #[.int .u64 x.ver, .int .u64 x.codec, .int .u64 x.code, .string d], .agg #[.int .u64 y.ver, .int .u64 y.codec, .int .u64 y.code, .string f]] w fun e w' => e = .returned (.bool true) ∧ Below w.heap.size w w' := by
  by_cases hgx : x.good d
  · by_cases hgy : y.good f
    · exact law_CdSame_good x y d f hx hy hgx hgy w hu
    · have hA : Below w.heap.size w ((w.alloc (cidO x.ver x.codec x.code d)).alloc (cidO y.ver y.codec y.code f)) := ((Below.refl _ _).alloc (Nat.le_refl _) _).alloc (by simp) _
      have hI : InRow ((w.alloc (cidO x.ver x.codec x.code d)).alloc (cidO y.ver y.codec y.code f)) w.heap.size x.ver x.codec x.code d := heap_alloc2_old _ _ _
      have hJ : InRow ((w.alloc (cidO x.ver x.codec x.code d)).alloc (cidO y.ver y.codec y.code f)) (w.heap.size + 1) y.ver y.codec y.code f := heap_alloc2_new _ _ _
      have G1 := fun W => Lib.hid (cdGood_yes x d hx hgx W)
      have G2 := fun W => Lib.hid (cdGood_no y f hy hgy W)
      have F1 := fun W => Lib.hid (fits1 x.ver x.codec x.code d (by have := hgx.1; omega) W)
      by_cases zf : f.size ≤ 2147483647
      · have F2 := fun W => Lib.hid (fits1 y.ver y.codec y.code f zf W)
        clear hx hy hgx hu
        generalize (x.ver : Int) = c0 at *
        generalize (x.codec : Int) = c1 at *
        generalize (x.code : Int) = c2 at *
        generalize (y.ver : Int) = e0 at *
        generalize (y.codec : Int) = e1 at *
        generalize (y.code : Int) = e2 at *
        have I0 := Lib.hid hI
        have J0 := Lib.hid hJ
        have b0 := hA
        obtain ⟨k0, k1, k2, k3⟩ := hI.cells
        obtain ⟨l0, l1, l2, l3⟩ := hJ.cells
        clear hI hJ
        go_enter Tryd.func6, Tryd.ntmps6
        go_wp2_with fail
        refine (F1 _).out.mono ?_
        rintro e w1 ⟨rfl, hb⟩
        have b1 := below_next b0 hb
        have I1 := Lib.hid (I0.out.below hb)
        have J1 := Lib.hid (J0.out.below hb)
        obtain ⟨k0, k1, k2, k3⟩ := I1.out.cells
        obtain ⟨l0, l1, l2, l3⟩ := J1.out.cells
        clear hb
        go_wp2_with fail
        refine (F2 _).out.mono ?_
        rintro e w2 ⟨rfl, hb⟩
        have b2 := below_next b1 hb
        have I2 := Lib.hid (I1.out.below hb)
        have J2 := Lib.hid (J1.out.below hb)
        obtain ⟨k0, k1, k2, k3⟩ := I2.out.cells
        obtain ⟨l0, l1, l2, l3⟩ := J2.out.cells
        clear hb
        go_wp2_with fail
        refine (G1 _).out.mono ?_
        rintro e w3 ⟨rfl, hb⟩
        have b3 := below_next b2 hb
        have I3 := Lib.hid (I2.out.below hb)
        have J3 := Lib.hid (J2.out.below hb)
        obtain ⟨k0, k1, k2, k3⟩ := I3.out.cells
        obtain ⟨l0, l1, l2, l3⟩ := J3.out.cells
        clear hb
        go_wp2_with fail
        refine (G2 _).out.mono ?_
        rintro e w4 ⟨rfl, hb⟩
        have b4 := below_next b3 hb
        have I4 := Lib.hid (I3.out.below hb)
        have J4 := Lib.hid (J3.out.below hb)
        obtain ⟨k0, k1, k2, k3⟩ := I4.out.cells
        obtain ⟨l0, l1, l2, l3⟩ := J4.out.cells
        clear hb
        go_wp2
        go_ret
        exact ⟨rfl, b4⟩
      · have F2 := fun W => Lib.hid (fits1_no y.ver y.codec y.code f (by omega) W)
        clear hx hy hgx hu
        generalize (x.ver : Int) = c0 at *
        generalize (x.codec : Int) = c1 at *
        generalize (x.code : Int) = c2 at *
        generalize (y.ver : Int) = e0 at *
        generalize (y.codec : Int) = e1 at *
        generalize (y.code : Int) = e2 at *
        have I0 := Lib.hid hI
        have J0 := Lib.hid hJ
        have b0 := hA
        obtain ⟨k0, k1, k2, k3⟩ := hI.cells
        obtain ⟨l0, l1, l2, l3⟩ := hJ.cells
        clear hI hJ
        go_enter Tryd.func6, Tryd.ntmps6
        go_wp2_with fail
        refine (F1 _).out.mono ?_
        rintro e w1 ⟨rfl, hb⟩
        have b1 := below_next b0 hb
        have I1 := Lib.hid (I0.out.below hb)
        have J1 := Lib.hid (J0.out.below hb)
        obtain ⟨k0, k1, k2, k3⟩ := I1.out.cells
        obtain ⟨l0, l1, l2, l3⟩ := J1.out.cells
        clear hb
        go_wp2_with fail
        refine (F2 _).out.mono ?_
        rintro e w2 ⟨rfl, hb⟩
        have b2 := below_next b1 hb
        have I2 := Lib.hid (I1.out.below hb)
        have J2 := Lib.hid (J1.out.below hb)
        obtain ⟨k0, k1, k2, k3⟩ := I2.out.cells
        obtain ⟨l0, l1, l2, l3⟩ := J2.out.cells
        clear hb
        go_wp2
        go_ret
        exact ⟨rfl, b2⟩
  · have hA : Below w.heap.size w ((w.alloc (cidO x.ver x.codec x.code d)).alloc (cidO y.ver y.codec y.code f)) := ((Below.refl _ _).alloc (Nat.le_refl _) _).alloc (by simp) _
    have hI : InRow ((w.alloc (cidO x.ver x.codec x.code d)).alloc (cidO y.ver y.codec y.code f)) w.heap.size x.ver x.codec x.code d := heap_alloc2_old _ _ _
    have hJ : InRow ((w.alloc (cidO x.ver x.codec x.code d)).alloc (cidO y.ver y.codec y.code f)) (w.heap.size + 1) y.ver y.codec y.code f := heap_alloc2_new _ _ _
    have G1 := fun W => Lib.hid (cdGood_no x d hx hgx W)
    by_cases zd : d.size ≤ 2147483647
    · have F1 := fun W => Lib.hid (fits1 x.ver x.codec x.code d zd W)
      by_cases zf : f.size ≤ 2147483647
      · have F2 := fun W => Lib.hid (fits1 y.ver y.codec y.code f zf W)
        clear hx hy hgx hu
        generalize (x.ver : Int) = c0 at *
        generalize (x.codec : Int) = c1 at *
        generalize (x.code : Int) = c2 at *
        generalize (y.ver : Int) = e0 at *
        generalize (y.codec : Int) = e1 at *
        generalize (y.code : Int) = e2 at *
        have I0 := Lib.hid hI
        have J0 := Lib.hid hJ
        have b0 := hA
        obtain ⟨k0, k1, k2, k3⟩ := hI.cells
        obtain ⟨l0, l1, l2, l3⟩ := hJ.cells
        clear hI hJ
        go_enter Tryd.func6, Tryd.ntmps6
        go_wp2_with fail
        refine (F1 _).out.mono ?_
        rintro e w1 ⟨rfl, hb⟩
        have b1 := below_next b0 hb
        have I1 := Lib.hid (I0.out.below hb)
        have J1 := Lib.hid (J0.out.below hb)
        obtain ⟨k0, k1, k2, k3⟩ := I1.out.cells
        obtain ⟨l0, l1, l2, l3⟩ := J1.out.cells
        clear hb
        go_wp2_with fail
        refine (F2 _).out.mono ?_
        rintro e w2 ⟨rfl, hb⟩
        have b2 := below_next b1 hb
        have I2 := Lib.hid (I1.out.below hb)
        have J2 := Lib.hid (J1.out.below hb)
        obtain ⟨k0, k1, k2, k3⟩ := I2.out.cells
        obtain ⟨l0, l1, l2, l3⟩ := J2.out.cells
        clear hb
        go_wp2_with fail
        refine (G1 _).out.mono ?_
        rintro e w3 ⟨rfl, hb⟩
        have b3 := below_next b2 hb
        have I3 := Lib.hid (I2.out.below hb)
        have J3 := Lib.hid (J2.out.below hb)
        obtain ⟨k0, k1, k2, k3⟩ := I3.out.cells
        obtain ⟨l0, l1, l2, l3⟩ := J3.out.cells
        clear hb
        go_wp2
        go_ret
        exact ⟨rfl, b3⟩
      · have F2 := fun W => Lib.hid (fits1_no y.ver y.codec y.code f (by omega) W)
        clear hx hy hgx hu
        generalize (x.ver : Int) = c0 at *
        generalize (x.codec : Int) = c1 at *
        generalize (x.code : Int) = c2 at *
        generalize (y.ver : Int) = e0 at *
        generalize (y.codec : Int) = e1 at *
        generalize (y.code : Int) = e2 at *
        have I0 := Lib.hid hI
        have J0 := Lib.hid hJ
        have b0 := hA
        obtain ⟨k0, k1, k2, k3⟩ := hI.cells
        obtain ⟨l0, l1, l2, l3⟩ := hJ.cells
        clear hI hJ
        go_enter Tryd.func6, Tryd.ntmps6
        go_wp2_with fail
        refine (F1 _).out.mono ?_
        rintro e w1 ⟨rfl, hb⟩
        have b1 := below_next b0 hb
        have I1 := Lib.hid (I0.out.below hb)
        have J1 := Lib.hid (J0.out.below hb)
        obtain ⟨k0, k1, k2, k3⟩ := I1.out.cells
        obtain ⟨l0, l1, l2, l3⟩ := J1.out.cells
        clear hb
        go_wp2_with fail
        refine (F2 _).out.mono ?_
        rintro e w2 ⟨rfl, hb⟩
        have b2 := below_next b1 hb
        have I2 := Lib.hid (I1.out.below hb)
        have J2 := Lib.hid (J1.out.below hb)
        obtain ⟨k0, k1, k2, k3⟩ := I2.out.cells
        obtain ⟨l0, l1, l2, l3⟩ := J2.out.cells
        clear hb
        go_wp2
        go_ret
        exact ⟨rfl, b2⟩
    · have F1 := fun W => Lib.hid (fits1_no x.ver x.codec x.code d (by omega) W)
      clear hx hy hgx hu
      generalize (x.ver : Int) = c0 at *
      generalize (x.codec : Int) = c1 at *
      generalize (x.code : Int) = c2 at *
      generalize (y.ver : Int) = e0 at *
      generalize (y.codec : Int) = e1 at *
      generalize (y.code : Int) = e2 at *
      have I0 := Lib.hid hI
      have J0 := Lib.hid hJ
      have b0 := hA
      obtain ⟨k0, k1, k2, k3⟩ := hI.cells
      obtain ⟨l0, l1, l2, l3⟩ := hJ.cells
      clear hI hJ
      go_enter Tryd.func6, Tryd.ntmps6
      go_wp2_with fail
      refine (F1 _).out.mono ?_
      rintro e w1 ⟨rfl, hb⟩
      have b1 := below_next b0 hb
      have I1 := Lib.hid (I0.out.below hb)
      have J1 := Lib.hid (J0.out.below hb)
      obtain ⟨k0, k1, k2, k3⟩ := I1.out.cells
      obtain ⟨l0, l1, l2, l3⟩ := J1.out.cells
      clear hb
      go_wp2
      go_ret
      exact ⟨rfl, b1⟩
end Go.Proofs.YthldlpggconmcaaDoorR
