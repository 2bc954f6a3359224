/- Contracts, joined (SvA SvB SvC SvD SvF LwC). -/
import Derived.Test.YthfgnhgijgjggaaDoorJSb4
import Derived.Test.YthfgnhgijgjggaaDoorJSb7
import Derived.Test.YthfgnhgijgjggaaDoorJSb8
import Derived.Test.YthfgnhgijgjggaaDoorJSb10
/- Contracts: util.LdRead's errors. -/
namespace Go.Proofs.YthfgnhgijgjggaaDoor
open Go.RowKit

/-- Nothing was read. -/
def LdBad (k : Nat) (p : Nat) (v : Value) (l : List UInt8) (w : World) (e : Ending) (w' : World) : Prop :=
  ∃ E, e = .returned (.tuple #[.slice none 0 0, E]) ∧ ErrK p w' E k ∧ (∃ j, Rdr w' p v l j) ∧ Keep (fun k => k = p) w w'

set_option maxRecDepth 100000 in
set_option maxHeartbeats 1000000 in
/-- The length is an error. -/
theorem ldRead_err (k p : Nat) (v : Value) (w : World) (z : Bool) (most : Nat) (l : List UInt8)
    (hS : Calls Tryd.prog 86 #[rdV p, .bool z, .int .u64 most] w fun e w' => ∃ E, e = .returned (.tuple #[.int .u64 0, E]) ∧ ErrK p w' E k ∧ (∃ j, Rdr w' p v l j) ∧ Keep (fun k => k = p) w w') :
    Calls Tryd.prog 50 #[rdV p, .bool z, .int .u64 most] w (LdBad k p v l w) := by
  have HS := Lib.hid hS
  clear hS
  go_enter Tryd.func50, Tryd.ntmps50
  go_wp2_with fail
  refine HS.out.mono ?_
  rintro e w1 ⟨_, rfl, ⟨⟨t, y, rfl⟩, hE⟩, hj, hk⟩
  have HE := Lib.hid hE
  have HJ := Lib.hid hj
  clear hE hj
  go_wp2
  go_ret2
  exact ⟨_, rfl, ⟨⟨_, _, rfl⟩, HE.out⟩, HJ.out, hk⟩

set_option maxRecDepth 100000 in
set_option maxHeartbeats 1000000 in
/-- There are too few bytes. -/
theorem ldRead_short (p : Nat) (v : Value) (l : List UInt8) (i : Nat) (w : World) (hr : Rdr w p v l i) (e0 e1 e2 e3 : Addr) (he : SeErrs p w e0 e1 e2 e3) (x m : Nat) (hd : uvDec (l.drop i) = .ok x m) (z : Bool) (most : Nat) (hm : x ≤ most) (hmost : most ≤ 33554432) (hz : z = true → x ≠ 0) (hx : l.length < i + m + x) (hne : i + m < l.length) :
    Calls Tryd.prog 50 #[rdV p, .bool z, .int .u64 most] w (LdBad 2 p v l w) := by
  have HB := Lib.hid (ldSize_ok p v l i w hr e0 e1 _ _ _ _ he.uv x m hd z most hm hz)
  have hpw : p < w.heap.size := by obtain ⟨r, hrow⟩ := hr.row; exact block_of_row hrow
  have hxs : x ≤ 281474976710656 := by omega
  have HE := Lib.hid he
  have HX := Lib.hid hx
  have HN := Lib.hid hne
  clear hr he hd hz hm hx hne hmost
  go_enter Tryd.func50, Tryd.ntmps50
  go_wp2_with fail
  refine HB.out.mono ?_
  rintro e w1 ⟨rfl, hr1, hk1⟩
  obtain ⟨w2, hmk, hb2, hs2, hrow⟩ := make_bytes64 (P := Tryd.prog) Tryd.underlying43 info_u8 w1 x hxs
  have hp1 : p < w1.heap.size := by have := hk1.size; omega
  have hk2 : Keep (fun k => k = p) w w2 := hk1.trans hb2.keep
  have he2 := HE.out.keep hk2 (fun k h => by omega)
  have HF := rdFull_short p w1.heap.size x x (l.length - (i + m)) v l (i + m) (List.replicate x (Value.int .u8 0)) 5 w2 (hr1.below hb2) hp1 hrow (by simp) (Nat.le_refl _) (by omega) rfl (by have := HX.out; have := HN.out; omega) e0 e1 he2.eof he2.unex
  rw [if_neg (by have := HN.out; omega)] at HF
  obtain ⟨K, hK⟩ : ∃ K : Int, K = ((l.length - (i + m) : Nat) : Int) := ⟨_, rfl⟩
  rw [← hK] at HF
  have HFF := Lib.hid HF
  have HK1 := Lib.hid hk1
  have hs1 := hk1.size
  have HK2 := Lib.hid (hb2.keep (S := fun _ => False))
  have HE2 := Lib.hid he2
  have HKK := Lib.hid hK
  clear hr1 hrow hk1 hs2 hk2 he2 HF hK
  generalize hg : w1.heap.size = g at *
  go_wp2_with fail
  refine HFF.out.mono ?_
  rintro e w3 ⟨rfl, hr3, hk3⟩
  have HR3 := Lib.hid hr3
  have hk : Keep (fun k => k = p) w w3 := HK1.out.trans2 (T := fun k => k = p ∨ k = g) ((HK2.out.mono (fun _ _ h => h.elim)).trans hk3) (fun k hk h => by omega)
  have hkp : Hid (Keep (fun k => p ≤ k) w2 w3) := Lib.hid (hk3.mono fun k _ h => by omega)
  clear hr3 hk3 hmk HFF HB
  go_wp2
  go_ret2
  refine ⟨_, rfl, errK_other HE2.out hkp.out fun W hW => ⟨_, _, rfl, run_eqErr_other HE2.out.n1 (HE2.out.unex.keep (hkp.out.trans hW) (fun _ h => h)).row (HE2.out.eof.keep (hkp.out.trans hW) (fun _ h => h)).row⟩, ⟨_, HR3.out⟩, hk⟩
end Go.Proofs.YthfgnhgijgjggaaDoor
/- Contracts: cid.CidFromBytes where no identifier is read: the kind of its error. -/
namespace Go.Proofs.YthfgnhgijgjggaaDoor
open Go.RowKit

/-- A number, a struct with one string, and an error of this kind. -/
def FromBadE (e : Ending) : Prop := ∃ (s : ByteArray) (p : Value), e = .returned (.tuple #[.int .i64 0, .agg #[.string s], .iface 159 p])

set_option maxRecDepth 100000 in
set_option maxHeartbeats 8000000 in
theorem cidFromE_short (A : Option Addr) (n c : Nat) (l : List UInt8) (w : World) (hs : BS w (.slice A n c) l) (hu : CdS w) (hz : cidZero l) (h34 : l.length < 34) :
    Calls Tryd.prog 85 #[.slice A n c] w fun e w' => FromBadE e ∧ Below w.heap.size w w' := by
  have hA : Below w.heap.size w (w.alloc cidZ) := (Below.refl _ _).alloc (Nat.le_refl _) _
  obtain ⟨hnl, hcap⟩ := hs.slice
  have hs1 := hs.below hA
  have h2 := hz.1
  obtain ⟨b, o, rfl, hcl⟩ := hs1.at_ (by omega)
  have hn2 : (2 : Int) < n := by omega
  have hn34 : (n : Int) < 34 := by omega
  have e0 := hcl 0 (by omega)
  have e1 := hcl 1 (by omega)
  have x0 : l[0] = 18 := by have := hz.2.1; rw [List.getElem?_eq_getElem (by omega)] at this; exact Option.some.inj this
  have x1 : l[1] = 32 := by have := hz.2.2; rw [List.getElem?_eq_getElem (by omega)] at this; exact Option.some.inj this
  rw [x0, Nat.add_zero] at e0
  rw [x1] at e1
  have i0 : (w.alloc cidZ).cell? ⟨b, o, none⟩ = some (.int .u8 18) := e0
  have i1 : (w.alloc cidZ).cell? ⟨b, o + 1, none⟩ = some (.int .u8 32) := e1
  obtain ⟨us, hus⟩ := (hu.below hA).undef
  have hd1 : Below (w.alloc cidZ).heap.size (w.alloc cidZ) (w.alloc cidZ).drew := below_drewN _ _ 1
  obtain ⟨p1, p2, p3, _, _⟩ := from_fin hus hd1
  have n1 : (0 : Nat) < n := by omega
  have n3 : (1 : Nat) < n := by omega
  clear e0 e1 x0 x1 hcl hs hs1 hz hnl h34 h2 hu hcap
  go_enter Tryd.func85, Tryd.ntmps85
  go_wp2_with fail
  go_region_with (go_at_call 103; refine (errorsNew _ (w.alloc cidZ).drew).mono ?_; rintro e w3 ⟨t, p, rfl, hb3⟩; obtain ⟨p1, p2, p3, p4, p5⟩ := from_fin hus (below_next hd1 hb3))
  all_goals
    go_wp2
    refine bodyPost_ret (results_tmp_row_tmp rfl _ _ (w.heap.size) 80 #[.string us] (0, 0) _ rfl p4.out Tryd.underlying80 rfl (by kernel_rfl)) rfl ?_
    exact ⟨⟨_, _, rfl⟩, p5.out⟩

set_option maxRecDepth 100000 in
set_option maxHeartbeats 8000000 in
/-- The version can't be read. -/
theorem cidFromE_noVer (A : Option Addr) (n c : Nat) (l : List UInt8) (w : World) (hs : BS w (.slice A n c) l) (hm : l.length ≤ 2147483647) (hu : CdS w) (hz : ¬ cidZero l) (hno : (uvDec l).no) :
    Calls Tryd.prog 85 #[.slice A n c] w fun e w' => FromBadE e ∧ Below w.heap.size w w' := by
  have hA : Below w.heap.size w (w.alloc cidZ) := (Below.refl _ _).alloc (Nat.le_refl _) _
  have hs1 := hs.below hA
  have hF := fst_of hs1 hz
  obtain ⟨hnl, hcap⟩ := hs.slice
  obtain ⟨us, hus⟩ := (hu.below hA).undef
  have C1 := Lib.hid (fromUv_no A n c l _ hs1 (by omega) (hu.below hA).toUvS hno)
  have HUS := Lib.hid hus
  have hn : n ≤ 2147483647 := by omega
  clear hs hs1 hz hno hu hus hnl hcap hm hA
  obtain ⟨w0, hw0⟩ : ∃ w0, w0 = w.alloc cidZ := ⟨_, rfl⟩
  rcases hF with hn2 | ⟨hn2, b, o, x0, x1, rfl, i0, i1, h18 | ⟨h18, h32⟩⟩
  all_goals
    go_enter Tryd.func85, Tryd.ntmps85
    go_wp2_with fail
    refine C1.out.mono ?_
    rintro e w1 ⟨t, p, rfl, hb1⟩
    obtain ⟨p1, p2, p3, p4, p5⟩ := from_fin HUS.out hb1
    go_wp2_with fail
    go_region
    all_goals
      go_wp2
      refine bodyPost_ret (results_tmp_row_tmp rfl _ _ (w.heap.size) 80 #[.string us] (0, 0) _ rfl p4.out Tryd.underlying80 rfl (by kernel_rfl)) rfl ?_
      exact ⟨⟨_, _, rfl⟩, p5.out.drewN 1⟩

set_option maxRecDepth 100000 in
set_option maxHeartbeats 8000000 in
/-- The version is another one. -/
theorem cidFromE_badVer (A : Option Addr) (n c : Nat) (l : List UInt8) (w : World) (hs : BS w (.slice A n c) l) (hm : l.length ≤ 2147483647) (hu : CdS w) (hz : ¬ cidZero l) (v k : Nat) (hd : uvDec l = .ok v k) (hv : v ≠ 1) :
    Calls Tryd.prog 85 #[.slice A n c] w fun e w' => FromBadE e ∧ Below w.heap.size w w' := by
  have hA : Below w.heap.size w (w.alloc cidZ) := (Below.refl _ _).alloc (Nat.le_refl _) _
  have hs1 := hs.below hA
  have hF := fst_of hs1 hz
  obtain ⟨hnl, hcap⟩ := hs.slice
  obtain ⟨us, hus⟩ := (hu.below hA).undef
  have C1 := Lib.hid (fromUv_ok A n c l _ hs1 (by omega) (hu.below hA).toUvS v k hd)
  have HUS := Lib.hid hus
  have hn : n ≤ 2147483647 := by omega
  have hv1 : ((v : Int) != 1) = true := by rw [bne_iff_ne]; omega
  clear hs hs1 hz hd hu hus hnl hcap hm hA hv
  generalize (v : Int) = vi at *
  obtain ⟨w0, hw0⟩ : ∃ w0, w0 = w.alloc cidZ := ⟨_, rfl⟩
  rcases hF with hn2 | ⟨hn2, b, o, x0, x1, rfl, i0, i1, h18 | ⟨h18, h32⟩⟩
  all_goals
    go_enter Tryd.func85, Tryd.ntmps85
    go_wp2_with fail
    refine C1.out.mono ?_
    rintro e w1 ⟨rfl, hb1⟩
    have hd1 := hb1.drewN 1
    obtain ⟨p1, p2, p3, _, _⟩ := from_fin HUS.out hb1
    go_wp2_with fail
    go_region_with (go_at_call 103; refine (errorsNew _ w1.drew).mono ?_; rintro e w3 ⟨t, p, rfl, hb3⟩; obtain ⟨p1, p2, p3, p4, p5⟩ := from_fin HUS.out (below_next hd1 hb3))
    all_goals
      go_wp2
      refine bodyPost_ret (results_tmp_row_tmp rfl _ _ (w.heap.size) 80 #[.string us] (0, 0) _ rfl p4.out Tryd.underlying80 rfl (by kernel_rfl)) rfl ?_
      exact ⟨⟨_, _, rfl⟩, p5.out⟩

set_option maxRecDepth 100000 in
set_option maxHeartbeats 8000000 in
/-- The codec can't be read. -/
theorem cidFromE_noCodec (A : Option Addr) (n c : Nat) (l : List UInt8) (w : World) (hs : BS w (.slice A n c) l) (hm : l.length ≤ 2147483647) (hu : CdS w) (hz : ¬ cidZero l) (hd : uvDec l = .ok 1 1) (hno : (uvDec (l.drop 1)).no) :
    Calls Tryd.prog 85 #[.slice A n c] w fun e w' => FromBadE e ∧ Below w.heap.size w w' := by
  have hA : Below w.heap.size w (w.alloc cidZ) := (Below.refl _ _).alloc (Nat.le_refl _) _
  have hs1 := hs.below hA
  have hF := fst_of hs1 hz
  obtain ⟨hnl, hcap⟩ := hs.slice
  obtain ⟨_, g2, _⟩ := uvDec_ok hd
  obtain ⟨us, hus⟩ := (hu.below hA).undef
  have C1 := Lib.hid (fromUv_ok A n c l _ hs1 (by omega) (hu.below hA).toUvS 1 1 hd)
  obtain ⟨r1, hs2⟩ := hs1.from_ (P := Tryd.prog) Tryd.underlying43 info_u8 1 (by omega)
  have l1 : (l.drop 1).length = l.length - 1 := by simp
  have C2 : ∀ W, Below (w.alloc cidZ).heap.size (w.alloc cidZ) W → Hid (Calls Tryd.prog 79 #[.slice (cutA A c 1) (n - 1) (c - 1)] W fun e w' => ∃ t p, e = .returned (.tuple #[.int .u64 0, .int .i64 0, .iface t p]) ∧ Below W.heap.size W w') := fun W hb =>
    Lib.hid (fromUv_no _ _ _ _ W (hs2.below hb) (by omega) ((hu.below hA).below hb).toUvS hno)
  have HUS := Lib.hid hus
  have hn : n ≤ 2147483647 := by omega
  rw [show ((1 : Nat) : Int) = 1 from rfl] at r1 C1
  clear hs hs1 hs2 hz hno hu hus hnl hcap hm hA hd g2 l1
  generalize cutA A c 1 = A1 at *
  generalize n - 1 = N1 at *
  generalize c - 1 = c1 at *
  obtain ⟨w0, hw0⟩ : ∃ w0, w0 = w.alloc cidZ := ⟨_, rfl⟩
  rcases hF with hn2 | ⟨hn2, b, o, x0, x1, rfl, i0, i1, h18 | ⟨h18, h32⟩⟩
  all_goals
    go_enter Tryd.func85, Tryd.ntmps85
    go_wp2_with fail
    refine C1.out.mono ?_
    rintro e w1 ⟨rfl, hb1⟩
    go_wp2_with fail
    refine (C2 w1 hb1).out.mono ?_
    rintro e w2 ⟨t, p, rfl, hb2⟩
    obtain ⟨p1, p2, p3, p4, p5⟩ := from_fin HUS.out (below_next hb1 hb2)
    go_wp2_with fail
    go_region
    all_goals
      go_wp2
      refine bodyPost_ret (results_tmp_row_tmp rfl _ _ (w.heap.size) 80 #[.string us] (0, 0) _ rfl p4.out Tryd.underlying80 rfl (by kernel_rfl)) rfl ?_
      exact ⟨⟨_, _, rfl⟩, p5.out.drewN 1⟩

set_option maxRecDepth 100000 in
set_option maxHeartbeats 8000000 in
/-- The multihash can't be read. -/
theorem cidFromE_noMh (A : Option Addr) (n c : Nat) (l : List UInt8) (w : World) (hs : BS w (.slice A n c) l) (hm : l.length ≤ 2147483647) (hu : CdS w) (hz : ¬ cidZero l) (hd : uvDec l = .ok 1 1) (codec m : Nat) (hd2 : uvDec (l.drop 1) = .ok codec m) (hno : mhRd ((l.drop 1).drop m) = none) :
    Calls Tryd.prog 85 #[.slice A n c] w fun e w' => FromBadE e ∧ Below w.heap.size w w' := by
  have hA : Below w.heap.size w (w.alloc cidZ) := (Below.refl _ _).alloc (Nat.le_refl _) _
  have hs1 := hs.below hA
  have hF := fst_of hs1 hz
  obtain ⟨hnl, hcap⟩ := hs.slice
  obtain ⟨_, g2, _⟩ := uvDec_ok hd
  obtain ⟨_, g3, _⟩ := uvDec_ok hd2
  rw [List.length_drop] at g3
  obtain ⟨us, hus⟩ := (hu.below hA).undef
  have C1 := Lib.hid (fromUv_ok A n c l _ hs1 (by omega) (hu.below hA).toUvS 1 1 hd)
  obtain ⟨r1, hs2⟩ := hs1.from_ (P := Tryd.prog) Tryd.underlying43 info_u8 1 (by omega)
  have l1 : (l.drop 1).length = l.length - 1 := by simp
  have C2 : ∀ W, Below (w.alloc cidZ).heap.size (w.alloc cidZ) W → Hid (Calls Tryd.prog 79 #[.slice (cutA A c 1) (n - 1) (c - 1)] W fun e w' => e = .returned (.tuple #[.int .u64 codec, .int .i64 m, .nilIface]) ∧ Below W.heap.size W w') := fun W hb =>
    Lib.hid (fromUv_ok _ _ _ _ W (hs2.below hb) (by omega) ((hu.below hA).below hb).toUvS codec m hd2)
  obtain ⟨r2, hs3⟩ := hs1.from_ (P := Tryd.prog) Tryd.underlying43 info_u8 (1 + m) (by omega)
  rw [← List.drop_drop] at hs3
  have C3 : ∀ W, Below (w.alloc cidZ).heap.size (w.alloc cidZ) W → Hid (Calls Tryd.prog 105 #[.slice (cutA A c (1 + m)) (n - (1 + m)) (c - (1 + m))] W fun e w' => ∃ t p, e = .returned (.tuple #[.int .i64 0, .slice none 0 0, .iface t p]) ∧ Below W.heap.size W w') := fun W hb =>
    Lib.hid (MHFrom_no _ _ _ _ W (hs3.below hb) (by rw [List.length_drop, List.length_drop]; omega) ((hu.below hA).below hb).toMhS hno)
  have HUS := Lib.hid hus
  have hn : n ≤ 2147483647 := by omega
  have em : ((1 + m : Nat) : Int) = 1 + (m : Int) := by omega
  have b1 : m ≤ 2147483647 := by omega
  rw [em] at r2
  rw [show ((1 : Nat) : Int) = 1 from rfl] at r1 C1
  clear hs hs1 hs2 hs3 hz hno hu hus hnl hcap hm hA hd hd2 g2 g3 l1 em
  generalize cutA A c 1 = A1 at *
  generalize cutA A c (1 + m) = A2 at *
  generalize n - 1 = N1 at *
  generalize n - (1 + m) = N2 at *
  generalize c - 1 = c1 at *
  generalize c - (1 + m) = c2 at *
  obtain ⟨w0, hw0⟩ : ∃ w0, w0 = w.alloc cidZ := ⟨_, rfl⟩
  rcases hF with hn2 | ⟨hn2, b, o, x0, x1, rfl, i0, i1, h18 | ⟨h18, h32⟩⟩
  all_goals
    go_enter Tryd.func85, Tryd.ntmps85
    go_wp2_with fail
    refine C1.out.mono ?_
    rintro e w1 ⟨rfl, hb1⟩
    go_wp2_with fail
    refine (C2 w1 hb1).out.mono ?_
    rintro e w2 ⟨rfl, hb2⟩
    have hb2' := below_next hb1 hb2
    go_wp2_with fail
    refine (C3 w2 hb2').out.mono ?_
    rintro e w3 ⟨t, p, rfl, hb3⟩
    obtain ⟨p1, p2, p3, p4, p5⟩ := from_fin HUS.out (below_next hb2' hb3)
    go_wp2_with fail
    go_region
    all_goals
      go_wp2
      refine bodyPost_ret (results_tmp_row_tmp rfl _ _ (w.heap.size) 80 #[.string us] (0, 0) _ rfl p4.out Tryd.underlying80 rfl (by kernel_rfl)) rfl ?_
      exact ⟨⟨_, _, rfl⟩, p5.out.drewN 1⟩

theorem cidFromE_no (A : Option Addr) (n c : Nat) (l : List UInt8) (w : World) (hs : BS w (.slice A n c) l) (hm : l.length ≤ 2147483647) (hu : CdS w) (hd : cidRd l = none) :
    Calls Tryd.prog 85 #[.slice A n c] w fun e w' => FromBadE e ∧ Below w.heap.size w w' := by
  rcases cidRd_none hd with ⟨hz, h34⟩ | ⟨hz, h | ⟨v, k, e1, hv⟩ | ⟨e1, h | ⟨codec, m, e2, e3⟩⟩⟩
  · exact cidFromE_short A n c l w hs hu hz h34
  · exact cidFromE_noVer A n c l w hs hm hu hz h
  · exact cidFromE_badVer A n c l w hs hm hu hz v k e1 hv
  · exact cidFromE_noCodec A n c l w hs hm hu hz e1 h
  · exact cidFromE_noMh A n c l w hs hm hu hz e1 codec m e2 e3

end Go.Proofs.YthfgnhgijgjggaaDoor
/- Contracts: util.ReadNode. -/
namespace Go.Proofs.YthfgnhgijgjggaaDoor
open Go.RowKit

/-- Bytes are kept where no written block holds one. -/
theorem BS.keepS {w w' : World} {v : Value} {l : List UInt8} {S : Nat → Prop} (h : BS w v l) (hk : Keep S w w') (hS : ∀ k, S k → ∀ (o : Nat) (x : Int), w.cell? ⟨k, o, none⟩ ≠ some (.int .u8 x)) : BS w' v l := by
  obtain ⟨A, c, h1, h2, h3⟩ := h
  refine ⟨A, c, h1, h2, fun h0 => ?_⟩
  obtain ⟨b, o, e, hc⟩ := h3 h0
  exact ⟨b, o, e, fun j hj => hk.cell (hc j hj) fun hb => hS b hb _ _ (hc j hj)⟩

/-- No block was read. -/
def RnBad (k : Nat) (p : Nat) (v : Value) (l : List UInt8) (w : World) (e : Ending) (w' : World) : Prop :=
  ∃ (s : ByteArray) (E : Value), e = .returned (.tuple #[.agg #[.string s], .slice none 0 0, E]) ∧ ErrK p w' E k ∧ (∃ j, Rdr w' p v l j) ∧ Keep (fun k => k = p) w w'

set_option maxRecDepth 100000 in
set_option maxHeartbeats 8000000 in
/-- The section can't be read. -/
theorem readNode_err (k p : Nat) (v : Value) (w : World) (z : Bool) (most : Nat) (l : List UInt8) (hpw : p < w.heap.size)
    (hS : Calls Tryd.prog 50 #[rdV p, .bool z, .int .u64 most] (w.alloc cidZ) (LdBad k p v l (w.alloc cidZ))) :
    Calls Tryd.prog 63 #[rdV p, .bool z, .int .u64 most] w (RnBad k p v l w) := by
  have hr0 := heap_alloc_new w cidZ
  have hA : Below w.heap.size w (w.alloc cidZ) := (Below.refl _ _).alloc (Nat.le_refl _) _
  have HA := Lib.hid hA
  have HS := Lib.hid hS
  clear hS hA
  go_enter Tryd.func63, Tryd.ntmps63
  go_wp2_with fail
  refine HS.out.mono ?_
  rintro e w1 ⟨_, rfl, ⟨⟨t, y, rfl⟩, hE⟩, hj, hk⟩
  have hr1 := hk.row hr0 (fun h => by omega)
  have k0 := cell_of_row' (cur := [_]) hr1 0
  have f0 := frozen_of_row' (cur := [_]) hr1 0
  have p4 := Lib.hid (Lib.heap_setCell_same (i := 0) hr1 (.string ⟨#[]⟩))
  have hk1 : Keep (fun k => k = w.heap.size) w1 (w1.setCell ⟨w.heap.size, 0, none⟩ (.string ⟨#[]⟩)) := Keep.setCell (S := fun k => k = w.heap.size) (Keep.refl _ _) rfl _ _
  have hfin : Hid (ErrK p (w1.setCell ⟨w.heap.size, 0, none⟩ (.string ⟨#[]⟩)) (.iface t y) k ∧ (∃ j, Rdr (w1.setCell ⟨w.heap.size, 0, none⟩ (.string ⟨#[]⟩)) p v l j) ∧ Keep (fun k => k = p) w (w1.setCell ⟨w.heap.size, 0, none⟩ (.string ⟨#[]⟩))) := by
    obtain ⟨j, hj⟩ := hj
    refine Lib.hid ⟨ErrK.keep ⟨⟨_, _, rfl⟩, hE⟩ (hk1.mono fun _ _ h => by omega), ⟨j, hj.keep hk1 (fun k h => by omega)⟩, ?_⟩
    exact (((HA.out.keep (S := fun k => k = p ∨ k = w.heap.size)).trans (hk.mono fun _ _ h => Or.inl h)).trans (hk1.mono fun _ _ h => Or.inr h)).mono (fun k hk h => by omega)
  clear hE hk1 hj hk hr1 hr0
  go_wp2
  refine bodyPost_ret (results_row_tmp_tmp rfl _ _ (w.heap.size) 80 #[.string ⟨#[]⟩] (0, 0) _ rfl p4.out Tryd.underlying80 rfl (by kernel_rfl)) rfl ?_
  exact ⟨_, _, rfl, hfin.out⟩

set_option maxRecDepth 100000 in
set_option maxHeartbeats 8000000 in
/-- The section does not begin with an identifier. -/
theorem readNode_noCid (p : Nat) (v : Value) (l : List UInt8) (i : Nat) (w : World) (hr : Rdr w p v l i) (e0 e1 e2 e3 : Addr) (he : SeErrs p w e0 e1 e2 e3) (hu : ∀ W, Keep (fun k => p ≤ k) w W → CdS W) (x m : Nat) (hd : uvDec (l.drop i) = .ok x m) (z : Bool) (most : Nat) (hxm : x ≤ most) (hz : z = true → x ≠ 0) (hx : i + m + x ≤ l.length) (hl : l.length ≤ 2147483647)
    (L : List UInt8) (hL : L = (l.drop (i + m)).take x) (hno : cidRd L = none) :
    Calls Tryd.prog 63 #[rdV p, .bool z, .int .u64 most] w (RnBad 2 p v l w) := by
  have hpw : p < w.heap.size := by obtain ⟨r, h⟩ := hr.row; exact block_of_row h
  have hr0 := heap_alloc_new w cidZ
  have hA : Below w.heap.size w (w.alloc cidZ) := (Below.refl _ _).alloc (Nat.le_refl _) _
  have HA := Lib.hid hA
  have he' := he.keep (S := fun _ => False) hA.keep (fun _ h => h.elim)
  have hS := ldRead_ok p v l i _ (hr.keep (S := fun _ => False) hA.keep (fun _ h => h.elim)) e0 e1 _ _ _ _ he'.uv x m hd z most hxm hz hx (by omega)
  rw [← hL] at hS
  have HS := Lib.hid hS
  have HE := Lib.hid he'
  have HU := Lib.hid hu
  have hLl : L.length ≤ 2147483647 := by rw [hL, List.length_take, List.length_drop]; omega
  have HLl := Lib.hid hLl
  have HNO := Lib.hid hno
  clear hA he he' hu hr hd hL hno hS hLl hz hx hl hxm
  go_enter Tryd.func63, Tryd.ntmps63
  go_wp2_with fail
  refine HS.out.mono ?_
  rintro e w1 ⟨⟨A, c, rfl, hbs⟩, hr1, hk⟩
  have hk1 : Keep (fun k => p ≤ k) w w1 := (HA.out.keep).trans (hk.mono fun _ _ h => by omega)
  have hC := cidFromE_no A L.length c L w1 hbs HLl.out (HU.out _ hk1) HNO.out
  have hrw := hk.row hr0 (fun h => by omega)
  have HR1 := Lib.hid hr1
  have HK := Lib.hid hk
  have HR0 := Lib.hid hrw
  have HC := Lib.hid hC
  generalize L.length = n at *
  clear hr1 hk hk1 hbs hC hr0 hrw HS
  go_wp2_with fail
  refine HC.out.mono ?_
  rintro e w4 ⟨⟨s, y, rfl⟩, hb4⟩
  have hr4 := row_below hb4 (block_of_row HR0.out) HR0.out
  obtain ⟨W3, hW3⟩ : ∃ W3, W3 = w4.alloc (.cells #[.string s] 80) := ⟨_, rfl⟩
  have hb3 : Below w4.heap.size w4 W3 := hW3 ▸ (Below.refl _ w4).alloc (Nat.le_refl _) _
  have hr3 := row_below hb3 (block_of_row hr4) hr4
  have k0 := cell_of_row' (cur := [_]) hr3 0
  have f0 := frozen_of_row' (cur := [_]) hr3 0
  have p4 := Lib.hid (Lib.heap_setCell_same (i := 0) hr3 (.string ⟨#[]⟩))
  have hk5 : Keep (fun k => k = w.heap.size) w1 (W3.setCell ⟨w.heap.size, 0, none⟩ (.string ⟨#[]⟩)) := Keep.setCell (S := fun k => k = w.heap.size) (hb4.keep.trans hb3.keep) rfl _ _
  have hfin : Hid (ErrK p (W3.setCell ⟨w.heap.size, 0, none⟩ (.string ⟨#[]⟩)) (.iface 159 y) 2 ∧ (∃ j, Rdr (W3.setCell ⟨w.heap.size, 0, none⟩ (.string ⟨#[]⟩)) p v l j) ∧ Keep (fun k => k = p) w (W3.setCell ⟨w.heap.size, 0, none⟩ (.string ⟨#[]⟩))) := by
    refine Lib.hid ⟨errK_other HE.out ((HK.out.mono (T := fun k => p ≤ k) fun _ _ h => by omega).trans (hk5.mono fun _ _ h => by omega)) (fun W _ => notEOF_cid W y e0), ⟨_, HR1.out.keep hk5 (fun k h => by omega)⟩, ?_⟩
    exact (((HA.out.keep (S := fun k => k = p ∨ k = w.heap.size)).trans (HK.out.mono fun _ _ h => Or.inl h)).trans (hk5.mono fun _ _ h => Or.inr h)).mono (fun k hk h => by omega)
  rw [hW3] at k0 f0 hfin p4
  clear hk5 hr3 hb3 hW3 hr4 hb4 HC
  go_wp2
  refine bodyPost_ret (results_row_tmp_tmp rfl _ _ (w.heap.size) 80 #[.string ⟨#[]⟩] (0, 0) _ rfl p4.out Tryd.underlying80 rfl (by kernel_rfl)) rfl ?_
  exact ⟨_, _, rfl, hfin.out⟩

/-- A block: its identifier's string, and a slice of its data. -/
def RnOk (us : ByteArray) (d : List UInt8) (e : Ending) (w' : World) : Prop := ∃ A c, e = .returned (.tuple #[.agg #[.string us], .slice A d.length c, .nilIface]) ∧ BS w' (.slice A d.length c) d

set_option maxRecDepth 100000 in
set_option maxHeartbeats 8000000 in
/-- A block. -/
theorem readNode_ok (p : Nat) (v : Value) (l : List UInt8) (i : Nat) (w : World) (hr : Rdr w p v l i) (e0 e1 e2 e3 : Addr) (he : SeErrs p w e0 e1 e2 e3) (hu : ∀ W, Keep (fun k => p ≤ k) w W → CdS W) (x m : Nat) (hd : uvDec (l.drop i) = .ok x m) (z : Bool) (most : Nat) (hxm : x ≤ most) (hz : z = true → x ≠ 0) (hx : i + m + x ≤ l.length) (hl : l.length ≤ 2147483647)
    (L : List UInt8) (hL : L = (l.drop (i + m)).take x) (cc : CidD) (k : Nat) (hok : cidRd L = some (cc, k)) :
    Calls Tryd.prog 63 #[rdV p, .bool z, .int .u64 most] w fun e w' => RnOk ⟨(cidEnc cc).toArray⟩ (L.drop k) e w' ∧ Rdr w' p v l (i + m + x) ∧ Keep (fun k => k = p) w w' := by
  have hpw : p < w.heap.size := by obtain ⟨r, h⟩ := hr.row; exact block_of_row h
  have hr0 := heap_alloc_new w cidZ
  have hA : Below w.heap.size w (w.alloc cidZ) := (Below.refl _ _).alloc (Nat.le_refl _) _
  have HA := Lib.hid hA
  have he' := he.keep (S := fun _ => False) hA.keep (fun _ h => h.elim)
  have hS := ldRead_ok p v l i _ (hr.keep (S := fun _ => False) hA.keep (fun _ h => h.elim)) e0 e1 _ _ _ _ he'.uv x m hd z most hxm hz hx (by omega)
  rw [← hL] at hS
  have HS := Lib.hid hS
  have HU := Lib.hid hu
  have hLl : L.length ≤ 2147483647 := by rw [hL, List.length_take, List.length_drop]; omega
  have hkL : k ≤ L.length := (cidRd_take hok).1
  have HLl := Lib.hid hLl
  have HOK := Lib.hid hok
  have hdl : (L.drop k).length = L.length - k := List.length_drop
  obtain ⟨D, hD⟩ : ∃ D, D = L.drop k := ⟨_, rfl⟩
  rw [← hD] at hdl ⊢
  have HD := Lib.hid hD
  obtain ⟨s, hs⟩ : ∃ s : ByteArray, s = ⟨(cidEnc cc).toArray⟩ := ⟨_, rfl⟩
  have HSS := Lib.hid hs
  rw [← hs]
  clear hA he he' hu hr hd hL hok hS hLl hz hx hl hxm hD hs
  go_enter Tryd.func63, Tryd.ntmps63
  go_wp2_with fail
  refine HS.out.mono ?_
  rintro e w1 ⟨⟨A, c, rfl, hbs⟩, hr1, hk⟩
  have hk1 : Keep (fun k => p ≤ k) w w1 := (HA.out.keep).trans (hk.mono fun _ _ h => by omega)
  have hC := cidFrom_ok A L.length c L w1 hbs HLl.out (HU.out _ hk1) cc k HOK.out
  rw [← HSS.out] at hC
  have hrw := hk.row hr0 (fun h => by omega)
  have HB := Lib.hid (hbs.from_ (P := Tryd.prog) Tryd.underlying43 info_u8 k hkL)
  have hcap : L.length ≤ c := hbs.slice.2
  have HR1 := Lib.hid hr1
  have HK := Lib.hid hk
  have HR0 := Lib.hid hrw
  have HC := Lib.hid hC
  have hnn : L.length ≤ 2147483647 := HLl.out
  rw [← HD.out] at HB
  generalize L.length = n at *
  have T := fun W => run_from (P := Tryd.prog) Tryd.underlying43 info_u8 A n c k hkL W
  clear hr1 hk hk1 hbs hC hr0 hrw HS
  go_wp2_with fail
  refine HC.out.mono ?_
  rintro e w4 ⟨rfl, hb4⟩
  have hr4 := row_below hb4 (block_of_row HR0.out) HR0.out
  obtain ⟨W3, hW3⟩ : ∃ W3, W3 = w4.alloc (.cells #[.string s] 80) := ⟨_, rfl⟩
  have hb3 : Below w4.heap.size w4 W3 := hW3 ▸ (Below.refl _ w4).alloc (Nat.le_refl _) _
  have hr3 := row_below hb3 (block_of_row hr4) hr4
  have k0 := cell_of_row' (cur := [_]) hr3 0
  have f0 := frozen_of_row' (cur := [_]) hr3 0
  have p4 := Lib.hid (Lib.heap_setCell_same (i := 0) hr3 (.string s))
  have hk5 : Keep (fun k => k = w.heap.size) w1 (W3.setCell ⟨w.heap.size, 0, none⟩ (.string s)) := Keep.setCell (S := fun k => k = w.heap.size) (hb4.keep.trans hb3.keep) rfl _ _
  have hfin : Hid (Rdr (W3.setCell ⟨w.heap.size, 0, none⟩ (.string s)) p v l (i + m + x) ∧ Keep (fun k => k = p) w (W3.setCell ⟨w.heap.size, 0, none⟩ (.string s))) := by
    refine Lib.hid ⟨HR1.out.keep hk5 (fun k h => by omega), ?_⟩
    exact (((HA.out.keep (S := fun k => k = p ∨ k = w.heap.size)).trans (HK.out.mono fun _ _ h => Or.inl h)).trans (hk5.mono fun _ _ h => Or.inr h)).mono (fun k hk h => by omega)
  have HDS : Hid (BS (W3.setCell ⟨w.heap.size, 0, none⟩ (.string s)) (.slice (cutA A c k) (n - k) (c - k)) D) := Lib.hid (HB.out.2.keepS hk5 fun q hq o x hc => by
    rw [hq, cell_of_row' (cur := [_]) HR0.out] at hc
    rcases o with _ | o <;> simp at hc)
  rw [hW3] at k0 f0 hfin p4 HDS
  have k1 : (w4.alloc (.cells #[.string s] 80)).cell? ⟨w4.heap.size, 0, none⟩ = _ := cell_of_row' (cur := [_]) (heap_alloc_new w4 _) 0
  clear hr3 hb3 hW3 hr4 hb4 HC
  go_wp2_with fail
  go_region
  all_goals
    go_wp2
    refine bodyPost_ret (results_row_tmp_tmp rfl _ _ (w.heap.size) 80 #[.string s] (0, 0) _ rfl p4.out Tryd.underlying80 rfl (by kernel_rfl)) rfl ?_
    refine ⟨⟨cutA A c k, c - k, by rw [hdl]; rfl, ?_⟩, hfin.out.1.keep (keep_drew (fun _ => False) _) (fun _ h => h.elim), hfin.out.2.trans (keep_drew _ _)⟩
    rw [hdl]
    exact HDS.out.drewN 1
end Go.Proofs.YthfgnhgijgjggaaDoor
/- Contract: impl.SeRead. -/
namespace Go.Proofs.YthfgnhgijgjggaaDoor
open Go.RowKit

/-- A block's variable, empty. -/
abbrev blkZ : Obj := .cells #[.int .u64 0, .int .u64 0, .int .u64 0, .string ⟨#[]⟩, .string ⟨#[]⟩] 60
theorem set5 {w : World} {g : Nat} {v0 v1 v2 v3 v4 : Value} {t : TypeId} (h : w.heap[g]? = some (.cells #[v0, v1, v2, v3, v4] t (0, 0))) (a b c d e : Value) :
    (((((w.setCell ⟨g, 0, none⟩ a).setCell ⟨g, 1, none⟩ b).setCell ⟨g, 2, none⟩ c).setCell ⟨g, 3, none⟩ d).setCell ⟨g, 4, none⟩ e).heap[g]? = some (.cells #[a, b, c, d, e] t (0, 0)) := by
  have h0 : (w.setCell ⟨g, 0, none⟩ a).heap[g]? = some (.cells #[a, v1, v2, v3, v4] t (0, 0)) := Lib.heap_setCell_same (i := 0) h a
  have h1 : ((w.setCell ⟨g, 0, none⟩ a).setCell ⟨g, 1, none⟩ b).heap[g]? = some (.cells #[a, b, v2, v3, v4] t (0, 0)) := Lib.heap_setCell_same (i := 1) h0 b
  have h2 : (((w.setCell ⟨g, 0, none⟩ a).setCell ⟨g, 1, none⟩ b).setCell ⟨g, 2, none⟩ c).heap[g]? = some (.cells #[a, b, c, v3, v4] t (0, 0)) := Lib.heap_setCell_same (i := 2) h1 c
  have h3 : ((((w.setCell ⟨g, 0, none⟩ a).setCell ⟨g, 1, none⟩ b).setCell ⟨g, 2, none⟩ c).setCell ⟨g, 3, none⟩ d).heap[g]? = some (.cells #[a, b, c, d, v4] t (0, 0)) := Lib.heap_setCell_same (i := 3) h2 d
  exact Lib.heap_setCell_same (i := 4) h3 e
theorem below_set5 {B : Nat} {w w' : World} {g : Nat} (h : Below B w w') (hB : B ≤ g) (a b c d e : Value) :
    Below B w (((((w'.setCell ⟨g, 0, none⟩ a).setCell ⟨g, 1, none⟩ b).setCell ⟨g, 2, none⟩ c).setCell ⟨g, 3, none⟩ d).setCell ⟨g, 4, none⟩ e) :=
  ((((h.setCell hB _).setCell hB _).setCell hB _).setCell hB _).setCell hB _
/-- A block of five cells that may be written. -/
structure Var5 (w : World) (g : Nat) (a b c d e : Value) (t : TypeId) : Prop where
  row : w.heap[g]? = some (.cells #[a, b, c, d, e] t (0, 0))
theorem Var5.cells {w : World} {g : Nat} {a b c d e : Value} {t : TypeId} (h : Var5 w g a b c d e t) : (w.cell? ⟨g, 0, none⟩ = some a ∧ w.cell? ⟨g, 1, none⟩ = some b ∧ w.cell? ⟨g, 2, none⟩ = some c ∧ w.cell? ⟨g, 3, none⟩ = some d ∧ w.cell? ⟨g, 4, none⟩ = some e) ∧
    (w.frozen? ⟨g, 0, none⟩ = false ∧ w.frozen? ⟨g, 1, none⟩ = false ∧ w.frozen? ⟨g, 2, none⟩ = false ∧ w.frozen? ⟨g, 3, none⟩ = false ∧ w.frozen? ⟨g, 4, none⟩ = false) :=
  ⟨⟨cell_of_row' (cur := [_, _, _, _, _]) h.row 0, cell_of_row' (cur := [_, _, _, _, _]) h.row 1, cell_of_row' (cur := [_, _, _, _, _]) h.row 2, cell_of_row' (cur := [_, _, _, _, _]) h.row 3, cell_of_row' (cur := [_, _, _, _, _]) h.row 4⟩,
   ⟨frozen_of_row' (cur := [_, _, _, _, _]) h.row 0, frozen_of_row' (cur := [_, _, _, _, _]) h.row 1, frozen_of_row' (cur := [_, _, _, _, _]) h.row 2, frozen_of_row' (cur := [_, _, _, _, _]) h.row 3, frozen_of_row' (cur := [_, _, _, _, _]) h.row 4⟩⟩

/-- No block was read, for this reason. -/
def SrBad (k : Nat) (e : Ending) : Prop := ∃ n : Int, e = .returned (.tuple #[.agg #[.int .u64 0, .int .u64 0, .int .u64 0, .string ⟨#[]⟩, .string ⟨#[]⟩], .int .i64 n, .int .u8 k])

set_option maxRecDepth 100000 in
set_option maxHeartbeats 8000000 in
theorem seRead_bad (k : Nat) (s : ByteArray) (hs : s.size ≤ 2147483647) (z : Bool) (most : Nat) (w : World)
    (HN : ∀ p v w2, Rdr w2 p v s.data.toList 0 → w.heap.size < p → Below w.heap.size w w2 → Calls Tryd.prog 63 #[rdV p, .bool z, .int .u64 most] w2 (RnBad k p v s.data.toList w2)) :
    Calls Tryd.prog 34 #[.string s, .bool z, .int .u64 most] w fun e w' => SrBad k e ∧ Below w.heap.size w w' := by
  obtain ⟨A, c, w1, hconv, hb1, hbs⟩ := conv_in' (w.alloc blkZ) s
  have hA : Below w.heap.size w (w.alloc blkZ) := (Below.refl _ _).alloc (Nat.le_refl _) _
  have hl : s.data.toList.length = s.size := by rw [Array.length_toList]; rfl
  obtain ⟨l, hll⟩ : ∃ l, l = s.data.toList := ⟨_, rfl⟩
  rw [← hll] at hbs hl HN
  have HNR := Lib.hid (newReader (.slice A s.size c) l w1 hbs (by omega))
  have hp : w.heap.size + 1 ≤ w1.heap.size := by have := hb1.size; simp at this; omega
  have hr0 := row_below hb1 (block_of_row (heap_alloc_new w blkZ)) (heap_alloc_new w blkZ)
  have HB1 := Lib.hid (below_next hA hb1)
  have HNN := Lib.hid HN
  clear hbs hl hll hb1 hA HN
  go_enter Tryd.func34, Tryd.ntmps34
  go_wp2_with fail
  refine HNR.out.mono ?_
  rintro e w2 ⟨rfl, hr, hs2, hb2⟩
  have b2 : Below w.heap.size w w2 := below_next HB1.out hb2
  have HC := Lib.hid (HNN.out _ _ w2 hr (by omega) b2)
  have hr2 := row_below hb2 (block_of_row hr0) hr0
  have B2 := Lib.hid b2
  clear hr hb2 HNR HNN b2 hr0
  generalize w1.heap.size = p at *
  go_wp2_with fail
  refine HC.out.mono ?_
  rintro e w3 ⟨us, _, rfl, ⟨⟨t, y, rfl⟩, hK⟩, ⟨j, hj⟩, hk3⟩
  have b3 : Below w.heap.size w w3 := B2.out.trans (hk3.below (fun k hk e => by omega) B2.out.size)
  have hr3 := hk3.row hr2 (fun h => by omega)
  have hbA : Below w3.heap.size w3 (w3.alloc (.cells #[.string us] 80)) := (Below.refl _ _).alloc (Nat.le_refl _) _
  obtain ⟨W3, hW3⟩ : ∃ W3, W3 = w3.alloc (.cells #[.string us] 80) := ⟨_, rfl⟩
  rw [← hW3] at hbA
  have hr4 := row_below hbA (block_of_row hr3) hr3
  have HLen := Lib.hid (rdLen p _ l j W3 (hj.keep (S := fun _ => False) hbA.keep (fun _ h => h.elim)))
  have B3 := Lib.hid (below_next b3 hbA)
  have HK := Lib.hid (fun W (hW : Below W3.heap.size W3 W) => hK W (hbA.keep.trans hW.keep))
  have HR4 := Lib.hid hr4
  rw [hW3] at HLen B3 HK HR4
  clear hW3 hr4 hr3 hbA b3 hk3 hj hK hr2 HC
  generalize l.length = N at *
  go_wp2_with fail
  refine HLen.out.mono ?_
  rintro e w4 ⟨rfl, hk4⟩
  have hb4 := hk4.below'
  have HB4 := Lib.hid (below_next B3.out hb4)
  have hr5 := row_below hb4 (block_of_row HR4.out) HR4.out
  obtain ⟨⟨k0, k1, k2, k3, k4⟩, f0, f1, f2, f3, f4⟩ := (Var5.mk hr5).cells
  have HK4 := HK.out w4 hb4
  have p4 := Lib.hid (set5 hr5 (.int .u64 0) (.int .u64 0) (.int .u64 0) (.string ⟨#[]⟩) (.string ⟨#[]⟩))
  have HF := Lib.hid (below_set5 HB4.out (Nat.le_refl _) (.int .u64 0) (.int .u64 0) (.int .u64 0) (.string ⟨#[]⟩) (.string ⟨#[]⟩))
  have HKK := Lib.hid HK4
  clear hk4 hb4 HK4 HK hr5 HLen
  go_wp2_with fail
  refine HKK.out.mono ?_
  rintro e w5 ⟨rfl, rfl⟩
  go_wp2
  refine bodyPost_ret (results_row_tmp_tmp rfl _ _ (w.heap.size) 60 #[.int .u64 0, .int .u64 0, .int .u64 0, .string ⟨#[]⟩, .string ⟨#[]⟩] (0, 0) _ rfl p4.out Tryd.underlying60 rfl (by kernel_rfl)) rfl ?_
  exact ⟨⟨_, rfl⟩, HF.out⟩

set_option maxRecDepth 100000 in
set_option maxHeartbeats 8000000 in
theorem seRead_ok (s : ByteArray) (hs : s.size ≤ 2147483647) (z : Bool) (most : Nat) (w : World) (us : ByteArray) (x : CidD) (hx : CidStr us x) (D : ByteArray) (J : Nat) (hu : CdS w) (hJ : J ≤ s.size)
    (HN : ∀ p v w2, Rdr w2 p v s.data.toList 0 → w.heap.size < p → Below w.heap.size w w2 → Calls Tryd.prog 63 #[rdV p, .bool z, .int .u64 most] w2 fun e w' => RnOk us D.data.toList e w' ∧ Rdr w' p v s.data.toList J ∧ Keep (fun k => k = p) w2 w') :
    Calls Tryd.prog 34 #[.string s, .bool z, .int .u64 most] w fun e w' => e = .returned (.tuple #[.agg #[.int .u64 x.ver, .int .u64 x.codec, .int .u64 x.code, .string ⟨x.dig.toArray⟩, .string D], .int .i64 J, .int .u8 0]) ∧ Below w.heap.size w w' := by
  obtain ⟨A, c, w1, hconv, hb1, hbs⟩ := conv_in' (w.alloc blkZ) s
  have hA : Below w.heap.size w (w.alloc blkZ) := (Below.refl _ _).alloc (Nat.le_refl _) _
  have hl : s.data.toList.length = s.size := by rw [Array.length_toList]; rfl
  obtain ⟨l, hll⟩ : ∃ l, l = s.data.toList := ⟨_, rfl⟩
  rw [← hll] at hbs hl HN
  have HNR := Lib.hid (newReader (.slice A s.size c) l w1 hbs (by omega))
  have hp : w.heap.size + 1 ≤ w1.heap.size := by have := hb1.size; simp at this; omega
  have hr0 := row_below hb1 (block_of_row (heap_alloc_new w blkZ)) (heap_alloc_new w blkZ)
  have HB1 := Lib.hid (below_next hA hb1)
  have HNN := Lib.hid HN
  have HU := Lib.hid hu
  have HX := Lib.hid hx
  have HL := Lib.hid hl
  clear hbs hl hll hb1 hA HN hu hx
  go_enter Tryd.func34, Tryd.ntmps34
  go_wp2_with fail
  refine HNR.out.mono ?_
  rintro e w2 ⟨rfl, hr, hs2, hb2⟩
  have b2 : Below w.heap.size w w2 := below_next HB1.out hb2
  have HC := Lib.hid (HNN.out _ _ w2 hr (by omega) b2)
  have hr2 := row_below hb2 (block_of_row hr0) hr0
  have B2 := Lib.hid b2
  clear hr hb2 HNR HNN b2 hr0
  generalize w1.heap.size = p at *
  go_wp2_with fail
  refine HC.out.mono ?_
  rintro e w3 ⟨⟨A3, c3, rfl, hbs3⟩, hj, hk3⟩
  have b3 : Below w.heap.size w w3 := B2.out.trans (hk3.below (fun k hk e => by omega) B2.out.size)
  have hr3 := hk3.row hr2 (fun h => by omega)
  have hbA0 : Below w3.heap.size w3 (w3.alloc (.cells #[.string us] 80)) := (Below.refl _ _).alloc (Nat.le_refl _) _
  obtain ⟨W3, hW3⟩ : ∃ W3, W3 = (w3.alloc (.cells #[.string us] 80)).drew := ⟨_, rfl⟩
  have hbA : Below w3.heap.size w3 W3 := hW3 ▸ below_next hbA0 (below_drewN _ _ 1)
  have hr4 := row_below hbA (block_of_row hr3) hr3
  have hB3 := below_next b3 hbA
  have hc0 : W3.cell? ⟨w3.heap.size, 0, none⟩ = some (.string us) := by rw [hW3]; exact cell_of_row' (cur := [_]) (heap_alloc_new w3 _) 0
  have h0 : Below W3.heap.size W3 W3 := Below.refl _ _
  have HOut := fun W (h : Below W3.heap.size W3 W) => Lib.hid (cidOut_ok us x HX.out W ((HU.out.below hB3).below h).toUvS)
  have HLen := fun W (h : Below W3.heap.size W3 W) => Lib.hid (rdLen p _ l J W ((hj.keep (S := fun _ => False) hbA.keep (fun _ h => h.elim)).below h))
  have hcv : ∀ W, Below W3.heap.size W3 W → (convert 43 9 (.slice A3 D.data.toList.length c3)).run Tryd.prog W = .ok (.string D) W := fun W hW => by
    have := ((hbs3.below hbA).below hW).str (dst := 9) Tryd.underlying43 Tryd.underlying5 Tryd.underlying9
    rw [ba_mk] at this
    exact this
  have hcs : ∀ W, Below W3.heap.size W3 W → W.cell? ⟨w3.heap.size, 0, none⟩ = some (.string us) := fun W hW => below_cell hW hc0
  have B3 := Lib.hid hB3
  have HR4 := Lib.hid hr4
  have j0 := hcv _ h0
  have j1 := hcs _ h0
  rw [HL.out] at HLen
  obtain ⟨v0, hv0⟩ : ∃ v0 : Int, v0 = x.ver := ⟨_, rfl⟩
  obtain ⟨v1, hv1⟩ : ∃ v1 : Int, v1 = x.codec := ⟨_, rfl⟩
  obtain ⟨v2, hv2⟩ : ∃ v2 : Int, v2 = x.code := ⟨_, rfl⟩
  obtain ⟨v3, hv3⟩ : ∃ v3 : ByteArray, v3 = ⟨x.dig.toArray⟩ := ⟨_, rfl⟩
  rw [← hv0, ← hv1, ← hv2, ← hv3] at HOut
  have HV0 := Lib.hid hv0
  have HV1 := Lib.hid hv1
  have HV2 := Lib.hid hv2
  have HV3 := Lib.hid hv3
  have HWW := Lib.hid hW3
  obtain ⟨nD, hnD⟩ : ∃ n, n = D.data.toList.length := ⟨_, rfl⟩
  rw [← hnD] at hcv j0 ⊢
  have hcell : ∀ W, Below W3.heap.size W3 W → (Var5 W w.heap.size (.int .u64 0) (.int .u64 0) (.int .u64 0) (.string ⟨#[]⟩) (.string ⟨#[]⟩) 60) := fun W hW => ⟨row_below hW (block_of_row HR4.out) HR4.out⟩
  obtain ⟨⟨k0, k1, k2, k3, k4⟩, f0, f1, f2, f3, f4⟩ := (hcell _ h0).cells
  rw [hW3] at j0 j1 k0 k1 k2 k3 k4 f0 f1 f2 f3 f4
  have HCV := Lib.hid hcv
  have HCS := Lib.hid hcs
  have HCE := Lib.hid hcell
  have H0 := Lib.hid h0
  clear hr4 hr3 hbA b3 hk3 hj hr2 HC hB3 hbA0 hbs3 hv0 hv1 hv2 hv3 hnD hW3 hcv hcs hcell h0 hc0 hconv
  go_wp2_with fail
  go_region_with (first
    | (go_at_call 60; (with_reducible refine (HOut _ (by first | exact h5.out | (rw [← HWW.out]; exact H0.out))).out.mono ?_); rintro e w4 ⟨rfl, hb4⟩; have h4 := Lib.hid (below_next (w := W3) (by first | exact h5.out | (rw [← HWW.out] at hb4 ⊢; exact H0.out)) hb4); (try clear hF); have hF := Lib.hid h4.out; have q0 := HCV.out _ h4.out; have q1 := HCS.out _ h4.out; obtain ⟨⟨m0, m1, m2, m3, m4⟩, g0, g1, g2, g3, g4⟩ := (HCE.out _ h4.out).cells; clear hb4)
    | (go_at_call 51; (with_reducible refine (HLen _ (by first | exact h4.out | (rw [← HWW.out]; exact H0.out))).out.mono ?_); rintro e w5 ⟨rfl, hk5⟩; have h5 := Lib.hid (below_next (w := W3) (by first | exact h4.out | (rw [← HWW.out] at hk5 ⊢; exact H0.out)) hk5.below'); (try clear hF); have hF := Lib.hid h5.out; have q2 := HCV.out _ h5.out; have q3 := HCS.out _ h5.out; obtain ⟨⟨n0, n1, n2, n3, n4⟩, e0, e1, e2, e3, e4⟩ := (HCE.out _ h5.out).cells; clear hk5))
  all_goals
    clear HLen HOut j0 j1 k0 k1 k2 k3 k4 f0 f1 f2 f3 f4 HCV HCS q0 q1 q2 q3 m0 m1 m2 m3 m4 g0 g1 g2 g3 g4 n0 n1 n2 n3 n4 e0 e1 e2 e3 e4
    have p4 := Lib.hid (set5 (HCE.out _ hF.out).row (.int .u64 v0) (.int .u64 v1) (.int .u64 v2) (.string v3) (.string D))
    have HF := Lib.hid (below_set5 (below_next B3.out hF.out) (Nat.le_refl _) (.int .u64 v0) (.int .u64 v1) (.int .u64 v2) (.string v3) (.string D))
    go_wp2
    refine bodyPost_ret (results_row_tmp_tmp rfl _ _ (w.heap.size) 60 #[.int .u64 v0, .int .u64 v1, .int .u64 v2, .string v3, .string D] (0, 0) _ rfl p4.out Tryd.underlying60 rfl (by kernel_rfl)) rfl ?_
    exact ⟨by show Ending.returned (.tuple #[.agg #[.int .u64 v0, .int .u64 v1, .int .u64 v2, .string v3, .string D], .int .i64 (IntKind.i64.wrap ((s.size : Int) - ((s.size : Int) - (J : Int)))), .int .u8 0]) = _; rw [show IntKind.i64.wrap ((s.size : Int) - ((s.size : Int) - (J : Int))) = J by rw [IntWalk.i64_in _ (by omega)]; omega, HV0.out, HV1.out, HV2.out, HV3.out], HF.out⟩
end Go.Proofs.YthfgnhgijgjggaaDoor
/- Contract: spec.ReadBlock, as far as whether it leaves the text out. -/
namespace Go.Proofs.YthfgnhgijgjggaaDoor
open Go.RowKit

section
variable {P : Program}
/-- Two results, both structs in blocks that are known whole. -/
theorem results_two_rows {fn : Func} {p q : Tmp} {ty ty2 : TypeId} (h : fn.results = #[.cell p ty, .cell q ty2]) (tmps : Array Value) (w : World) (g g2 : Nat) (t t2 : TypeId) (cs cs2 : Array Value) (fr fr2 : Nat × Nat) (d d2 : TypeDesc)
    (hp : tmps.getD p undef = .pointer (some ⟨g, 0, none⟩)) (hg : w.heap[g]? = some (.cells cs t fr)) (hq : tmps.getD q undef = .pointer (some ⟨g2, 0, none⟩)) (hg2 : w.heap[g2]? = some (.cells cs2 t2 fr2))
    (hu : P.underlying ty = some d) (hd : (match d with | .struct _ | .array _ _ => true | _ => false) = true) (hi : (P.info? ty).map (·.size) = some cs.size)
    (hu2 : P.underlying ty2 = some d2) (hd2 : (match d2 with | .struct _ | .array _ _ => true | _ => false) = true) (hi2 : (P.info? ty2).map (·.size) = some cs2.size) :
    (results fn tmps).run P w = .ok (.tuple #[.agg cs, .agg cs2]) w := by
  have hp' : tmps[p]?.getD undef = .pointer (some ⟨g, 0, none⟩) := by simpa using hp
  have hq' : tmps[q]?.getD undef = .pointer (some ⟨g2, 0, none⟩) := by simpa using hq
  simp only [results, h]
  simp [Result.andThen, hp', hq', asAddr, run_loadVar_row w g t ty cs fr d hg hu hd hi, run_loadVar_row w g2 t2 ty2 cs2 fr2 d2 hg2 hu2 hd2 hi2]
end

/-- What ReadBlock says: some block; some length that bears whether the text is left out. -/
def RbSays (left : Bool) (e : Ending) : Prop := ∃ (a0 a1 a2 n : Int) (k : Nat) (s3 s4 b : ByteArray), e = .returned (.tuple #[.agg #[.int .u64 a0, .int .u64 a1, .int .u64 a2, .string s3, .string s4], .agg #[.string b, .int .i64 n, .int .u8 k, .bool left]])

/-- The world when ReadLong has returned. -/
structure RbAt (w w1 : World) : Prop where
  below : Below w.heap.size w w1
  blk : w1.heap[w.heap.size]? = some blkZ
  lg : w1.heap[w.heap.size + 1]? = some lgZ
theorem rbAt {w w1 : World} (hb : Below ((w.alloc blkZ).alloc lgZ).heap.size ((w.alloc blkZ).alloc lgZ) w1) : RbAt w w1 := by
  have h1 : Below w.heap.size w ((w.alloc blkZ).alloc lgZ) := ((Below.refl _ w).alloc (Nat.le_refl _) _).alloc (by simp) _
  have r0 := row_alloc (heap_alloc_new w blkZ) lgZ
  have r1 := heap_alloc_new (w.alloc blkZ) lgZ
  rw [World.size_alloc] at r1
  exact ⟨below_next h1 hb, row_below hb (block_of_row r0) r0, row_below hb (block_of_row r1) r1⟩
/-- .. and the variable for what it returned was made. -/
theorem RbAt.alloc {w w1 : World} (h : RbAt w w1) (o : Obj) : RbAt w (w1.alloc o) :=
  ⟨h.below.alloc h.below.size _, row_alloc h.blk o, row_alloc h.lg o⟩
theorem RbAt.next {w w1 w2 : World} (h : RbAt w w1) (hb : Below w1.heap.size w1 w2) : RbAt w w2 :=
  ⟨below_next h.below hb, row_below hb (block_of_row h.blk) h.blk, row_below hb (block_of_row h.lg) h.lg⟩

theorem row_drew {w : World} {g : Nat} {o : Obj} (h : w.heap[g]? = some o) : w.drew.heap[g]? = some o := h
theorem far5 {w : World} {g q : Nat} {o : Obj} (h : w.heap[q]? = some o) (hne : q ≠ g) (a b c d e : Value) : (((((w.setCell ⟨g, 0, none⟩ a).setCell ⟨g, 1, none⟩ b).setCell ⟨g, 2, none⟩ c).setCell ⟨g, 3, none⟩ d).setCell ⟨g, 4, none⟩ e).heap[q]? = some o :=
  ((((((Keep.refl (fun k => k = g) w).setCell rfl _ _).setCell rfl _ _).setCell rfl _ _).setCell rfl _ _).setCell rfl _ _).row h hne
theorem far4 {w : World} {g q : Nat} {o : Obj} (h : w.heap[q]? = some o) (hne : q ≠ g) (a b c d : Value) : ((((w.setCell ⟨g, 0, none⟩ a).setCell ⟨g, 1, none⟩ b).setCell ⟨g, 2, none⟩ c).setCell ⟨g, 3, none⟩ d).heap[q]? = some o :=
  (((((Keep.refl (fun k => k = g) w).setCell rfl _ _).setCell rfl _ _).setCell rfl _ _).setCell rfl _ _).row h hne

set_option maxRecDepth 100000 in
set_option maxHeartbeats 8000000 in
theorem rb_bad (s : ByteArray) (w : World) (z : Bool) (most : Nat) (b : ByteArray) (n : Int) (k : Nat) (hk : 0 < k)
    (hL : Calls Tryd.prog 61 #[.string s, .bool z, .int .u64 most] ((w.alloc blkZ).alloc lgZ) fun e w' => e = .returned (.agg #[.string b, .int .i64 n, .int .u8 k, .bool false]) ∧ Below ((w.alloc blkZ).alloc lgZ).heap.size ((w.alloc blkZ).alloc lgZ) w') :
    Calls Tryd.prog 33 #[.string s, .bool z, .int .u64 most] w fun e w' => RbSays false e ∧ Below w.heap.size w w' := by
  have HL := Lib.hid hL
  clear hL
  have hkb : ((k : Int) != 0) = true := by simp; omega
  go_enter Tryd.func33, Tryd.ntmps33
  go_wp2_with fail
  refine HL.out.mono ?_
  rintro e w1 ⟨rfl, hb⟩
  have hA := (rbAt hb).alloc (.cells #[.string b, .int .i64 n, .int .u8 k, .bool false] 62)
  have hr := heap_alloc_new w1 (.cells #[.string b, .int .i64 n, .int .u8 k, .bool false] 62)
  obtain ⟨⟨j0, j1, j2, j3⟩, y0, y1, y2, y3⟩ := (Var4.mk hr).cells
  have hs1 : w.heap.size ≠ w.heap.size + 1 := by omega
  have hs2 : w1.heap.size ≠ w.heap.size := by have := (rbAt hb).below.size; have := block_of_row (rbAt hb).lg; omega
  have hs3 : w1.heap.size ≠ w.heap.size + 1 := by have := block_of_row (rbAt hb).lg; omega
  have hs4 := hs2.symm
  have hs5 := hs3.symm
  obtain ⟨⟨k0, k1, k2, k3, k4⟩, f0, f1, f2, f3, f4⟩ := (Var5.mk hA.blk).cells
  obtain ⟨⟨l0, l1, l2, l3⟩, e0, e1, e2, e3⟩ := (Var4.mk hA.lg).cells
  have P5 := Lib.hid (row_drew (far4 (set5 hA.blk (.int .u64 0) (.int .u64 0) (.int .u64 0) (.string ⟨#[]⟩) (.string ⟨#[]⟩)) hs1 (.string b) (.int .i64 n) (.int .u8 k) (.bool false)))
  have P4 := Lib.hid (row_drew (set4 (far5 hA.lg hs1.symm (.int .u64 0) (.int .u64 0) (.int .u64 0) (.string ⟨#[]⟩) (.string ⟨#[]⟩)) (.string b) (.int .i64 n) (.int .u8 k) (.bool false)))
  have HF := Lib.hid (below_set4 (below_set5 hA.below (Nat.le_refl _) (.int .u64 0) (.int .u64 0) (.int .u64 0) (.string ⟨#[]⟩) (.string ⟨#[]⟩)) (Nat.le_succ _) (.string b) (.int .i64 n) (.int .u8 k) (.bool false))
  clear hA hr hb HL
  go_wp2_with fail
  go_region
  go_wp2
  refine bodyPost_ret (results_two_rows rfl _ _ w.heap.size (w.heap.size + 1) 60 62 #[.int .u64 0, .int .u64 0, .int .u64 0, .string ⟨#[]⟩, .string ⟨#[]⟩] #[.string b, .int .i64 n, .int .u8 k, .bool false] (0, 0) (0, 0) _ _ rfl P5.out rfl P4.out Tryd.underlying60 rfl (by kernel_rfl) Tryd.underlying62 rfl (by kernel_rfl)) rfl ?_
  exact ⟨⟨_, _, _, _, _, _, _, _, rfl⟩, HF.out.drewN 1⟩

set_option maxRecDepth 100000 in
set_option maxHeartbeats 8000000 in
theorem rb_left (s : ByteArray) (w : World) (z : Bool) (most : Nat) (b : ByteArray) (n : Int)
    (hL : Calls Tryd.prog 61 #[.string s, .bool z, .int .u64 most] ((w.alloc blkZ).alloc lgZ) fun e w' => e = .returned (.agg #[.string b, .int .i64 n, .int .u8 0, .bool true]) ∧ Below ((w.alloc blkZ).alloc lgZ).heap.size ((w.alloc blkZ).alloc lgZ) w') :
    Calls Tryd.prog 33 #[.string s, .bool z, .int .u64 most] w fun e w' => RbSays true e ∧ Below w.heap.size w w' := by
  have HL := Lib.hid hL
  clear hL
  go_enter Tryd.func33, Tryd.ntmps33
  go_wp2_with fail
  refine HL.out.mono ?_
  rintro e w1 ⟨rfl, hb⟩
  have hA := (rbAt hb).alloc (.cells #[.string b, .int .i64 n, .int .u8 0, .bool true] 62)
  have hr := heap_alloc_new w1 (.cells #[.string b, .int .i64 n, .int .u8 0, .bool true] 62)
  obtain ⟨⟨j0, j1, j2, j3⟩, y0, y1, y2, y3⟩ := (Var4.mk hr).cells
  have hs1 : w.heap.size ≠ w.heap.size + 1 := by omega
  have hs2 : w1.heap.size ≠ w.heap.size := by have := (rbAt hb).below.size; have := block_of_row (rbAt hb).lg; omega
  have hs3 : w1.heap.size ≠ w.heap.size + 1 := by have := block_of_row (rbAt hb).lg; omega
  have hs4 := hs2.symm
  have hs5 := hs3.symm
  obtain ⟨⟨k0, k1, k2, k3, k4⟩, f0, f1, f2, f3, f4⟩ := (Var5.mk hA.blk).cells
  obtain ⟨⟨l0, l1, l2, l3⟩, e0, e1, e2, e3⟩ := (Var4.mk hA.lg).cells
  have P5 := Lib.hid (row_drew (far4 (set5 hA.blk (.int .u64 0) (.int .u64 0) (.int .u64 0) (.string ⟨#[]⟩) (.string ⟨#[]⟩)) hs1 (.string b) (.int .i64 n) (.int .u8 0) (.bool true)))
  have P4 := Lib.hid (row_drew (set4 (far5 hA.lg hs1.symm (.int .u64 0) (.int .u64 0) (.int .u64 0) (.string ⟨#[]⟩) (.string ⟨#[]⟩)) (.string b) (.int .i64 n) (.int .u8 0) (.bool true)))
  have HF := Lib.hid (below_set4 (below_set5 hA.below (Nat.le_refl _) (.int .u64 0) (.int .u64 0) (.int .u64 0) (.string ⟨#[]⟩) (.string ⟨#[]⟩)) (Nat.le_succ _) (.string b) (.int .i64 n) (.int .u8 0) (.bool true))
  clear hA hr hb HL
  go_wp2_with fail
  go_region
  go_wp2
  refine bodyPost_ret (results_two_rows rfl _ _ w.heap.size (w.heap.size + 1) 60 62 #[.int .u64 0, .int .u64 0, .int .u64 0, .string ⟨#[]⟩, .string ⟨#[]⟩] #[.string b, .int .i64 n, .int .u8 0, .bool true] (0, 0) (0, 0) _ _ rfl P5.out rfl P4.out Tryd.underlying60 rfl (by kernel_rfl) Tryd.underlying62 rfl (by kernel_rfl)) rfl ?_
  exact ⟨⟨_, _, _, _, _, _, _, _, rfl⟩, HF.out.drewN 1⟩

set_option maxRecDepth 100000 in
set_option maxHeartbeats 8000000 in
theorem rb_noCid (s : ByteArray) (w : World) (z : Bool) (most : Nat) (b : ByteArray) (n : Int) (hbz : b.size ≤ 2147483600) (hd : cidRd b.data.toList = none)
    (hL : Calls Tryd.prog 61 #[.string s, .bool z, .int .u64 most] ((w.alloc blkZ).alloc lgZ) fun e w' => e = .returned (.agg #[.string b, .int .i64 n, .int .u8 0, .bool false]) ∧ Below ((w.alloc blkZ).alloc lgZ).heap.size ((w.alloc blkZ).alloc lgZ) w') :
    Calls Tryd.prog 33 #[.string s, .bool z, .int .u64 most] w fun e w' => RbSays false e ∧ Below w.heap.size w w' := by
  have HL := Lib.hid hL
  clear hL
  have HR := fun W => Lib.hid (readCid_any b W hbz)
  rw [hd] at HR
  unfold rdSpec at HR
  dsimp only at HR
  clear hd
  go_enter Tryd.func33, Tryd.ntmps33
  go_wp2_with fail
  refine HL.out.mono ?_
  rintro e w1 ⟨rfl, hb⟩
  have hA := (rbAt hb).alloc (.cells #[.string b, .int .i64 n, .int .u8 0, .bool false] 62)
  have hr := heap_alloc_new w1 (.cells #[.string b, .int .i64 n, .int .u8 0, .bool false] 62)
  obtain ⟨⟨j0, j1, j2, j3⟩, y0, y1, y2, y3⟩ := (Var4.mk hr).cells
  have hs1 : w.heap.size ≠ w.heap.size + 1 := by omega
  have hs2 : w1.heap.size ≠ w.heap.size := by have := (rbAt hb).below.size; have := block_of_row (rbAt hb).lg; omega
  have hs3 : w1.heap.size ≠ w.heap.size + 1 := by have := block_of_row (rbAt hb).lg; omega
  have hs4 := hs2.symm
  have hs5 := hs3.symm
  have HA := Lib.hid hA
  have HRR := Lib.hid hr
  clear hA hr hb HL
  go_wp2_with fail
  refine (HR _).out.mono ?_
  rintro e w2 ⟨rfl, hb2⟩
  have hB := (HA.out.next hb2).alloc (.cells #[.int .u64 0, .int .u64 0, .int .u64 0, .string ⟨#[]⟩] 26)
  have hr2 := row_alloc (row_below hb2 (block_of_row HRR.out) HRR.out) (.cells #[.int .u64 0, .int .u64 0, .int .u64 0, .string ⟨#[]⟩] 26)
  have hr3 : ((w2.alloc (.cells #[.int .u64 0, .int .u64 0, .int .u64 0, .string ⟨#[]⟩] 26)).setCell ⟨w1.heap.size, 2, none⟩ (.int .u8 2)).heap[w1.heap.size]? = some (.cells #[.string b, .int .i64 n, .int .u8 2, .bool false] 62 (0, 0)) := Lib.heap_setCell_same (i := 2) hr2 _
  have hC : RbAt w ((w2.alloc (.cells #[.int .u64 0, .int .u64 0, .int .u64 0, .string ⟨#[]⟩] 26)).setCell ⟨w1.heap.size, 2, none⟩ (.int .u8 2)) :=
    ⟨hB.below.setCell (by show w.heap.size ≤ w1.heap.size; have := block_of_row HA.out.lg; simp at this; omega) _, (Keep.setCell (S := fun k => k = w1.heap.size) (Keep.refl _ _) rfl _ _).row hB.blk hs4, (Keep.setCell (S := fun k => k = w1.heap.size) (Keep.refl _ _) rfl _ _).row hB.lg hs5⟩
  obtain ⟨⟨q0, q1, q2, q3⟩, g0, g1, g2, g3⟩ := (Var4.mk hr2).cells
  obtain ⟨⟨m0, m1, m2, m3⟩, _⟩ := (Var4.mk hr3).cells
  obtain ⟨⟨k0, k1, k2, k3, k4⟩, f0, f1, f2, f3, f4⟩ := (Var5.mk hC.blk).cells
  obtain ⟨⟨l0, l1, l2, l3⟩, e0, e1, e2, e3⟩ := (Var4.mk hC.lg).cells
  have P5 := Lib.hid (row_drew (far4 (set5 hC.blk (.int .u64 0) (.int .u64 0) (.int .u64 0) (.string ⟨#[]⟩) (.string ⟨#[]⟩)) hs1 (.string b) (.int .i64 n) (.int .u8 2) (.bool false)))
  have P4 := Lib.hid (row_drew (set4 (far5 hC.lg hs1.symm (.int .u64 0) (.int .u64 0) (.int .u64 0) (.string ⟨#[]⟩) (.string ⟨#[]⟩)) (.string b) (.int .i64 n) (.int .u8 2) (.bool false)))
  have HF := Lib.hid (below_set4 (below_set5 hC.below (Nat.le_refl _) (.int .u64 0) (.int .u64 0) (.int .u64 0) (.string ⟨#[]⟩) (.string ⟨#[]⟩)) (Nat.le_succ _) (.string b) (.int .i64 n) (.int .u8 2) (.bool false))
  clear hB hr2 hr3 hC hb2 HA HRR HR j0 j1 j2 j3 y0 y1 y2 y3
  go_wp2_with fail
  go_region
  go_wp2
  refine bodyPost_ret (results_two_rows rfl _ _ w.heap.size (w.heap.size + 1) 60 62 #[.int .u64 0, .int .u64 0, .int .u64 0, .string ⟨#[]⟩, .string ⟨#[]⟩] #[.string b, .int .i64 n, .int .u8 2, .bool false] (0, 0) (0, 0) _ _ rfl P5.out rfl P4.out Tryd.underlying60 rfl (by kernel_rfl) Tryd.underlying62 rfl (by kernel_rfl)) rfl ?_
  exact ⟨⟨_, _, _, _, _, _, _, _, rfl⟩, HF.out.drewN 1⟩

set_option maxRecDepth 100000 in
set_option maxHeartbeats 8000000 in
theorem rb_cid (s : ByteArray) (w : World) (z : Bool) (most : Nat) (b : ByteArray) (n : Int) (hbz : b.size ≤ 2147483600) (c : CidD) (k : Nat) (hd : cidRd b.data.toList = some (c, k))
    (hL : Calls Tryd.prog 61 #[.string s, .bool z, .int .u64 most] ((w.alloc blkZ).alloc lgZ) fun e w' => e = .returned (.agg #[.string b, .int .i64 n, .int .u8 0, .bool false]) ∧ Below ((w.alloc blkZ).alloc lgZ).heap.size ((w.alloc blkZ).alloc lgZ) w') :
    Calls Tryd.prog 33 #[.string s, .bool z, .int .u64 most] w fun e w' => RbSays false e ∧ Below w.heap.size w w' := by
  have HL := Lib.hid hL
  clear hL
  have HR := fun W => Lib.hid (readCid_any b W hbz)
  rw [hd] at HR
  unfold rdSpec cidVal at HR
  dsimp only at HR
  have hkb : k ≤ b.size := by have := (cidRd_take hd).1; rw [ba_len] at this; exact this
  have TT := fun W => run_str_from (P := Tryd.prog) Tryd.underlying9 b k hkb k rfl W
  obtain ⟨v0, hv0⟩ : ∃ v0 : Int, v0 = c.ver := ⟨_, rfl⟩
  obtain ⟨v1, hv1⟩ : ∃ v1 : Int, v1 = c.codec := ⟨_, rfl⟩
  obtain ⟨v2, hv2⟩ : ∃ v2 : Int, v2 = c.code := ⟨_, rfl⟩
  obtain ⟨v3, hv3⟩ : ∃ v3 : ByteArray, v3 = ⟨c.dig.toArray⟩ := ⟨_, rfl⟩
  obtain ⟨D, hD⟩ : ∃ D : ByteArray, D = ⟨(b.data.toList.drop k).toArray⟩ := ⟨_, rfl⟩
  rw [← hv0, ← hv1, ← hv2, ← hv3] at HR
  rw [← hD] at TT
  clear hd hv0 hv1 hv2 hv3 hD hbz
  go_enter Tryd.func33, Tryd.ntmps33
  go_wp2_with fail
  refine HL.out.mono ?_
  rintro e w1 ⟨rfl, hb⟩
  have hA := (rbAt hb).alloc (.cells #[.string b, .int .i64 n, .int .u8 0, .bool false] 62)
  have hr := heap_alloc_new w1 (.cells #[.string b, .int .i64 n, .int .u8 0, .bool false] 62)
  obtain ⟨⟨j0, j1, j2, j3⟩, y0, y1, y2, y3⟩ := (Var4.mk hr).cells
  have hs1 : w.heap.size ≠ w.heap.size + 1 := by omega
  have hs2 : w1.heap.size ≠ w.heap.size := by have := (rbAt hb).below.size; have := block_of_row (rbAt hb).lg; omega
  have hs3 : w1.heap.size ≠ w.heap.size + 1 := by have := block_of_row (rbAt hb).lg; omega
  have hs4 := hs2.symm
  have hs5 := hs3.symm
  have HA := Lib.hid hA
  have HRR := Lib.hid hr
  clear hA hr hb HL
  go_wp2_with fail
  refine (HR _).out.mono ?_
  rintro e w2 ⟨rfl, hb2⟩
  have hC := (HA.out.next hb2).alloc (.cells #[.int .u64 v0, .int .u64 v1, .int .u64 v2, .string v3] 26)
  have hr2 := row_alloc (row_below hb2 (block_of_row HRR.out) HRR.out) (.cells #[.int .u64 v0, .int .u64 v1, .int .u64 v2, .string v3] 26)
  have hr3 := heap_alloc_new w2 (.cells #[.int .u64 v0, .int .u64 v1, .int .u64 v2, .string v3] 26)
  have hs6 : w2.heap.size ≠ w.heap.size := by have := block_of_row (HA.out.next hb2).blk; omega
  have hs7 : w2.heap.size ≠ w.heap.size + 1 := by have := block_of_row (HA.out.next hb2).lg; omega
  have hs8 := hs6.symm
  have hs9 := hs7.symm
  obtain ⟨⟨q0, q1, q2, q3⟩, _⟩ := (Var4.mk hr2).cells
  obtain ⟨⟨m0, m1, m2, m3⟩, _⟩ := (Var4.mk hr3).cells
  obtain ⟨⟨k0, k1, k2, k3, k4⟩, f0, f1, f2, f3, f4⟩ := (Var5.mk hC.blk).cells
  obtain ⟨⟨l0, l1, l2, l3⟩, e0, e1, e2, e3⟩ := (Var4.mk hC.lg).cells
  have P5 := Lib.hid (row_drew (far4 (set5 hC.blk (.int .u64 v0) (.int .u64 v1) (.int .u64 v2) (.string v3) (.string D)) hs1 (.string b) (.int .i64 n) (.int .u8 0) (.bool false)))
  have P4 := Lib.hid (row_drew (set4 (far5 hC.lg hs1.symm (.int .u64 v0) (.int .u64 v1) (.int .u64 v2) (.string v3) (.string D)) (.string b) (.int .i64 n) (.int .u8 0) (.bool false)))
  have HF := Lib.hid (below_set4 (below_set5 hC.below (Nat.le_refl _) (.int .u64 v0) (.int .u64 v1) (.int .u64 v2) (.string v3) (.string D)) (Nat.le_succ _) (.string b) (.int .i64 n) (.int .u8 0) (.bool false))
  clear hr2 hr3 hC hb2 HA HRR HR j0 j1 j2 j3 y0 y1 y2 y3
  go_wp2_with fail
  go_region
  all_goals
    go_wp2
    refine bodyPost_ret (results_two_rows rfl _ _ w.heap.size (w.heap.size + 1) 60 62 #[.int .u64 v0, .int .u64 v1, .int .u64 v2, .string v3, .string D] #[.string b, .int .i64 n, .int .u8 0, .bool false] (0, 0) (0, 0) _ _ rfl P5.out rfl P4.out Tryd.underlying60 rfl (by kernel_rfl) Tryd.underlying62 rfl (by kernel_rfl)) rfl ?_
    exact ⟨⟨_, _, _, _, _, _, _, _, rfl⟩, HF.out.drewN 1⟩
end Go.Proofs.YthfgnhgijgjggaaDoor
/- Contract: the first Write to a bytes.Buffer. -/
namespace Go.Proofs.YthfgnhgijgjggaaDoor
open Go.RowKit

set_option maxRecDepth 100000 in
set_option maxHeartbeats 8000000 in
theorem bufWrite_nil (b : Nat) (cs : List Value) (ad : Addr) (n c : Nat) (w : World) (h : BufNil w b) (hn0 : 1 ≤ n) (h64 : n ≤ 64)
    (hn : cs.length = n) (hab : ad.block ≠ b) (hsrc : ∀ j v, cs[j]? = some v → w.cell? (ad.add j) = some v) (h1c : ∀ v ∈ cs, v.oneCell' = true) :
    Calls Tryd.prog 146 #[.pointer (some ⟨b, 0, none⟩), .slice (some ad) n c] w fun e w' => e = .returned (.tuple #[.int .i64 n, .nilIface]) ∧ BufRow w' w.heap.size b cs ∧ Keep (fun k => k = b) w w' := by
  obtain ⟨lr, hbk⟩ := h
  have hbw := block_of_row hbk
  have hbk1 := bufSet3c hbk (.int .i8 0)
  have hk1 : Keep (fun k => k = b) w (w.setCell ⟨b, 2, none⟩ (.int .i8 0)) := Keep.setCell (S := fun k => k = b) (Keep.refl _ _) rfl _ _
  have c2 : w.cell? ⟨b, 2, none⟩ = some (.int .i8 lr) := by rw [Lib.cell_of_heap hbk]; rfl
  have f2 : w.frozen? ⟨b, 2, none⟩ = false := Lib.frozen_of_heap hbk 2
  have hws1 : (w.setCell ⟨b, 2, none⟩ (.int .i8 0)).heap.size = w.heap.size := by simp [World.setCell]
  obtain ⟨w1, hw1⟩ : ∃ w1, w1 = w.setCell ⟨b, 2, none⟩ (.int .i8 0) := ⟨_, rfl⟩
  rw [← hw1] at hbk1 hk1 hws1
  have c0 : w1.cell? ⟨b, 0, none⟩ = some (.slice none 0 0) := by rw [Lib.cell_of_heap hbk1]; rfl
  have HT := Lib.hid (Tryd.Buffer_tryGrow_none b none 0 0 n w1 c0 (Nat.le_refl _) (Nat.zero_le _) (by omega))
  have HGR := Lib.hid (bufGrow_nil b n 0 w1 hbk1 hn0 h64)
  have hsrc1 : ∀ j v, cs[j]? = some v → w1.cell? (ad.add j) = some v := fun j v hj => hk1.cell (hsrc j v hj) (by rw [Lib.block_add]; exact hab)
  have HS1 := Lib.hid hsrc1
  have HK1 := Lib.hid hk1
  have HWS := Lib.hid hws1
  have HN := Lib.hid hn
  have H1C := Lib.hid h1c
  rw [hw1] at HT
  clear hsrc hsrc1 hk1 hn h1c hbk hbk1 c0 hws1
  go_enter Tryd.func146, Tryd.ntmps146
  go_wp2_with (go_at_call 148; with_reducible refine HT.out.mono ?_; rintro e w' ⟨rfl, rfl⟩)
  rw [← hw1]
  clear hw1
  refine HGR.out.mono ?_
  rintro e w3 ⟨rfl, hat, hkg⟩
  obtain ⟨g, cap, cur, lr, hbk3, hgN, hgb, hg3, hlc, hcm, hcs, htk⟩ := hat
  have hn := HN.out
  have h1c := H1C.out
  have hk3 : Keep (fun k => k = b) w w3 := HK1.out.trans hkg
  have hsrc3 : ∀ j v, cs[j]? = some v → w3.cell? (ad.add j) = some v := fun j v hj => hkg.cell (HS1.out j v hj) (by rw [Lib.block_add]; exact hab)
  have hgN2 : w.heap.size ≤ g := by have := HWS.out; omega
  rw [List.length_nil, Nat.zero_add] at hbk3 hlc
  have d0 : w3.cell? ⟨b, 0, none⟩ = some (.slice (some ⟨g, 0, none⟩) n cap) := by rw [Lib.cell_of_heap hbk3]; rfl
  have hcm' := hcm
  unfold maxLen at hcm'
  have hsl : ∀ W, (Instr.slice 43 (.slice (some ⟨g, 0, none⟩) n cap) (some (.int .i64 0)) none none).run Tryd.prog W = .ok (.slice (cutA (some ⟨g, 0, none⟩) cap 0) n cap) W := fun W => run_from (P := Tryd.prog) Tryd.underlying43 info_u8 (some ⟨g, 0, none⟩) n cap 0 (by omega) W
  obtain ⟨w4, hcp, hg4, hk4⟩ := run_copy_keep (P := Tryd.prog) w3 43 43 3 5 Tryd.underlying43 hsz1 (cutA (some ⟨g, 0, none⟩) cap 0) n cap ad n c g 0 cur 5 hg3 cs hn (Nat.le_refl _) (fun hp => by rw [cutA_own _ _ _ _ (by omega)]) hsrc3 (by omega) h1c
  have hbk4 := hk4.row hbk3 (by omega)
  have hk5 : Keep (fun k => k = b) w w4 := hk3.trans2 hk4 (fun i hi e => by omega)
  have HF : Hid (BufRow w4 w.heap.size b cs ∧ Keep (fun k => k = b) w w4) := by
    refine Lib.hid ⟨⟨g, cap, _, lr, ?_, hgN2, hgb, hg4, ?_, hcm, ?_, ?_⟩, hk5⟩
    · rw [hn]; exact hbk4
    · rw [hn]; omega
    · rw [← Array.length_toList]; simp; omega
    · rw [hn]; simp [← hn]
  clear hsrc3 h1c hg3 hbk3 hk3 hn htk hcs hbk4 hk5 hg4 hk4 hgN hcm hkg
  go_wp2
  go_ret2
  exact ⟨rfl, HF.out.1, HF.out.2⟩
end Go.Proofs.YthfgnhgijgjggaaDoor
