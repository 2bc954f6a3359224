/- Contracts: cid.CidFromBytes where no identifier is read. -/
import Derived.Test.YthfgnhgijgjggaaDoorCdK
namespace Go.Proofs.YthfgnhgijgjggaaDoor
open Go.RowKit

/-- A number, a struct with one string, and an error. -/
def FromBad (e : Ending) : Prop := ∃ (s : ByteArray) (t : TypeId) (p : Value), e = .returned (.tuple #[.int .i64 0, .agg #[.string s], .iface t p])

/-- What each way out needs in the world behind the last call. -/
theorem from_fin {w w4 : World} {us : ByteArray} (hu : (w.alloc cidZ).cell? ⟨1, 0, none⟩ = some (.string us)) (hb4 : Below (w.alloc cidZ).heap.size (w.alloc cidZ) w4) :
    (w4.cell? ⟨w.heap.size, 0, none⟩ = some (.string ⟨#[]⟩)) ∧ (w4.frozen? ⟨w.heap.size, 0, none⟩ = false) ∧ (w4.cell? ⟨1, 0, none⟩ = some (.string us)) ∧
      Hid ((w4.setCell ⟨w.heap.size, 0, none⟩ (.string us)).heap[w.heap.size]? = some (.cells #[.string us] 80 (0, 0))) ∧ Hid (Below w.heap.size w (w4.setCell ⟨w.heap.size, 0, none⟩ (.string us))) := by
  have hA : Below w.heap.size w (w.alloc cidZ) := (Below.refl _ _).alloc (Nat.le_refl _) _
  have hr0 := heap_alloc_new w cidZ
  have hr4 := row_below hb4 (block_of_row hr0) hr0
  exact ⟨cell_of_row' (cur := [_]) hr4 0, frozen_of_row' (cur := [_]) hr4 0, below_cell hb4 hu, Lib.hid (Lib.heap_setCell_same (i := 0) hr4 _), Lib.hid ((below_next hA hb4).setCell (by exact Nat.le_refl _) _)⟩

set_option maxRecDepth 100000 in
set_option maxHeartbeats 8000000 in
theorem cidFrom_short (A : Option Addr) (n c : Nat) (l : List UInt8) (w : World) (hs : BS w (.slice A n c) l) (hu : CdS w) (hz : cidZero l) (h34 : l.length < 34) :
    Calls Tryd.prog 85 #[.slice A n c] w fun e w' => FromBad e ∧ Below w.heap.size w w' := by
  have hA : Below w.heap.size w (w.alloc cidZ) := (Below.refl _ _).alloc (Nat.le_refl _) _
  obtain ⟨hnl, hcap⟩ := hs.slice
  have hs1 := hs.below hA
  have h2 := hz.1
  obtain ⟨b, o, rfl, hcl⟩ := hs1.at_ (by omega)
  have hn2 : (2 : Int) < n := by omega
  have hn34 : (n : Int) < 34 := by omega
  have e0 := hcl 0 (by omega)
  have e1 := hcl 1 (by omega)
  have x0 : l[0] = 18 := by have := hz.2.1; rw [List.getElem?_eq_getElem (by omega)] at this; exact Option.some.inj this
  have x1 : l[1] = 32 := by have := hz.2.2; rw [List.getElem?_eq_getElem (by omega)] at this; exact Option.some.inj this
  rw [x0, Nat.add_zero] at e0
  rw [x1] at e1
  have i0 : (w.alloc cidZ).cell? ⟨b, o, none⟩ = some (.int .u8 18) := e0
  have i1 : (w.alloc cidZ).cell? ⟨b, o + 1, none⟩ = some (.int .u8 32) := e1
  obtain ⟨us, hus⟩ := (hu.below hA).undef
  have hd1 : Below (w.alloc cidZ).heap.size (w.alloc cidZ) (w.alloc cidZ).drew := below_drewN _ _ 1
  obtain ⟨p1, p2, p3, _, _⟩ := from_fin hus hd1
  have n1 : (0 : Nat) < n := by omega
  have n3 : (1 : Nat) < n := by omega
  clear e0 e1 x0 x1 hcl hs hs1 hz hnl h34 h2 hu hcap
  go_enter Tryd.func85, Tryd.ntmps85
  go_wp2_with fail
  go_region_with (go_at_call 103; refine (errorsNew _ (w.alloc cidZ).drew).mono ?_; rintro e w3 ⟨t, p, rfl, hb3⟩; obtain ⟨p1, p2, p3, p4, p5⟩ := from_fin hus (below_next hd1 hb3))
  all_goals
    go_wp2
    refine bodyPost_ret (results_tmp_row_tmp rfl _ _ (w.heap.size) 80 #[.string us] (0, 0) _ rfl p4.out Tryd.underlying80 rfl (by kernel_rfl)) rfl ?_
    exact ⟨⟨_, _, _, rfl⟩, p5.out⟩

set_option maxRecDepth 100000 in
set_option maxHeartbeats 8000000 in
/-- The version can't be read. -/
theorem cidFrom_noVer (A : Option Addr) (n c : Nat) (l : List UInt8) (w : World) (hs : BS w (.slice A n c) l) (hm : l.length ≤ 2147483647) (hu : CdS w) (hz : ¬ cidZero l) (hno : (uvDec l).no) :
    Calls Tryd.prog 85 #[.slice A n c] w fun e w' => FromBad e ∧ Below w.heap.size w w' := by
  have hA : Below w.heap.size w (w.alloc cidZ) := (Below.refl _ _).alloc (Nat.le_refl _) _
  have hs1 := hs.below hA
  have hF := fst_of hs1 hz
  obtain ⟨hnl, hcap⟩ := hs.slice
  obtain ⟨us, hus⟩ := (hu.below hA).undef
  have C1 := Lib.hid (fromUv_no A n c l _ hs1 (by omega) (hu.below hA).toUvS hno)
  have HUS := Lib.hid hus
  have hn : n ≤ 2147483647 := by omega
  clear hs hs1 hz hno hu hus hnl hcap hm hA
  obtain ⟨w0, hw0⟩ : ∃ w0, w0 = w.alloc cidZ := ⟨_, rfl⟩
  rcases hF with hn2 | ⟨hn2, b, o, x0, x1, rfl, i0, i1, h18 | ⟨h18, h32⟩⟩
  all_goals
    go_enter Tryd.func85, Tryd.ntmps85
    go_wp2_with fail
    refine C1.out.mono ?_
    rintro e w1 ⟨t, p, rfl, hb1⟩
    obtain ⟨p1, p2, p3, p4, p5⟩ := from_fin HUS.out hb1
    go_wp2_with fail
    go_region
    all_goals
      go_wp2
      refine bodyPost_ret (results_tmp_row_tmp rfl _ _ (w.heap.size) 80 #[.string us] (0, 0) _ rfl p4.out Tryd.underlying80 rfl (by kernel_rfl)) rfl ?_
      exact ⟨⟨_, _, _, rfl⟩, p5.out.drewN 1⟩

set_option maxRecDepth 100000 in
set_option maxHeartbeats 8000000 in
/-- The version is another one. -/
theorem cidFrom_badVer (A : Option Addr) (n c : Nat) (l : List UInt8) (w : World) (hs : BS w (.slice A n c) l) (hm : l.length ≤ 2147483647) (hu : CdS w) (hz : ¬ cidZero l) (v k : Nat) (hd : uvDec l = .ok v k) (hv : v ≠ 1) :
    Calls Tryd.prog 85 #[.slice A n c] w fun e w' => FromBad e ∧ Below w.heap.size w w' := by
  have hA : Below w.heap.size w (w.alloc cidZ) := (Below.refl _ _).alloc (Nat.le_refl _) _
  have hs1 := hs.below hA
  have hF := fst_of hs1 hz
  obtain ⟨hnl, hcap⟩ := hs.slice
  obtain ⟨us, hus⟩ := (hu.below hA).undef
  have C1 := Lib.hid (fromUv_ok A n c l _ hs1 (by omega) (hu.below hA).toUvS v k hd)
  have HUS := Lib.hid hus
  have hn : n ≤ 2147483647 := by omega
  have hv1 : ((v : Int) != 1) = true := by rw [bne_iff_ne]; omega
  clear hs hs1 hz hd hu hus hnl hcap hm hA hv
  generalize (v : Int) = vi at *
  obtain ⟨w0, hw0⟩ : ∃ w0, w0 = w.alloc cidZ := ⟨_, rfl⟩
  rcases hF with hn2 | ⟨hn2, b, o, x0, x1, rfl, i0, i1, h18 | ⟨h18, h32⟩⟩
  all_goals
    go_enter Tryd.func85, Tryd.ntmps85
    go_wp2_with fail
    refine C1.out.mono ?_
    rintro e w1 ⟨rfl, hb1⟩
    have hd1 := hb1.drewN 1
    obtain ⟨p1, p2, p3, _, _⟩ := from_fin HUS.out hb1
    go_wp2_with fail
    go_region_with (go_at_call 103; refine (errorsNew _ w1.drew).mono ?_; rintro e w3 ⟨t, p, rfl, hb3⟩; obtain ⟨p1, p2, p3, p4, p5⟩ := from_fin HUS.out (below_next hd1 hb3))
    all_goals
      go_wp2
      refine bodyPost_ret (results_tmp_row_tmp rfl _ _ (w.heap.size) 80 #[.string us] (0, 0) _ rfl p4.out Tryd.underlying80 rfl (by kernel_rfl)) rfl ?_
      exact ⟨⟨_, _, _, rfl⟩, p5.out⟩

set_option maxRecDepth 100000 in
set_option maxHeartbeats 8000000 in
/-- The codec can't be read. -/
theorem cidFrom_noCodec (A : Option Addr) (n c : Nat) (l : List UInt8) (w : World) (hs : BS w (.slice A n c) l) (hm : l.length ≤ 2147483647) (hu : CdS w) (hz : ¬ cidZero l) (hd : uvDec l = .ok 1 1) (hno : (uvDec (l.drop 1)).no) :
    Calls Tryd.prog 85 #[.slice A n c] w fun e w' => FromBad e ∧ Below w.heap.size w w' := by
  have hA : Below w.heap.size w (w.alloc cidZ) := (Below.refl _ _).alloc (Nat.le_refl _) _
  have hs1 := hs.below hA
  have hF := fst_of hs1 hz
  obtain ⟨hnl, hcap⟩ := hs.slice
  obtain ⟨_, g2, _⟩ := uvDec_ok hd
  obtain ⟨us, hus⟩ := (hu.below hA).undef
  have C1 := Lib.hid (fromUv_ok A n c l _ hs1 (by omega) (hu.below hA).toUvS 1 1 hd)
  obtain ⟨r1, hs2⟩ := hs1.from_ (P := Tryd.prog) Tryd.underlying43 info_u8 1 (by omega)
  have l1 : (l.drop 1).length = l.length - 1 := by simp
  have C2 : ∀ W, Below (w.alloc cidZ).heap.size (w.alloc cidZ) W → Hid (Calls Tryd.prog 79 #[.slice (cutA A c 1) (n - 1) (c - 1)] W fun e w' => ∃ t p, e = .returned (.tuple #[.int .u64 0, .int .i64 0, .iface t p]) ∧ Below W.heap.size W w') := fun W hb =>
    Lib.hid (fromUv_no _ _ _ _ W (hs2.below hb) (by omega) ((hu.below hA).below hb).toUvS hno)
  have HUS := Lib.hid hus
  have hn : n ≤ 2147483647 := by omega
  rw [show ((1 : Nat) : Int) = 1 from rfl] at r1 C1
  clear hs hs1 hs2 hz hno hu hus hnl hcap hm hA hd g2 l1
  generalize cutA A c 1 = A1 at *
  generalize n - 1 = N1 at *
  generalize c - 1 = c1 at *
  obtain ⟨w0, hw0⟩ : ∃ w0, w0 = w.alloc cidZ := ⟨_, rfl⟩
  rcases hF with hn2 | ⟨hn2, b, o, x0, x1, rfl, i0, i1, h18 | ⟨h18, h32⟩⟩
  all_goals
    go_enter Tryd.func85, Tryd.ntmps85
    go_wp2_with fail
    refine C1.out.mono ?_
    rintro e w1 ⟨rfl, hb1⟩
    go_wp2_with fail
    refine (C2 w1 hb1).out.mono ?_
    rintro e w2 ⟨t, p, rfl, hb2⟩
    obtain ⟨p1, p2, p3, p4, p5⟩ := from_fin HUS.out (below_next hb1 hb2)
    go_wp2_with fail
    go_region
    all_goals
      go_wp2
      refine bodyPost_ret (results_tmp_row_tmp rfl _ _ (w.heap.size) 80 #[.string us] (0, 0) _ rfl p4.out Tryd.underlying80 rfl (by kernel_rfl)) rfl ?_
      exact ⟨⟨_, _, _, rfl⟩, p5.out.drewN 1⟩

set_option maxRecDepth 100000 in
set_option maxHeartbeats 8000000 in
/-- The multihash can't be read. -/
theorem cidFrom_noMh (A : Option Addr) (n c : Nat) (l : List UInt8) (w : World) (hs : BS w (.slice A n c) l) (hm : l.length ≤ 2147483647) (hu : CdS w) (hz : ¬ cidZero l) (hd : uvDec l = .ok 1 1) (codec m : Nat) (hd2 : uvDec (l.drop 1) = .ok codec m) (hno : mhRd ((l.drop 1).drop m) = none) :
    Calls Tryd.prog 85 #[.slice A n c] w fun e w' => FromBad e ∧ Below w.heap.size w w' := by
  have hA : Below w.heap.size w (w.alloc cidZ) := (Below.refl _ _).alloc (Nat.le_refl _) _
  have hs1 := hs.below hA
  have hF := fst_of hs1 hz
  obtain ⟨hnl, hcap⟩ := hs.slice
  obtain ⟨_, g2, _⟩ := uvDec_ok hd
  obtain ⟨_, g3, _⟩ := uvDec_ok hd2
  rw [List.length_drop] at g3
  obtain ⟨us, hus⟩ := (hu.below hA).undef
  have C1 := Lib.hid (fromUv_ok A n c l _ hs1 (by omega) (hu.below hA).toUvS 1 1 hd)
  obtain ⟨r1, hs2⟩ := hs1.from_ (P := Tryd.prog) Tryd.underlying43 info_u8 1 (by omega)
  have l1 : (l.drop 1).length = l.length - 1 := by simp
  have C2 : ∀ W, Below (w.alloc cidZ).heap.size (w.alloc cidZ) W → Hid (Calls Tryd.prog 79 #[.slice (cutA A c 1) (n - 1) (c - 1)] W fun e w' => e = .returned (.tuple #[.int .u64 codec, .int .i64 m, .nilIface]) ∧ Below W.heap.size W w') := fun W hb =>
    Lib.hid (fromUv_ok _ _ _ _ W (hs2.below hb) (by omega) ((hu.below hA).below hb).toUvS codec m hd2)
  obtain ⟨r2, hs3⟩ := hs1.from_ (P := Tryd.prog) Tryd.underlying43 info_u8 (1 + m) (by omega)
  rw [← List.drop_drop] at hs3
  have C3 : ∀ W, Below (w.alloc cidZ).heap.size (w.alloc cidZ) W → Hid (Calls Tryd.prog 105 #[.slice (cutA A c (1 + m)) (n - (1 + m)) (c - (1 + m))] W fun e w' => ∃ t p, e = .returned (.tuple #[.int .i64 0, .slice none 0 0, .iface t p]) ∧ Below W.heap.size W w') := fun W hb =>
    Lib.hid (MHFrom_no _ _ _ _ W (hs3.below hb) (by rw [List.length_drop, List.length_drop]; omega) ((hu.below hA).below hb).toMhS hno)
  have HUS := Lib.hid hus
  have hn : n ≤ 2147483647 := by omega
  have em : ((1 + m : Nat) : Int) = 1 + (m : Int) := by omega
  have b1 : m ≤ 2147483647 := by omega
  rw [em] at r2
  rw [show ((1 : Nat) : Int) = 1 from rfl] at r1 C1
  clear hs hs1 hs2 hs3 hz hno hu hus hnl hcap hm hA hd hd2 g2 g3 l1 em
  generalize cutA A c 1 = A1 at *
  generalize cutA A c (1 + m) = A2 at *
  generalize n - 1 = N1 at *
  generalize n - (1 + m) = N2 at *
  generalize c - 1 = c1 at *
  generalize c - (1 + m) = c2 at *
  obtain ⟨w0, hw0⟩ : ∃ w0, w0 = w.alloc cidZ := ⟨_, rfl⟩
  rcases hF with hn2 | ⟨hn2, b, o, x0, x1, rfl, i0, i1, h18 | ⟨h18, h32⟩⟩
  all_goals
    go_enter Tryd.func85, Tryd.ntmps85
    go_wp2_with fail
    refine C1.out.mono ?_
    rintro e w1 ⟨rfl, hb1⟩
    go_wp2_with fail
    refine (C2 w1 hb1).out.mono ?_
    rintro e w2 ⟨rfl, hb2⟩
    have hb2' := below_next hb1 hb2
    go_wp2_with fail
    refine (C3 w2 hb2').out.mono ?_
    rintro e w3 ⟨t, p, rfl, hb3⟩
    obtain ⟨p1, p2, p3, p4, p5⟩ := from_fin HUS.out (below_next hb2' hb3)
    go_wp2_with fail
    go_region
    all_goals
      go_wp2
      refine bodyPost_ret (results_tmp_row_tmp rfl _ _ (w.heap.size) 80 #[.string us] (0, 0) _ rfl p4.out Tryd.underlying80 rfl (by kernel_rfl)) rfl ?_
      exact ⟨⟨_, _, _, rfl⟩, p5.out.drewN 1⟩

theorem cidFrom_no (A : Option Addr) (n c : Nat) (l : List UInt8) (w : World) (hs : BS w (.slice A n c) l) (hm : l.length ≤ 2147483647) (hu : CdS w) (hd : cidRd l = none) :
    Calls Tryd.prog 85 #[.slice A n c] w fun e w' => FromBad e ∧ Below w.heap.size w w' := by
  rcases cidRd_none hd with ⟨hz, h34⟩ | ⟨hz, h | ⟨v, k, e1, hv⟩ | ⟨e1, h | ⟨codec, m, e2, e3⟩⟩⟩
  · exact cidFrom_short A n c l w hs hu hz h34
  · exact cidFrom_noVer A n c l w hs hm hu hz h
  · exact cidFrom_badVer A n c l w hs hm hu hz v k e1 hv
  · exact cidFrom_noCodec A n c l w hs hm hu hz e1 h
  · exact cidFrom_noMh A n c l w hs hm hu hz e1 codec m e2 e3

theorem cidFrom_ok (A : Option Addr) (n c : Nat) (l : List UInt8) (w : World) (hs : BS w (.slice A n c) l) (hm : l.length ≤ 2147483647) (hu : CdS w) (x : CidD) (k : Nat) (hd : cidRd l = some (x, k)) :
    Calls Tryd.prog 85 #[.slice A n c] w fun e w' => e = .returned (.tuple #[.int .i64 k, .agg #[.string ⟨(cidEnc x).toArray⟩], .nilIface]) ∧ Below w.heap.size w w' := by
  by_cases hz : cidZero l
  · rcases cidRd_some hd with ⟨_, h34, hk, hx⟩ | ⟨h, _⟩
    · obtain ⟨_, ht, _, _⟩ := cidRd_take hd
      have := cidFrom_zero A n c l w hs hm hu hz h34
      rw [hk] at ht ⊢
      rw [ht] at this
      exact this
    · exact absurd hz h
  · exact cidFrom_one A n c l w hs hm hu x k hd hz
end Go.Proofs.YthfgnhgijgjggaaDoor
