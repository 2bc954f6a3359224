/- Contracts, joined (CdL CdB CdM CdN CdO CdP CdQ UvD). -/
import Derived.Test.YthfgnhgijgjggaaDoorJSb1
import Derived.Test.YthfgnhgijgjggaaDoorJSb3
import Derived.StillTailTactics
import Derived.Outline
/- Contracts: cid.CidFromBytes where no identifier is read. -/
namespace Go.Proofs.YthfgnhgijgjggaaDoor
open Go.RowKit

/-- A number, a struct with one string, and an error. -/
def FromBad (e : Ending) : Prop := ∃ (s : ByteArray) (t : TypeId) (p : Value), e = .returned (.tuple #[.int .i64 0, .agg #[.string s], .iface t p])

/-- What each way out needs in the world behind the last call. -/
theorem from_fin {w w4 : World} {us : ByteArray} (hu : (w.alloc cidZ).cell? ⟨1, 0, none⟩ = some (.string us)) (hb4 : Below (w.alloc cidZ).heap.size (w.alloc cidZ) w4) :
    (w4.cell? ⟨w.heap.size, 0, none⟩ = some (.string ⟨#[]⟩)) ∧ (w4.frozen? ⟨w.heap.size, 0, none⟩ = false) ∧ (w4.cell? ⟨1, 0, none⟩ = some (.string us)) ∧
      Hid ((w4.setCell ⟨w.heap.size, 0, none⟩ (.string us)).heap[w.heap.size]? = some (.cells #[.string us] 80 (0, 0))) ∧ Hid (Below w.heap.size w (w4.setCell ⟨w.heap.size, 0, none⟩ (.string us))) := by
  have hA : Below w.heap.size w (w.alloc cidZ) := (Below.refl _ _).alloc (Nat.le_refl _) _
  have hr0 := heap_alloc_new w cidZ
  have hr4 := row_below hb4 (block_of_row hr0) hr0
  exact ⟨cell_of_row' (cur := [_]) hr4 0, frozen_of_row' (cur := [_]) hr4 0, below_cell hb4 hu, Lib.hid (Lib.heap_setCell_same (i := 0) hr4 _), Lib.hid ((below_next hA hb4).setCell (by exact Nat.le_refl _) _)⟩

set_option maxRecDepth 100000 in
set_option maxHeartbeats 8000000 in
theorem cidFrom_short (A : Option Addr) (n c : Nat) (l : List UInt8) (w : World) (hs : BS w (.slice A n c) l) (hu : CdS w) (hz : cidZero l) (h34 : l.length < 34) :
    Calls Tryd.prog 85 #[.slice A n c] w fun e w' => FromBad e ∧ Below w.heap.size w w' := by
  have hA : Below w.heap.size w (w.alloc cidZ) := (Below.refl _ _).alloc (Nat.le_refl _) _
  obtain ⟨hnl, hcap⟩ := hs.slice
  have hs1 := hs.below hA
  have h2 := hz.1
  obtain ⟨b, o, rfl, hcl⟩ := hs1.at_ (by omega)
  have hn2 : (2 : Int) < n := by omega
  have hn34 : (n : Int) < 34 := by omega
  have e0 := hcl 0 (by omega)
  have e1 := hcl 1 (by omega)
  have x0 : l[0] = 18 := by have := hz.2.1; rw [List.getElem?_eq_getElem (by omega)] at this; exact Option.some.inj this
  have x1 : l[1] = 32 := by have := hz.2.2; rw [List.getElem?_eq_getElem (by omega)] at this; exact Option.some.inj this
  rw [x0, Nat.add_zero] at e0
  rw [x1] at e1
  have i0 : (w.alloc cidZ).cell? ⟨b, o, none⟩ = some (.int .u8 18) := e0
  have i1 : (w.alloc cidZ).cell? ⟨b, o + 1, none⟩ = some (.int .u8 32) := e1
  obtain ⟨us, hus⟩ := (hu.below hA).undef
  have hd1 : Below (w.alloc cidZ).heap.size (w.alloc cidZ) (w.alloc cidZ).drew := below_drewN _ _ 1
  obtain ⟨p1, p2, p3, _, _⟩ := from_fin hus hd1
  have n1 : (0 : Nat) < n := by omega
  have n3 : (1 : Nat) < n := by omega
  clear e0 e1 x0 x1 hcl hs hs1 hz hnl h34 h2 hu hcap
  go_enter Tryd.func85, Tryd.ntmps85
  go_wp2_with fail
  go_region_with (go_at_call 103; refine (errorsNew _ (w.alloc cidZ).drew).mono ?_; rintro e w3 ⟨t, p, rfl, hb3⟩; obtain ⟨p1, p2, p3, p4, p5⟩ := from_fin hus (below_next hd1 hb3))
  all_goals
    go_wp2
    refine bodyPost_ret (results_tmp_row_tmp rfl _ _ (w.heap.size) 80 #[.string us] (0, 0) _ rfl p4.out Tryd.underlying80 rfl (by kernel_rfl)) rfl ?_
    exact ⟨⟨_, _, _, rfl⟩, p5.out⟩

set_option maxRecDepth 100000 in
set_option maxHeartbeats 8000000 in
/-- The version can't be read. -/
theorem cidFrom_noVer (A : Option Addr) (n c : Nat) (l : List UInt8) (w : World) (hs : BS w (.slice A n c) l) (hm : l.length ≤ 2147483647) (hu : CdS w) (hz : ¬ cidZero l) (hno : (uvDec l).no) :
    Calls Tryd.prog 85 #[.slice A n c] w fun e w' => FromBad e ∧ Below w.heap.size w w' := by
  have hA : Below w.heap.size w (w.alloc cidZ) := (Below.refl _ _).alloc (Nat.le_refl _) _
  have hs1 := hs.below hA
  have hF := fst_of hs1 hz
  obtain ⟨hnl, hcap⟩ := hs.slice
  obtain ⟨us, hus⟩ := (hu.below hA).undef
  have C1 := Lib.hid (fromUv_no A n c l _ hs1 (by omega) (hu.below hA).toUvS hno)
  have HUS := Lib.hid hus
  have hn : n ≤ 2147483647 := by omega
  clear hs hs1 hz hno hu hus hnl hcap hm hA
  obtain ⟨w0, hw0⟩ : ∃ w0, w0 = w.alloc cidZ := ⟨_, rfl⟩
  rcases hF with hn2 | ⟨hn2, b, o, x0, x1, rfl, i0, i1, h18 | ⟨h18, h32⟩⟩
  all_goals
    go_enter Tryd.func85, Tryd.ntmps85
    go_wp2_with fail
    refine C1.out.mono ?_
    rintro e w1 ⟨t, p, rfl, hb1⟩
    obtain ⟨p1, p2, p3, p4, p5⟩ := from_fin HUS.out hb1
    go_wp2_with fail
    go_region
    all_goals
      go_wp2
      refine bodyPost_ret (results_tmp_row_tmp rfl _ _ (w.heap.size) 80 #[.string us] (0, 0) _ rfl p4.out Tryd.underlying80 rfl (by kernel_rfl)) rfl ?_
      exact ⟨⟨_, _, _, rfl⟩, p5.out.drewN 1⟩

set_option maxRecDepth 100000 in
set_option maxHeartbeats 8000000 in
/-- The version is another one. -/
theorem cidFrom_badVer (A : Option Addr) (n c : Nat) (l : List UInt8) (w : World) (hs : BS w (.slice A n c) l) (hm : l.length ≤ 2147483647) (hu : CdS w) (hz : ¬ cidZero l) (v k : Nat) (hd : uvDec l = .ok v k) (hv : v ≠ 1) :
    Calls Tryd.prog 85 #[.slice A n c] w fun e w' => FromBad e ∧ Below w.heap.size w w' := by
  have hA : Below w.heap.size w (w.alloc cidZ) := (Below.refl _ _).alloc (Nat.le_refl _) _
  have hs1 := hs.below hA
  have hF := fst_of hs1 hz
  obtain ⟨hnl, hcap⟩ := hs.slice
  obtain ⟨us, hus⟩ := (hu.below hA).undef
  have C1 := Lib.hid (fromUv_ok A n c l _ hs1 (by omega) (hu.below hA).toUvS v k hd)
  have HUS := Lib.hid hus
  have hn : n ≤ 2147483647 := by omega
  have hv1 : ((v : Int) != 1) = true := by rw [bne_iff_ne]; omega
  clear hs hs1 hz hd hu hus hnl hcap hm hA hv
  generalize (v : Int) = vi at *
  obtain ⟨w0, hw0⟩ : ∃ w0, w0 = w.alloc cidZ := ⟨_, rfl⟩
  rcases hF with hn2 | ⟨hn2, b, o, x0, x1, rfl, i0, i1, h18 | ⟨h18, h32⟩⟩
  all_goals
    go_enter Tryd.func85, Tryd.ntmps85
    go_wp2_with fail
    refine C1.out.mono ?_
    rintro e w1 ⟨rfl, hb1⟩
    have hd1 := hb1.drewN 1
    obtain ⟨p1, p2, p3, _, _⟩ := from_fin HUS.out hb1
    go_wp2_with fail
    go_region_with (go_at_call 103; refine (errorsNew _ w1.drew).mono ?_; rintro e w3 ⟨t, p, rfl, hb3⟩; obtain ⟨p1, p2, p3, p4, p5⟩ := from_fin HUS.out (below_next hd1 hb3))
    all_goals
      go_wp2
      refine bodyPost_ret (results_tmp_row_tmp rfl _ _ (w.heap.size) 80 #[.string us] (0, 0) _ rfl p4.out Tryd.underlying80 rfl (by kernel_rfl)) rfl ?_
      exact ⟨⟨_, _, _, rfl⟩, p5.out⟩

set_option maxRecDepth 100000 in
set_option maxHeartbeats 8000000 in
/-- The codec can't be read. -/
theorem cidFrom_noCodec (A : Option Addr) (n c : Nat) (l : List UInt8) (w : World) (hs : BS w (.slice A n c) l) (hm : l.length ≤ 2147483647) (hu : CdS w) (hz : ¬ cidZero l) (hd : uvDec l = .ok 1 1) (hno : (uvDec (l.drop 1)).no) :
    Calls Tryd.prog 85 #[.slice A n c] w fun e w' => FromBad e ∧ Below w.heap.size w w' := by
  have hA : Below w.heap.size w (w.alloc cidZ) := (Below.refl _ _).alloc (Nat.le_refl _) _
  have hs1 := hs.below hA
  have hF := fst_of hs1 hz
  obtain ⟨hnl, hcap⟩ := hs.slice
  obtain ⟨_, g2, _⟩ := uvDec_ok hd
  obtain ⟨us, hus⟩ := (hu.below hA).undef
  have C1 := Lib.hid (fromUv_ok A n c l _ hs1 (by omega) (hu.below hA).toUvS 1 1 hd)
  obtain ⟨r1, hs2⟩ := hs1.from_ (P := Tryd.prog) Tryd.underlying43 info_u8 1 (by omega)
  have l1 : (l.drop 1).length = l.length - 1 := by simp
  have C2 : ∀ W, Below (w.alloc cidZ).heap.size (w.alloc cidZ) W → Hid (Calls Tryd.prog 79 #[.slice (cutA A c 1) (n - 1) (c - 1)] W fun e w' => ∃ t p, e = .returned (.tuple #[.int .u64 0, .int .i64 0, .iface t p]) ∧ Below W.heap.size W w') := fun W hb =>
    Lib.hid (fromUv_no _ _ _ _ W (hs2.below hb) (by omega) ((hu.below hA).below hb).toUvS hno)
  have HUS := Lib.hid hus
  have hn : n ≤ 2147483647 := by omega
  rw [show ((1 : Nat) : Int) = 1 from rfl] at r1 C1
  clear hs hs1 hs2 hz hno hu hus hnl hcap hm hA hd g2 l1
  generalize cutA A c 1 = A1 at *
  generalize n - 1 = N1 at *
  generalize c - 1 = c1 at *
  obtain ⟨w0, hw0⟩ : ∃ w0, w0 = w.alloc cidZ := ⟨_, rfl⟩
  rcases hF with hn2 | ⟨hn2, b, o, x0, x1, rfl, i0, i1, h18 | ⟨h18, h32⟩⟩
  all_goals
    go_enter Tryd.func85, Tryd.ntmps85
    go_wp2_with fail
    refine C1.out.mono ?_
    rintro e w1 ⟨rfl, hb1⟩
    go_wp2_with fail
    refine (C2 w1 hb1).out.mono ?_
    rintro e w2 ⟨t, p, rfl, hb2⟩
    obtain ⟨p1, p2, p3, p4, p5⟩ := from_fin HUS.out (below_next hb1 hb2)
    go_wp2_with fail
    go_region
    all_goals
      go_wp2
      refine bodyPost_ret (results_tmp_row_tmp rfl _ _ (w.heap.size) 80 #[.string us] (0, 0) _ rfl p4.out Tryd.underlying80 rfl (by kernel_rfl)) rfl ?_
      exact ⟨⟨_, _, _, rfl⟩, p5.out.drewN 1⟩

set_option maxRecDepth 100000 in
set_option maxHeartbeats 8000000 in
/-- The multihash can't be read. -/
theorem cidFrom_noMh (A : Option Addr) (n c : Nat) (l : List UInt8) (w : World) (hs : BS w (.slice A n c) l) (hm : l.length ≤ 2147483647) (hu : CdS w) (hz : ¬ cidZero l) (hd : uvDec l = .ok 1 1) (codec m : Nat) (hd2 : uvDec (l.drop 1) = .ok codec m) (hno : mhRd ((l.drop 1).drop m) = none) :
    Calls Tryd.prog 85 #[.slice A n c] w fun e w' => FromBad e ∧ Below w.heap.size w w' := by
  have hA : Below w.heap.size w (w.alloc cidZ) := (Below.refl _ _).alloc (Nat.le_refl _) _
  have hs1 := hs.below hA
  have hF := fst_of hs1 hz
  obtain ⟨hnl, hcap⟩ := hs.slice
  obtain ⟨_, g2, _⟩ := uvDec_ok hd
  obtain ⟨_, g3, _⟩ := uvDec_ok hd2
  rw [List.length_drop] at g3
  obtain ⟨us, hus⟩ := (hu.below hA).undef
  have C1 := Lib.hid (fromUv_ok A n c l _ hs1 (by omega) (hu.below hA).toUvS 1 1 hd)
  obtain ⟨r1, hs2⟩ := hs1.from_ (P := Tryd.prog) Tryd.underlying43 info_u8 1 (by omega)
  have l1 : (l.drop 1).length = l.length - 1 := by simp
  have C2 : ∀ W, Below (w.alloc cidZ).heap.size (w.alloc cidZ) W → Hid (Calls Tryd.prog 79 #[.slice (cutA A c 1) (n - 1) (c - 1)] W fun e w' => e = .returned (.tuple #[.int .u64 codec, .int .i64 m, .nilIface]) ∧ Below W.heap.size W w') := fun W hb =>
    Lib.hid (fromUv_ok _ _ _ _ W (hs2.below hb) (by omega) ((hu.below hA).below hb).toUvS codec m hd2)
  obtain ⟨r2, hs3⟩ := hs1.from_ (P := Tryd.prog) Tryd.underlying43 info_u8 (1 + m) (by omega)
  rw [← List.drop_drop] at hs3
  have C3 : ∀ W, Below (w.alloc cidZ).heap.size (w.alloc cidZ) W → Hid (Calls Tryd.prog 105 #[.slice (cutA A c (1 + m)) (n - (1 + m)) (c - (1 + m))] W fun e w' => ∃ t p, e = .returned (.tuple #[.int .i64 0, .slice none 0 0, .iface t p]) ∧ Below W.heap.size W w') := fun W hb =>
    Lib.hid (MHFrom_no _ _ _ _ W (hs3.below hb) (by rw [List.length_drop, List.length_drop]; omega) ((hu.below hA).below hb).toMhS hno)
  have HUS := Lib.hid hus
  have hn : n ≤ 2147483647 := by omega
  have em : ((1 + m : Nat) : Int) = 1 + (m : Int) := by omega
  have b1 : m ≤ 2147483647 := by omega
  rw [em] at r2
  rw [show ((1 : Nat) : Int) = 1 from rfl] at r1 C1
  clear hs hs1 hs2 hs3 hz hno hu hus hnl hcap hm hA hd hd2 g2 g3 l1 em
  generalize cutA A c 1 = A1 at *
  generalize cutA A c (1 + m) = A2 at *
  generalize n - 1 = N1 at *
  generalize n - (1 + m) = N2 at *
  generalize c - 1 = c1 at *
  generalize c - (1 + m) = c2 at *
  obtain ⟨w0, hw0⟩ : ∃ w0, w0 = w.alloc cidZ := ⟨_, rfl⟩
  rcases hF with hn2 | ⟨hn2, b, o, x0, x1, rfl, i0, i1, h18 | ⟨h18, h32⟩⟩
  all_goals
    go_enter Tryd.func85, Tryd.ntmps85
    go_wp2_with fail
    refine C1.out.mono ?_
    rintro e w1 ⟨rfl, hb1⟩
    go_wp2_with fail
    refine (C2 w1 hb1).out.mono ?_
    rintro e w2 ⟨rfl, hb2⟩
    have hb2' := below_next hb1 hb2
    go_wp2_with fail
    refine (C3 w2 hb2').out.mono ?_
    rintro e w3 ⟨t, p, rfl, hb3⟩
    obtain ⟨p1, p2, p3, p4, p5⟩ := from_fin HUS.out (below_next hb2' hb3)
    go_wp2_with fail
    go_region
    all_goals
      go_wp2
      refine bodyPost_ret (results_tmp_row_tmp rfl _ _ (w.heap.size) 80 #[.string us] (0, 0) _ rfl p4.out Tryd.underlying80 rfl (by kernel_rfl)) rfl ?_
      exact ⟨⟨_, _, _, rfl⟩, p5.out.drewN 1⟩

theorem cidFrom_no (A : Option Addr) (n c : Nat) (l : List UInt8) (w : World) (hs : BS w (.slice A n c) l) (hm : l.length ≤ 2147483647) (hu : CdS w) (hd : cidRd l = none) :
    Calls Tryd.prog 85 #[.slice A n c] w fun e w' => FromBad e ∧ Below w.heap.size w w' := by
  rcases cidRd_none hd with ⟨hz, h34⟩ | ⟨hz, h | ⟨v, k, e1, hv⟩ | ⟨e1, h | ⟨codec, m, e2, e3⟩⟩⟩
  · exact cidFrom_short A n c l w hs hu hz h34
  · exact cidFrom_noVer A n c l w hs hm hu hz h
  · exact cidFrom_badVer A n c l w hs hm hu hz v k e1 hv
  · exact cidFrom_noCodec A n c l w hs hm hu hz e1 h
  · exact cidFrom_noMh A n c l w hs hm hu hz e1 codec m e2 e3

theorem cidFrom_ok (A : Option Addr) (n c : Nat) (l : List UInt8) (w : World) (hs : BS w (.slice A n c) l) (hm : l.length ≤ 2147483647) (hu : CdS w) (x : CidD) (k : Nat) (hd : cidRd l = some (x, k)) :
    Calls Tryd.prog 85 #[.slice A n c] w fun e w' => e = .returned (.tuple #[.int .i64 k, .agg #[.string ⟨(cidEnc x).toArray⟩], .nilIface]) ∧ Below w.heap.size w w' := by
  by_cases hz : cidZero l
  · rcases cidRd_some hd with ⟨_, h34, hk, hx⟩ | ⟨h, _⟩
    · obtain ⟨_, ht, _, _⟩ := cidRd_take hd
      have := cidFrom_zero A n c l w hs hm hu hz h34
      rw [hk] at ht ⊢
      rw [ht] at this
      exact this
    · exact absurd hz h
  · exact cidFrom_one A n c l w hs hm hu x k hd hz
end Go.Proofs.YthfgnhgijgjggaaDoor
/- Contracts of package cid: uvarint of a string; Bytes. -/
namespace Go.Proofs.YthfgnhgijgjggaaDoor
open Go.RowKit

theorem ret3_eq {Y M : Int} {x m : Nat} (h : Y = x) (h2 : M = m) : Ending.returned (.tuple #[.int .u64 Y, .int .i64 M, .nilIface]) = .returned (.tuple #[.int .u64 x, .int .i64 m, .nilIface]) := by
  rw [h, h2]

set_option maxRecDepth 100000 in
set_option maxHeartbeats 1000000 in
/-- A varint that can be read of the string's beginning. -/
theorem cdUv_ok (s : ByteArray) (w : World) (x m : Nat) (hd : uvDec s.data.toList = .ok x m) (hm : s.size ≤ 9223372036854775807) :
    Calls Tryd.prog 80 #[.string s] w fun e w' => e = .returned (.tuple #[.int .u64 x, .int .i64 m, .nilIface]) ∧ Below w.heap.size w w' := by
  have hlen : s.data.toList.length = s.size := ba_len s
  have HL := Lib.hid hlen
  have HD := Lib.hid hd
  clear hlen hd
  go_enter Tryd.func80, Tryd.ntmps80
  go_wp2
  go_loop [5, 6, 7] (fun x' sh i => ∃ (k X : Nat), k ≤ s.size ∧ k ≤ 9 ∧ X < 2 ^ (7 * k) ∧ i = .int .i64 k ∧ sh = .int .u64 (7 * k : Nat) ∧ x' = .int .u64 X ∧ Hid (uvGo k X (s.data.toList.drop k) = .ok x m)) (fun _ _ i => s.size - (intOf i).toNat)
  case atStart => exact ⟨0, 0, by omega, by omega, by decide, rfl, rfl, rfl, Lib.hid HD.out⟩
  case round =>
    obtain ⟨k, X, hk, hk10, hX, rfl, rfl, rfl, hd⟩ := hrel
    by_cases hlt : k < s.size
    · have hlt' : k < s.data.toList.length := by rw [HL.out]; exact hlt
      obtain ⟨c, hc⟩ : ∃ c, s.data.toList[k]? = some c := ⟨_, List.getElem?_eq_getElem hlt'⟩
      have hidx := fun W => idx_ba (P := Tryd.prog) Tryd.underlying9 s k c hc k rfl W
      have hb : c.toNat < 256 := UInt8.toNat_lt _
      have hstep : uvGo k X (s.data.toList.drop k) = (if (k = 8 ∧ 128 ≤ c.toNat) ∨ 9 ≤ k then .over
          else if c.toNat < 128 then (if c.toNat = 0 ∧ 0 < k then .notMin else .ok (X + c.toNat * 2 ^ (7 * k)) (k + 1))
          else uvGo (k + 1) (X + (c.toNat % 128) * 2 ^ (7 * k)) (s.data.toList.drop (k + 1))) := by
        have e : s.data.toList[k] = c := (List.getElem?_eq_some_iff.1 hc).2
        rw [List.drop_eq_getElem_cons hlt', uvGo, e]
      have hd2 := hd.out
      rw [hstep] at hd2
      clear hstep hc hlt' hd
      by_cases h9 : (k = 8 ∧ 128 ≤ c.toNat) ∨ 9 ≤ k
      · rw [if_pos h9] at hd2; cases hd2
      rw [if_neg h9] at hd2
      have hk9 : k ≤ 8 := by omega
      have hkk : ((k : Int) > 9) = False := by simp; omega
      have hkb : ¬ (k : Int) > 9 := by omega
      have hk9e : ((k : Int) == 9) = false := by rw [beq_eq_false_iff_ne]; omega
      clear hkk
      generalize hB : c.toNat = B at *
      clear hB
      by_cases hlo : B < 128
      · rw [if_pos hlo] at hd2
        by_cases hz : B = 0 ∧ 0 < k
        · rw [if_pos hz] at hd2; cases hd2
        rw [if_neg hz] at hd2
        injection hd2 with e1 e2
        have hor := Lib.hid (uv_or k X B hk9 hX hlo)
        have E1 := Lib.hid e1
        have E2 := Lib.hid e2
        clear e1 e2 h9
        by_cases hB0 : B = 0
        · subst hB0
          have hk0 : k = 0 := by omega
          subst hk0
          clear hor
          have hor0 : Hid (bits .or .u64 (X : Int) 0 = (X : Nat)) := Lib.hid (by rw [u64_orv0 _ _ (by omega) (by omega) (by omega) (by omega) (by omega)]; omega)
          clear hz
          simp only [Int.natCast_zero] at hidx
          go_wp2
          go_ret3
          exact ⟨ret3_eq (by rw [hor0.out, ← E1.out]; simp) (by rw [← E2.out]; rfl), Below.refl _ _⟩
        · have hB0' : ((B : Int) == 0) = false := by simp; omega
          clear hz
          go_wp2
          go_ret3
          exact ⟨ret3_eq (by rw [hor.out, ← E1.out]) (by rw [← E2.out]; omega), Below.refl _ _⟩
      · rw [if_neg hlo] at hd2
        have hfin := Lib.hid hd2
        clear hd2
        have hk8 : k ≤ 7 := by omega
        clear h9
        have hor := Lib.hid (uv_or_and k X B hk9 hX hb)
        have hlt2 := uv_step_lt k X (B % 128) hX (by omega)
        go_wp2
        exact ⟨⟨k + 1, X + B % 128 * 2 ^ (7 * k), by omega, by omega, hlt2, by go_num, by go_num, by rw [hor.out], hfin⟩, by simp [intOf]; omega⟩
    · exfalso
      have hkn : k = s.data.toList.length := by rw [HL.out]; omega
      have hd2 := hd.out
      rw [hkn, List.drop_length] at hd2
      cases hd2

end Go.Proofs.YthfgnhgijgjggaaDoor
/- Contracts of package cid: Bytes, Hash, Prefix of an identifier's bytes. -/
namespace Go.Proofs.YthfgnhgijgjggaaDoor
open Go.RowKit

section
variable {P : Program}
/-- 's[k:]' of a string. -/
theorem run_str_from {t : TypeId} (ht : P.underlying t = some .string) (s : ByteArray) (k : Nat) (hk : k ≤ s.size) (x : Int) (hx : x = k) (W : World) :
    (Instr.slice t (.string s) (some (.int .i64 x)) none none).run P W = .ok (.string ⟨(s.data.toList.drop k).toArray⟩) W := by
  subst hx
  rw [run_slice_string_l W t s ht .i64 (k : Int) (by omega) (by omega), Int.toNat_natCast]
  congr 2
  apply ByteArray.ext
  apply Array.toList_inj.1
  rw [Lib.extract_data]
  show _ = s.data.toList.drop k
  rw [List.take_of_length_le]
  rw [List.length_drop, ba_len]; omega
end

/-- A slice that holds the bytes l. -/
def HasBytes (l : List UInt8) (e : Ending) (w' : World) : Prop := ∃ A n c, e = .returned (.slice A n c) ∧ BS w' (.slice A n c) l

set_option maxRecDepth 100000 in
set_option maxHeartbeats 2000000 in
theorem cdBytes (s : ByteArray) (w : World) (h : 0 < s.size) :
    Calls Tryd.prog 77 #[.agg #[.string s]] w fun e w' => HasBytes s.data.toList e w' ∧ Below w.heap.size w w' := by
  have hA : Below w.heap.size w (w.alloc (.cells #[.string s] 80)) := (Below.refl _ _).alloc (Nat.le_refl _) _
  have hr0 := heap_alloc_new w (.cells #[.string s] 80)
  have HD := Lib.hid (cdDefined s (w.alloc (.cells #[.string s] 80)) h)
  go_enter Tryd.func77, Tryd.ntmps77
  go_wp2_with fail
  refine HD.out.mono ?_
  rintro e w1 ⟨rfl, hb1⟩
  have hb := below_next hA hb1
  have c0 := cell_of_row' (cur := [_]) (row_below hb1 (block_of_row hr0) hr0) 0
  obtain ⟨c, w2, hconv, hb2, hbs⟩ := conv_in w1 s
  have HBS := Lib.hid hbs
  clear hbs hr0 HD hA h
  go_wp2
  go_ret
  exact ⟨⟨some ⟨w1.heap.size, 0, none⟩, _, c, rfl, HBS.out⟩, below_next hb hb2⟩

/-- An identifier's bytes as a string. -/
structure CidStr (s : ByteArray) (x : CidD) : Prop where
  eq : s.data.toList = cidEnc x
  tidy : x.tidy
  fits : x.dig.length ≤ 2147483600

theorem CidStr.size {s : ByteArray} {x : CidD} (h : CidStr s x) : 2 ≤ s.size ∧ s.size ≤ 2147483640 := by
  have := cidEnc_length_le x h.tidy (by have := h.fits; omega)
  rw [← h.eq, ba_len] at this
  have := h.fits
  omega
theorem CidStr.rd {s : ByteArray} {x : CidD} (h : CidStr s x) : cidRd s.data.toList = some (x, s.size) := by
  have := cidRd_enc0 x h.tidy (by have := h.fits; omega)
  rw [← h.eq, ba_len] at this
  exact this

theorem CidStr.v0 {s : ByteArray} {x : CidD} (h : CidStr s x) (hz : x.ver = 0) : s.size = 34 ∧ cidZero s.data.toList ∧ s.data.toList = mhEnc 18 x.dig ∧ x = ⟨0, 112, 18, x.dig⟩ ∧ x.dig.length = 32 := by
  obtain ⟨v, codec, code, d⟩ := x
  have he := h.eq
  rcases h.tidy with ⟨h0, h1, h2, h3⟩ | ⟨h0, _, _⟩
  · simp only at h0 h1 h2 h3 hz
    subst h0 h1 h2
    have e : s.data.toList = mhEnc 18 d := he
    have e2 := e
    rw [mhEnc_18 d h3] at e2
    refine ⟨?_, ?_, e, rfl, h3⟩
    · rw [← ba_len, e2]; simp [h3]
    · rw [e2]; exact ⟨by simp [h3], rfl, rfl⟩
  · simp only at h0 hz; omega

theorem CidStr.v1 {s : ByteArray} {x : CidD} (h : CidStr s x) (hz : x.ver ≠ 0) : ¬ cidZero s.data.toList ∧ s.data.toList = 1 :: (Lib.uvarint x.codec ++ mhEnc x.code x.dig) ∧ x.ver = 1 ∧ x.codec < 9223372036854775808 ∧ x.code < 9223372036854775808 := by
  obtain ⟨v, codec, code, d⟩ := x
  have he := h.eq
  rcases h.tidy with ⟨h0, h1, h2, h3⟩ | ⟨h0, h1, h2⟩
  · simp only at h0 hz; omega
  · simp only at h0 h1 h2 hz
    subst h0
    have e : s.data.toList = 1 :: (Lib.uvarint codec ++ mhEnc code d) := he
    exact ⟨by rw [e]; exact not_zero_one _, e, rfl, h1, h2⟩

/-- Which digest's multihash an identifier holds. -/
theorem hash_v0 {s : ByteArray} {x : CidD} (h : CidStr s x) (hz : x.ver = 0) : s.data.toList = mhEnc x.code x.dig := by
  obtain ⟨_, _, e, hx, _⟩ := h.v0 hz
  rw [e, hx]

set_option maxRecDepth 100000 in
set_option maxHeartbeats 4000000 in
theorem cdHash (s : ByteArray) (x : CidD) (h : CidStr s x) (w : World) (hu : UvS w) :
    Calls Tryd.prog 43 #[.agg #[.string s]] w fun e w' => HasBytes (mhEnc x.code x.dig) e w' ∧ Below w.heap.size w w' := by
  have hA : Below w.heap.size w (w.alloc (.cells #[.string s] 80)) := (Below.refl _ _).alloc (Nat.le_refl _) _
  have hr0 := heap_alloc_new w (.cells #[.string s] 80)
  obtain ⟨z2, zM⟩ := h.size
  have HB := Lib.hid (cdBytes s (w.alloc (.cells #[.string s] 80)) (by omega))
  by_cases hz : x.ver = 0
  · obtain ⟨h34, hcz, _⟩ := h.v0 hz
    have he := hash_v0 h hz
    rw [← he]
    have HV := fun W => Lib.hid (cdVer0 s W h34 hcz)
    have HR0 := Lib.hid hr0
    clear h hz h34 hcz he hu hr0 z2 zM
    generalize s.data.toList = L at *
    go_enter Tryd.func43, Tryd.ntmps43
    go_wp2_with fail
    refine HB.out.mono ?_
    rintro e w1 ⟨⟨A, N, c, rfl, hbs⟩, hb1⟩
    have hb := below_next hA hb1
    have HBS := Lib.hid hbs
    have c0 := cell_of_row' (cur := [_]) (row_below hb1 (block_of_row HR0.out) HR0.out) 0
    clear hbs HB hA
    go_wp2_with fail
    refine (HV w1).out.mono ?_
    rintro e w2 ⟨rfl, hb2⟩
    go_wp2
    go_ret
    exact ⟨⟨A, N, c, rfl, HBS.out.below hb2⟩, below_next hb hb2⟩
  · obtain ⟨hcz, e1, _, h63, h63'⟩ := h.v1 hz
    have HV := fun W => Lib.hid (cdVer1 s W (fun hh => hcz hh.2))
    have d1 : uvDec s.data.toList = .ok 1 1 := by rw [e1]; exact uvDec_one _
    have e2 : s.data.toList.drop 1 = Lib.uvarint x.codec ++ mhEnc x.code x.dig := by rw [e1]; rfl
    have d2 : uvDec (s.data.toList.drop 1) = .ok x.codec (Lib.uvarint x.codec).length := by rw [e2]; exact uvDec_back _ h63 _
    have e3 : s.data.toList.drop (1 + (Lib.uvarint x.codec).length) = mhEnc x.code x.dig := by rw [← List.drop_drop, e2, List.drop_left]
    have hln : s.data.toList.length = 1 + ((Lib.uvarint x.codec).length + (mhEnc x.code x.dig).length) := by rw [e1]; simp; omega
    have hln2 := ba_len s
    have hul := Lib.uvarint_length64 (x := x.codec) (by omega)
    obtain ⟨m, hm⟩ : ∃ m, m = (Lib.uvarint x.codec).length := ⟨_, rfl⟩
    rw [← hm] at d2 e3 hln hul
    have HD1 := Lib.hid d1
    have HD2 := Lib.hid d2
    have HE3 := Lib.hid e3
    have HLN := Lib.hid hln
    have HLN2 := Lib.hid hln2
    have HR0 := Lib.hid hr0
    clear h hz hcz e1 e2 e3 d1 d2 hr0 hm hln hln2
    generalize mhEnc x.code x.dig = M at *
    generalize x.codec = cdc at *
    generalize hL : s.data.toList = L at *
    obtain ⟨N, hN⟩ : ∃ N, N = L.length := ⟨_, rfl⟩
    have HN := Lib.hid hN
    have bN : N ≤ 2147483640 := by rw [hN, HLN2.out]; exact zM
    have bN1 : 1 + m ≤ N := by rw [hN, HLN.out]; omega
    have bNM : N - (1 + m) = M.length := by rw [hN, HLN.out]; omega
    have HNM := Lib.hid bNM
    clear hN hL z2 zM bNM
    go_enter Tryd.func43, Tryd.ntmps43
    go_wp2_with fail
    refine HB.out.mono ?_
    rintro e w1 ⟨⟨A, N', c, rfl, hbs⟩, hb1⟩
    obtain rfl : N = N' := HN.out.trans hbs.slice.1.symm
    have hb := below_next hA hb1
    have HBS := Lib.hid hbs
    have c0 := cell_of_row' (cur := [_]) (row_below hb1 (block_of_row HR0.out) HR0.out) 0
    clear hbs HB hA
    go_wp2_with fail
    refine (HV w1).out.mono ?_
    rintro e w2 ⟨rfl, hb2⟩
    have hb' := below_next hb hb2
    have hbs2 := HBS.out.below hb2
    have C1 := Lib.hid (fromUv_ok A N c L w2 hbs2 (by rw [← HN.out]; omega) (hu.below hb') 1 1 HD1.out)
    obtain ⟨r1, hs2⟩ := hbs2.from_ (P := Tryd.prog) Tryd.underlying43 info_u8 1 (by omega)
    have C2 : ∀ W, Below w2.heap.size w2 W → Hid (Calls Tryd.prog 79 #[.slice (cutA A c 1) (N - 1) (c - 1)] W fun e w' => e = .returned (.tuple #[.int .u64 cdc, .int .i64 m, .nilIface]) ∧ Below W.heap.size W w') := fun W hb =>
      Lib.hid (fromUv_ok _ _ _ _ W (hs2.below hb) (by rw [List.length_drop, ← HN.out]; omega) ((hu.below hb').below hb) cdc m HD2.out)
    obtain ⟨r2, hs3⟩ := hbs2.from_ (P := Tryd.prog) Tryd.underlying43 info_u8 (1 + m) (by omega)
    rw [HE3.out, HNM.out] at hs3
    rw [HNM.out] at r2
    have em : ((1 + m : Nat) : Int) = 1 + (m : Int) := by omega
    rw [em] at r2
    rw [show ((1 : Nat) : Int) = 1 from rfl] at r1 C1
    have HS3 := Lib.hid hs3
    clear hs2 hs3 em hbs2 HBS c0 hb2
    generalize cutA A c (1 + m) = A2 at *
    generalize cutA A c 1 = A1 at *
    generalize N - 1 = N1 at *
    generalize c - 1 = c1 at *
    generalize c - (1 + m) = c2 at *
    generalize hML : M.length = ML at *
    have HML := Lib.hid hML
    clear hML
    go_wp2_with fail
    refine C1.out.mono ?_
    rintro e w3 ⟨rfl, hb3⟩
    go_wp2_with fail
    refine (C2 w3 hb3).out.mono ?_
    rintro e w4 ⟨rfl, hb4⟩
    go_wp2
    go_ret
    exact ⟨⟨A2, ML, c2, rfl, HS3.out.below (below_next hb3 hb4)⟩, below_next hb' (below_next hb3 hb4)⟩
end Go.Proofs.YthfgnhgijgjggaaDoor
/- Contracts: (cid.Cid).Prefix, impl.cidOut. -/
namespace Go.Proofs.YthfgnhgijgjggaaDoor
open Go.RowKit

set_option maxRecDepth 100000 in
set_option maxHeartbeats 4000000 in
theorem cdPrefix_v0 (s : ByteArray) (x : CidD) (h : CidStr s x) (hz : x.ver = 0) (w : World) :
    Calls Tryd.prog 44 #[.agg #[.string s]] w fun e w' => e = .returned (.agg #[.int .u64 0, .int .u64 112, .int .u64 18, .int .i64 32]) ∧ Below w.heap.size w w' := by
  have hA : Below w.heap.size w ((w.alloc (.cells #[.string s] 80)).alloc (.cells #[.int .u64 0, .int .u64 0, .int .u64 0, .int .i64 0] 91)) := ((Below.refl _ _).alloc (Nat.le_refl _) _).alloc (by simp) _
  obtain ⟨h34, hcz, _⟩ := h.v0 hz
  have HV := fun W => Lib.hid (cdVer0 s W h34 hcz)
  have HR1 := Lib.hid (heap_alloc2_new w (.cells #[.string s] 80) (.cells #[.int .u64 0, .int .u64 0, .int .u64 0, .int .i64 0] 91))
  clear h34 hcz h hz
  go_enter Tryd.func44, Tryd.ntmps44
  go_wp2_with fail
  refine (HV _).out.mono ?_
  rintro e w1 ⟨rfl, hb1⟩
  have hb := below_next hA hb1
  have hr := row_below hb1 (block_of_row HR1.out) HR1.out
  have c0 := cell_of_row' (cur := [_, _, _, _]) hr 0
  have c1 := cell_of_row' (cur := [_, _, _, _]) hr 1
  have c2 := cell_of_row' (cur := [_, _, _, _]) hr 2
  have c3 := cell_of_row' (cur := [_, _, _, _]) hr 3
  have f0 := frozen_of_row' (cur := [_, _, _, _]) hr 0
  have f1 := frozen_of_row' (cur := [_, _, _, _]) hr 1
  have f2 := frozen_of_row' (cur := [_, _, _, _]) hr 2
  have f3 := frozen_of_row' (cur := [_, _, _, _]) hr 3
  have HR := Lib.hid hr
  clear hr hA HV HR1
  go_wp2
  refine bodyPost_ret (results_cell_row rfl _ _ (w.heap.size + 1) 91 #[.int .u64 0, .int .u64 112, .int .u64 18, .int .i64 32] (0, 0) _ rfl (by simp [World.setCell, Array.getElem?_modify, HR.out]) Tryd.underlying91 rfl (by kernel_rfl)) rfl ?_
  exact ⟨rfl, (((hb.setCell (by show w.heap.size ≤ w.heap.size + 1; omega) _).setCell (by show w.heap.size ≤ w.heap.size + 1; omega) _).setCell (by show w.heap.size ≤ w.heap.size + 1; omega) _).setCell (by show w.heap.size ≤ w.heap.size + 1; omega) _⟩

set_option maxRecDepth 100000 in
set_option maxHeartbeats 4000000 in
theorem cdPrefix_v1 (s : ByteArray) (x : CidD) (h : CidStr s x) (hz : x.ver ≠ 0) (w : World) :
    Calls Tryd.prog 44 #[.agg #[.string s]] w fun e w' => e = .returned (.agg #[.int .u64 1, .int .u64 x.codec, .int .u64 x.code, .int .i64 x.dig.length]) ∧ Below w.heap.size w w' := by
  have hA : Below w.heap.size w ((w.alloc (.cells #[.string s] 80)).alloc (.cells #[.int .u64 0, .int .u64 0, .int .u64 0, .int .i64 0] 91)) := ((Below.refl _ _).alloc (Nat.le_refl _) _).alloc (by simp) _
  obtain ⟨hcz, e1, _, h63, h63'⟩ := h.v1 hz
  have HV := fun W => Lib.hid (cdVer1 s W (fun hh => hcz hh.2))
  have HR0 := Lib.hid (heap_alloc2_old w (.cells #[.string s] 80) (.cells #[.int .u64 0, .int .u64 0, .int .u64 0, .int .i64 0] 91))
  have HR1 := Lib.hid (heap_alloc2_new w (.cells #[.string s] 80) (.cells #[.int .u64 0, .int .u64 0, .int .u64 0, .int .i64 0] 91))
  have hfit := h.fits
  obtain ⟨z2, zM⟩ := h.size
  obtain ⟨m, hm⟩ : ∃ m, m = (Lib.uvarint x.codec).length := ⟨_, rfl⟩
  obtain ⟨k, hk⟩ : ∃ k, k = (Lib.uvarint x.code).length := ⟨_, rfl⟩
  have lm := Lib.uvarint_length64 (x := x.codec) (by omega)
  have lk := Lib.uvarint_length64 (x := x.code) (by omega)
  rw [← hm] at lm
  rw [← hk] at lk
  have hsz : s.size = 1 + (m + (k + ((Lib.uvarint x.dig.length).length + x.dig.length))) := by
    rw [← ba_len, e1]; unfold mhEnc; simp only [List.length_cons, List.length_append]; omega
  have D0 : uvDec (s.data.toList.drop 0) = .ok 1 1 := by rw [e1]; exact uvDec_one _
  have D1 : uvDec (s.data.toList.drop 1) = .ok x.codec m := by rw [e1, hm]; exact uvDec_back _ h63 _
  have E2 : s.data.toList.drop (1 + m) = Lib.uvarint x.code ++ (Lib.uvarint x.dig.length ++ x.dig) := by rw [e1, ← List.drop_drop, hm]; show (Lib.uvarint x.codec ++ mhEnc x.code x.dig).drop _ = _; rw [List.drop_left]; rfl
  have D2 : uvDec (s.data.toList.drop (1 + m)) = .ok x.code k := by rw [E2, hk]; exact uvDec_back _ h63' _
  have D3 : uvDec (s.data.toList.drop (1 + m + k)) = .ok x.dig.length (Lib.uvarint x.dig.length).length := by rw [← List.drop_drop, E2, hk, List.drop_left]; exact uvDec_back _ (by omega) _
  have T0 := fun W => run_str_from (P := Tryd.prog) Tryd.underlying9 s 0 (by omega) 0 rfl W
  have T1 := fun W => run_str_from (P := Tryd.prog) Tryd.underlying9 s 1 (by omega) 1 rfl W
  have T2 := fun W => run_str_from (P := Tryd.prog) Tryd.underlying9 s (1 + m) (by omega) (1 + (m : Int)) (by omega) W
  have T3 := fun W => run_str_from (P := Tryd.prog) Tryd.underlying9 s (1 + m + k) (by omega) (1 + (m : Int) + k) (by omega) W
  have U : ∀ j y q, uvDec (s.data.toList.drop j) = .ok y q → ∀ W, Hid (Calls Tryd.prog 80 #[.string ⟨(s.data.toList.drop j).toArray⟩] W fun e w' => e = .returned (.tuple #[.int .u64 y, .int .i64 q, .nilIface]) ∧ Below W.heap.size W w') := fun j y q hd W =>
    Lib.hid (cdUv_ok ⟨(s.data.toList.drop j).toArray⟩ W y q hd (by show (s.data.toList.drop j).toArray.size ≤ _; rw [List.size_toArray, List.length_drop, ba_len]; omega))
  have U0 := U 0 _ _ D0
  have U1 := U 1 _ _ D1
  have U2 := U (1 + m) _ _ D2
  have U3 := U (1 + m + k) _ _ D3
  have hw : wrap64 (x.dig.length : Int) = (x.dig.length : Int) := by unfold wrap64; omega
  rw [show ((1 : Nat) : Int) = 1 from rfl] at U0
  clear U D0 D1 D2 D3 E2 e1 hcz h hz hsz hm hk z2 zM h63 h63'
  generalize (Lib.uvarint x.dig.length).length = q at *
  generalize (⟨(s.data.toList.drop 0).toArray⟩ : ByteArray) = S0 at *
  generalize (⟨(s.data.toList.drop 1).toArray⟩ : ByteArray) = S1 at *
  generalize (⟨(s.data.toList.drop (1 + m)).toArray⟩ : ByteArray) = S2 at *
  generalize (⟨(s.data.toList.drop (1 + m + k)).toArray⟩ : ByteArray) = S3 at *
  generalize x.codec = cdc at *
  generalize x.code = code at *
  generalize x.dig.length = dl at *
  go_enter Tryd.func44, Tryd.ntmps44
  go_wp2_with fail
  refine (HV _).out.mono ?_
  rintro e w1 ⟨rfl, hb1⟩
  have hb := below_next hA hb1
  have r0 := row_below hb1 (block_of_row HR0.out) HR0.out
  have r1 := row_below hb1 (block_of_row HR1.out) HR1.out
  have c0 := cell_of_row' (cur := [_]) r0 0
  have HR := Lib.hid r1
  have HRR := Lib.hid r0
  clear r0 r1 hA HV HR0 HR1 hb1
  go_wp2_with fail
  refine (U0 _).out.mono ?_
  rintro e w2 ⟨rfl, hb2⟩
  have q0 := row_below hb2 (block_of_row HRR.out) HRR.out
  have c0 := cell_of_row' (cur := [_]) q0 0
  have Q0 := Lib.hid q0
  clear q0
  go_wp2_with fail
  refine (U1 _).out.mono ?_
  rintro e w3 ⟨rfl, hb3⟩
  have q0 := row_below hb3 (block_of_row Q0.out) Q0.out
  have c0 := cell_of_row' (cur := [_]) q0 0
  have Q1 := Lib.hid q0
  clear q0
  go_wp2_with fail
  refine (U2 _).out.mono ?_
  rintro e w4 ⟨rfl, hb4⟩
  have q0 := row_below hb4 (block_of_row Q1.out) Q1.out
  have c0 := cell_of_row' (cur := [_]) q0 0
  clear q0
  go_wp2_with fail
  refine (U3 _).out.mono ?_
  rintro e w5 ⟨rfl, hb5⟩
  have hb25 := below_next (below_next (below_next hb2 hb3) hb4) hb5
  have hb' := below_next hb hb25
  have hr := row_below hb25 (block_of_row HR.out) HR.out
  have d0 := cell_of_row' (cur := [_, _, _, _]) hr 0
  have d1 := cell_of_row' (cur := [_, _, _, _]) hr 1
  have d2 := cell_of_row' (cur := [_, _, _, _]) hr 2
  have d3 := cell_of_row' (cur := [_, _, _, _]) hr 3
  have f0 := frozen_of_row' (cur := [_, _, _, _]) hr 0
  have f1 := frozen_of_row' (cur := [_, _, _, _]) hr 1
  have f2 := frozen_of_row' (cur := [_, _, _, _]) hr 2
  have f3 := frozen_of_row' (cur := [_, _, _, _]) hr 3
  have HR5 := Lib.hid hr
  clear hr hb25 hb2 hb3 hb4 hb5 Q0 Q1 HR HRR U0 U1 U2 U3
  go_wp2
  refine bodyPost_ret (results_cell_row rfl _ _ (w.heap.size + 1) 91 #[.int .u64 1, .int .u64 cdc, .int .u64 code, .int .i64 dl] (0, 0) _ rfl (by simp [World.setCell, Array.getElem?_modify, HR5.out]) Tryd.underlying91 rfl (by kernel_rfl)) rfl ?_
  exact ⟨rfl, (((hb'.setCell (by show w.heap.size ≤ w.heap.size + 1; omega) _).setCell (by show w.heap.size ≤ w.heap.size + 1; omega) _).setCell (by show w.heap.size ≤ w.heap.size + 1; omega) _).setCell (by show w.heap.size ≤ w.heap.size + 1; omega) _⟩

theorem cdPrefix (s : ByteArray) (x : CidD) (h : CidStr s x) (w : World) :
    Calls Tryd.prog 44 #[.agg #[.string s]] w fun e w' => e = .returned (.agg #[.int .u64 x.ver, .int .u64 x.codec, .int .u64 x.code, .int .i64 x.dig.length]) ∧ Below w.heap.size w w' := by
  by_cases hz : x.ver = 0
  · obtain ⟨_, _, _, hx, hl⟩ := h.v0 hz
    have := cdPrefix_v0 s x h hz w
    rw [hl, hx]
    exact this
  · obtain ⟨_, _, hv, _⟩ := h.v1 hz
    have := cdPrefix_v1 s x h hz w
    rw [hv]
    exact this
end Go.Proofs.YthfgnhgijgjggaaDoor
/- Contracts: impl.cidOut. -/
namespace Go.Proofs.YthfgnhgijgjggaaDoor
open Go.RowKit

abbrev outZ : Obj := .cells #[.int .u64 0, .int .u64 0, .int .u64 0, .string ⟨#[]⟩] 26

set_option maxRecDepth 100000 in
set_option maxHeartbeats 8000000 in
theorem cidOut_ok (s : ByteArray) (x : CidD) (h : CidStr s x) (w : World) (hu : UvS w) :
    Calls Tryd.prog 60 #[.agg #[.string s]] w fun e w' => e = .returned (.agg #[.int .u64 x.ver, .int .u64 x.codec, .int .u64 x.code, .string ⟨x.dig.toArray⟩]) ∧ Below w.heap.size w w' := by
  have hA : Below w.heap.size w ((w.alloc (.cells #[.string s] 80)).alloc outZ) := ((Below.refl _ _).alloc (Nat.le_refl _) _).alloc (by simp) _
  have HR0 := Lib.hid (heap_alloc2_old w (.cells #[.string s] 80) outZ)
  have HR1 := Lib.hid (heap_alloc2_new w (.cells #[.string s] 80) outZ)
  have HP := fun W => Lib.hid (cdPrefix s x h W)
  have HH := fun W (hb : Below w.heap.size w W) => Lib.hid (cdHash s x h W (hu.below hb))
  have hfit := h.fits
  have hcode : x.code < 9223372036854775808 := by rcases h.tidy with ⟨_, _, h2, _⟩ | ⟨_, _, h2⟩ <;> omega
  have hmr := mhRd_enc x.code x.dig [] hcode (by omega)
  rw [List.append_nil] at hmr
  have hml := (mhEnc_len_le x.code x.dig (by omega) (by omega)).2
  have HMR := Lib.hid hmr
  clear h hcode hmr
  generalize mhEnc x.code x.dig = M at *
  generalize hdl : (x.dig.length : Int) = dl at HP
  have HDL := Lib.hid hdl
  clear hdl
  generalize (x.ver : Int) = v0 at *
  generalize (x.codec : Int) = v1 at *
  generalize hS : (⟨x.dig.toArray⟩ : ByteArray) = S at *
  have HSS := Lib.hid hS
  clear hS
  go_enter Tryd.func60, Tryd.ntmps60
  go_wp2_with fail
  refine (HP _).out.mono ?_
  rintro e w1 ⟨rfl, hb1⟩
  have hb := below_next hA hb1
  have r0 := row_below hb1 (block_of_row HR0.out) HR0.out
  have r1 := row_below hb1 (block_of_row HR1.out) HR1.out
  have hz1 : w.heap.size + 2 ≤ w1.heap.size := by have := hb1.size; simpa using this
  obtain ⟨w2, hw2⟩ : ∃ w2, w2 = w1.alloc (.cells #[.int .u64 v0, .int .u64 v1, .int .u64 x.code, .int .i64 dl] 91) := ⟨_, rfl⟩
  have hb12 : Below w1.heap.size w1 w2 := by rw [hw2]; exact (Below.refl _ _).alloc (Nat.le_refl _) _
  have r2 : w2.heap[w1.heap.size]? = some (.cells #[.int .u64 v0, .int .u64 v1, .int .u64 x.code, .int .i64 dl] 91 (0, 0)) := by rw [hw2]; exact heap_alloc_new _ _
  have c0 : (w1.alloc (.cells #[.int .u64 v0, .int .u64 v1, .int .u64 x.code, .int .i64 dl] 91)).cell? ⟨w.heap.size, 0, none⟩ = some (.string s) := by rw [← hw2]; exact cell_of_row' (cur := [_]) (row_below hb12 (block_of_row r0) r0) 0
  have hb2 := below_next hb hb12
  have HR2 := Lib.hid r2
  have HRO := Lib.hid (row_below hb12 (block_of_row r1) r1)
  have HC := HH w2 hb2
  rw [hw2] at HC
  have HW2 := Lib.hid hw2
  clear hw2 r0 r1 r2 hb1 HH hA HR0 HR1 hb hb12 HP
  go_wp2_with fail
  refine HC.out.mono ?_
  rw [← HW2.out]
  rintro e w3 ⟨⟨A, n, c, rfl, hbs⟩, hb3⟩
  have hb3' := below_next hb2 hb3
  have hnM := hbs.slice.1
  have hmr := HMR.out
  rw [← hnM] at hmr
  obtain ⟨A', c', hs', hc⟩ := Decode_ok A n c M w3 hbs (by rw [← hnM]; omega) (hu.below hb3') x.code x.dig hmr
  have HC3 := Lib.hid (hc w3 (Below.refl _ _))
  have HS3 := Lib.hid hs'
  clear hc hs' hmr hbs hnM c0 HC
  go_wp2_with fail
  refine HC3.out.mono ?_
  rintro e w4 ⟨⟨g, rfl, hg, hrow⟩, hb4⟩
  have hb34 := below_next hb3 hb4
  have hb4' := below_next hb2 hb34
  have ro := row_below hb34 (block_of_row HRO.out) HRO.out
  have rp := row_below hb34 (block_of_row HR2.out) HR2.out
  have p0 := cell_of_row' (cur := [_, _, _, _]) rp 0
  have p1 := cell_of_row' (cur := [_, _, _, _]) rp 1
  have g0 : w4.cell? ⟨g, 0, none⟩ = some (.int .u64 x.code) := by simp [World.cell?, hrow]
  have g3 : w4.cell? ⟨g, 3, none⟩ = some (.slice A' x.dig.length c') := by simp [World.cell?, hrow]
  have hcv : ∀ q, (convert 43 9 (.slice A' x.dig.length c')).run Tryd.prog (w4.drewN q) = .ok (.string ⟨x.dig.toArray⟩) (w4.drewN q) := fun q =>
    (((HS3.out.below hb4).drewN q).str Tryd.underlying43 Tryd.underlying5 Tryd.underlying9)
  rw [HSS.out] at hcv
  have HO := Lib.hid ro
  clear hrow rp ro HC3 HS3 HRO HR2 HW2 HMR HDL
  generalize x.dig.length = D at *
  have hcvd : (convert 43 9 (.slice A' D c')).run Tryd.prog w4.drew = .ok (.string S) w4.drew := hcv 1
  clear hcv
  go_wp2_with fail
  go_still_tail 14, (by kernel_rfl)
  change wpList _ _ _ _ _ w4.drew
  have k0 : w4.drew.cell? ⟨w.heap.size + 1, 0, none⟩ = _ := cell_of_row' (cur := [_, _, _, _]) HO.out 0
  have k1 : w4.drew.cell? ⟨w.heap.size + 1, 1, none⟩ = _ := cell_of_row' (cur := [_, _, _, _]) HO.out 1
  have k2 : w4.drew.cell? ⟨w.heap.size + 1, 2, none⟩ = _ := cell_of_row' (cur := [_, _, _, _]) HO.out 2
  have k3 : w4.drew.cell? ⟨w.heap.size + 1, 3, none⟩ = _ := cell_of_row' (cur := [_, _, _, _]) HO.out 3
  have f0 : w4.drew.frozen? ⟨w.heap.size + 1, 0, none⟩ = _ := frozen_of_row' (cur := [_, _, _, _]) HO.out 0
  have f1 : w4.drew.frozen? ⟨w.heap.size + 1, 1, none⟩ = _ := frozen_of_row' (cur := [_, _, _, _]) HO.out 1
  have f2 : w4.drew.frozen? ⟨w.heap.size + 1, 2, none⟩ = _ := frozen_of_row' (cur := [_, _, _, _]) HO.out 2
  have f3 : w4.drew.frozen? ⟨w.heap.size + 1, 3, none⟩ = _ := frozen_of_row' (cur := [_, _, _, _]) HO.out 3
  have HO5 : Hid (w4.drew.heap[w.heap.size + 1]? = some outZ) := HO
  have hb5 : Below w.heap.size w w4.drew := hb4'.drewN 1
  clear HO p0 p1 g0 g3 hcvd hb34 hb4 hb3 hb4' hb3'
  generalize w4.drew = w5 at *
  go_wp2
  refine bodyPost_ret (results_cell_row rfl _ _ (w.heap.size + 1) 26 #[.int .u64 v0, .int .u64 v1, .int .u64 x.code, .string S] (0, 0) _ rfl (by simp [World.setCell, Array.getElem?_modify, HO5.out]) Tryd.underlying26 rfl (by kernel_rfl)) rfl ?_
  exact ⟨rfl, (((hb5.setCell (by show w.heap.size ≤ w.heap.size + 1; omega) _).setCell (by show w.heap.size ≤ w.heap.size + 1; omega) _).setCell (by show w.heap.size ≤ w.heap.size + 1; omega) _).setCell (by show w.heap.size ≤ w.heap.size + 1; omega) _⟩
end Go.Proofs.YthfgnhgijgjggaaDoor
/- Contracts: cid.Cast; impl.CdRead, impl.CdCast. -/
namespace Go.Proofs.YthfgnhgijgjggaaDoor
open Go.RowKit

section
variable {P : Program}
theorem results_row_tmp2 {fn : Func} {p u u2 : Tmp} {ty : TypeId} (h : fn.results = #[.cell p ty, .tmp u, .tmp u2]) (tmps : Array Value) (w : World) (g : Nat) (t : TypeId) (cs : Array Value) (fr : Nat × Nat) (d : TypeDesc)
    (hp : tmps.getD p undef = .pointer (some ⟨g, 0, none⟩)) (hg : w.heap[g]? = some (.cells cs t fr))
    (hu : P.underlying ty = some d) (hd : (match d with | .struct _ | .array _ _ => true | _ => false) = true) (hi : (P.info? ty).map (·.size) = some cs.size) :
    (results fn tmps).run P w = .ok (.tuple #[.agg cs, tmps.getD u undef, tmps.getD u2 undef]) w := by
  have hp' : tmps[p]?.getD undef = .pointer (some ⟨g, 0, none⟩) := by simpa using hp
  simp only [results, h]
  simp [Result.andThen, hp', asAddr, run_loadVar_row w g t ty cs fr d hg hu hd hi]
end

theorem cidStr_rd {l : List UInt8} {x : CidD} {k : Nat} (h : cidRd l = some (x, k)) (hl : l.length ≤ 2147483600) : CidStr ⟨(cidEnc x).toArray⟩ x := by
  obtain ⟨_, _, ht, _⟩ := cidRd_take h
  have := cidRd_dig h
  exact ⟨rfl, ht, by omega⟩

/-- impl.Cid as zeros. -/
abbrev noCid : Value := .agg #[.int .u64 0, .int .u64 0, .int .u64 0, .string ⟨#[]⟩]
def cidVal (x : CidD) : Value := .agg #[.int .u64 x.ver, .int .u64 x.codec, .int .u64 x.code, .string ⟨x.dig.toArray⟩]

/-- What the walks need of a result's variable of type impl.Cid. -/
structure OutVar (w : World) (g : Nat) : Prop where
  row : w.heap[g]? = some outZ
theorem OutVar.cells {w : World} {g : Nat} (h : OutVar w g) : (w.cell? ⟨g, 0, none⟩ = some (.int .u64 0) ∧ w.cell? ⟨g, 1, none⟩ = some (.int .u64 0) ∧ w.cell? ⟨g, 2, none⟩ = some (.int .u64 0) ∧ w.cell? ⟨g, 3, none⟩ = some (.string ⟨#[]⟩)) ∧
    (w.frozen? ⟨g, 0, none⟩ = false ∧ w.frozen? ⟨g, 1, none⟩ = false ∧ w.frozen? ⟨g, 2, none⟩ = false ∧ w.frozen? ⟨g, 3, none⟩ = false) :=
  ⟨⟨cell_of_row' (cur := [_, _, _, _]) h.row 0, cell_of_row' (cur := [_, _, _, _]) h.row 1, cell_of_row' (cur := [_, _, _, _]) h.row 2, cell_of_row' (cur := [_, _, _, _]) h.row 3⟩,
    ⟨frozen_of_row' (cur := [_, _, _, _]) h.row 0, frozen_of_row' (cur := [_, _, _, _]) h.row 1, frozen_of_row' (cur := [_, _, _, _]) h.row 2, frozen_of_row' (cur := [_, _, _, _]) h.row 3⟩⟩
theorem OutVar.below {w w' : World} {g : Nat} (h : OutVar w g) (hb : Below w.heap.size w w') : OutVar w' g := ⟨row_below hb (block_of_row h.row) h.row⟩
theorem set4 {w : World} {g : Nat} {a b c d : Value} {t : TypeId} (h : w.heap[g]? = some (.cells #[a, b, c, d] t (0, 0))) (p q r s : Value) :
    ((((w.setCell ⟨g, 0, none⟩ p).setCell ⟨g, 1, none⟩ q).setCell ⟨g, 2, none⟩ r).setCell ⟨g, 3, none⟩ s).heap[g]? = some (.cells #[p, q, r, s] t (0, 0)) :=
  Lib.heap_setCell_same (i := 3) (Lib.heap_setCell_same (i := 2) (Lib.heap_setCell_same (i := 1) (Lib.heap_setCell_same (i := 0) h p) q) r) s
theorem below_set4 {B : Nat} {w w' : World} {g : Nat} (h : Below B w w') (hB : B ≤ g) (p q r s : Value) : Below B w ((((w'.setCell ⟨g, 0, none⟩ p).setCell ⟨g, 1, none⟩ q).setCell ⟨g, 2, none⟩ r).setCell ⟨g, 3, none⟩ s) :=
  (((h.setCell hB _).setCell hB _).setCell hB _).setCell hB _
end Go.Proofs.YthfgnhgijgjggaaDoor
/- Contracts: impl.CdRead, impl.CdCast; laws.cdOne. -/
namespace Go.Proofs.YthfgnhgijgjggaaDoor
open Go.RowKit

theorem conv_in' (w : World) (s : ByteArray) : ∃ A c w1, (convert 9 43 (.string s)).run Tryd.prog w = .ok (.slice A s.size c) w1 ∧ Below w.heap.size w w1 ∧ BS w1 (.slice A s.size c) s.data.toList := by
  obtain ⟨c, w1, h⟩ := conv_in w s
  exact ⟨_, c, w1, h⟩

theorem cidVal_eq (v0 v1 v2 : Int) (S : ByteArray) (x : CidD) (h0 : (x.ver : Int) = v0) (h1 : (x.codec : Int) = v1) (h2 : (x.code : Int) = v2) (hS : (⟨x.dig.toArray⟩ : ByteArray) = S) : cidVal x = .agg #[.int .u64 v0, .int .u64 v1, .int .u64 v2, .string S] := by
  subst h0 h1 h2 hS; rfl

set_option maxRecDepth 100000 in
set_option maxHeartbeats 4000000 in
theorem cdReadI_ok (s : ByteArray) (w : World) (hm : s.size ≤ 2147483600) (hu : CdS w) (x : CidD) (k : Nat) (hd : cidRd s.data.toList = some (x, k)) :
    Calls Tryd.prog 48 #[.string s] w fun e w' => e = .returned (.tuple #[cidVal x, .int .i64 k, .bool true]) ∧ Below w.heap.size w w' := by
  have hA : Below w.heap.size w (w.alloc outZ) := (Below.refl _ _).alloc (Nat.le_refl _) _
  obtain ⟨A, c, w1, hconv, hb1, hbs⟩ := conv_in' (w.alloc outZ) s
  have hb := below_next hA hb1
  have HC := Lib.hid (cidFrom_ok _ _ _ _ w1 hbs (by rw [ba_len]; omega) (hu.below hb) x k hd)
  have hO : OutVar w1 w.heap.size := OutVar.below ⟨heap_alloc_new w outZ⟩ hb1
  have HOut := fun W (h : Below w.heap.size w W) => Lib.hid (cidOut_ok ⟨(cidEnc x).toArray⟩ x (cidStr_rd hd (by rw [ba_len]; omega)) W (hu.below h).toUvS)
  have hz1 : w.heap.size + 1 ≤ w1.heap.size := by have := hb1.size; simpa using this
  have CE := Lib.hid (cidVal_eq _ _ _ _ x rfl rfl rfl rfl)
  generalize (⟨(cidEnc x).toArray⟩ : ByteArray) = E at *
  generalize (x.ver : Int) = v0 at *
  generalize (x.codec : Int) = v1 at *
  generalize (x.code : Int) = v2 at *
  generalize (⟨x.dig.toArray⟩ : ByteArray) = S at *
  rw [CE.out]
  clear CE hd hu hbs hb1
  go_enter Tryd.func48, Tryd.ntmps48
  go_wp2_with fail
  refine HC.out.mono ?_
  rintro e w2 ⟨rfl, hb2⟩
  have hb' := below_next hb hb2
  have hb3 : Below w2.heap.size w2 (w2.alloc (.cells #[.string E] 80)) := (Below.refl _ _).alloc (Nat.le_refl _) _
  have hb4 := below_next hb' hb3
  have hO3 := (hO.below hb2).below hb3
  have HD := HOut _ hb4
  clear hO HC HOut hconv hb' hb3 hb hA hm
  go_wp2_with fail
  refine HD.out.mono ?_
  rintro e w4 ⟨rfl, hb5⟩
  have hO4 := hO3.below hb5
  have hb6 := below_next hb4 hb5
  obtain ⟨⟨k0, k1, k2, k3⟩, f0, f1, f2, f3⟩ := hO4.cells
  have HO := Lib.hid hO4.row
  clear hO3 hO4 HD hb4 hb5
  go_wp2
  refine bodyPost_ret (results_row_tmp2 rfl _ _ (w.heap.size) 26 #[.int .u64 v0, .int .u64 v1, .int .u64 v2, .string S] (0, 0) _ rfl (set4 HO.out _ _ _ _) Tryd.underlying26 rfl (by kernel_rfl)) rfl ?_
  exact ⟨rfl, below_set4 hb6 (Nat.le_refl _) _ _ _ _⟩

set_option maxRecDepth 100000 in
set_option maxHeartbeats 4000000 in
theorem cdReadI_no (s : ByteArray) (w : World) (hm : s.size ≤ 2147483600) (hu : CdS w) (hd : cidRd s.data.toList = none) :
    Calls Tryd.prog 48 #[.string s] w fun e w' => e = .returned (.tuple #[noCid, .int .i64 0, .bool false]) ∧ Below w.heap.size w w' := by
  have hA : Below w.heap.size w (w.alloc outZ) := (Below.refl _ _).alloc (Nat.le_refl _) _
  obtain ⟨A, c, w1, hconv, hb1, hbs⟩ := conv_in' (w.alloc outZ) s
  have hb := below_next hA hb1
  have HC := Lib.hid (cidFrom_no _ _ _ _ w1 hbs (by rw [ba_len]; omega) (hu.below hb) hd)
  have hO : OutVar w1 w.heap.size := OutVar.below ⟨heap_alloc_new w outZ⟩ hb1
  clear hd hu hbs hb1
  go_enter Tryd.func48, Tryd.ntmps48
  go_wp2_with fail
  refine HC.out.mono ?_
  rintro e w2 ⟨⟨E, t, p, rfl⟩, hb2⟩
  have hb' := below_next hb hb2
  have hO2 := hO.below hb2
  have hO3 := fun o => hO2.below ((Below.refl w2.heap.size w2).alloc (Nat.le_refl _) o)
  have k0 := fun o => (hO3 o).cells.1.1
  have k1 := fun o => (hO3 o).cells.1.2.1
  have k2 := fun o => (hO3 o).cells.1.2.2.1
  have k3 := fun o => (hO3 o).cells.1.2.2.2
  have f0 := fun o => (hO3 o).cells.2.1
  have f1 := fun o => (hO3 o).cells.2.2.1
  have f2 := fun o => (hO3 o).cells.2.2.2.1
  have f3 := fun o => (hO3 o).cells.2.2.2.2
  have HO := fun o => Lib.hid (hO3 o).row
  clear hO hO2 hO3 HC hconv hb hA hm
  go_wp2
  refine bodyPost_ret (results_row_tmp2 rfl _ _ (w.heap.size) 26 #[.int .u64 0, .int .u64 0, .int .u64 0, .string ⟨#[]⟩] (0, 0) _ rfl (set4 (HO _).out _ _ _ _) Tryd.underlying26 rfl (by kernel_rfl)) rfl ?_
  exact ⟨rfl, below_set4 (hb'.alloc hb'.size _) (Nat.le_refl _) _ _ _ _⟩

end Go.Proofs.YthfgnhgijgjggaaDoor
namespace Go.Proofs.YthfgnhgijgjggaaDoor
open Go.RowKit

/-- What spec.ReadVarint answers. -/
def UvR.spec : UvR → Value
  | .ok x m => .tuple #[.int .u64 x, .int .i64 m, .int .i64 0]
  | .under => .tuple #[.int .u64 0, .int .i64 0, .int .i64 1]
  | .over => .tuple #[.int .u64 0, .int .i64 0, .int .i64 2]
  | .notMin => .tuple #[.int .u64 0, .int .i64 0, .int .i64 3]

theorem UvR.spec_eq {Y M : Int} {x m : Nat} (h : Y = x) (h2 : M = m) : Ending.returned (.tuple #[.int .u64 Y, .int .i64 M, .int .i64 0]) = .returned (UvR.ok x m).spec := by
  rw [h, h2]; rfl

set_option maxRecDepth 100000 in
set_option maxHeartbeats 1000000 in
theorem readVarint_any (s : ByteArray) (w : World) (hm : s.size ≤ 9223372036854775807) :
    Calls Tryd.prog 57 #[.string s] w fun e w' => e = .returned (uvDec s.data.toList).spec ∧ w = w' := by
  have hlen : s.data.toList.length = s.size := by rw [Array.length_toList]; rfl
  have HL := Lib.hid hlen
  clear hlen
  go_enter Tryd.func57, Tryd.ntmps57
  go_wp2
  go_loop [5, 6] (fun x i => ∃ (k X : Nat), k ≤ s.size ∧ k ≤ 9 ∧ X < 2 ^ (7 * k) ∧ i = .int .i64 k ∧ x = .int .u64 X ∧ Hid (uvDec s.data.toList = uvGo k X (s.data.toList.drop k))) (fun _ i => s.size - (intOf i).toNat)
  case atStart => exact ⟨0, 0, by omega, by omega, by decide, rfl, rfl, Lib.hid rfl⟩
  case round =>
    obtain ⟨k, X, hk, hk10, hX, rfl, rfl, hd⟩ := hrel
    by_cases hlt : k < s.size
    · have hlt' : k < s.data.toList.length := by rw [HL.out]; exact hlt
      have hsk : s.data.toList[k] = s[k] := by simp; rfl
      have hb : s[k].toNat < 256 := UInt8.toNat_lt _
      have hstep : uvGo k X (s.data.toList.drop k) = (if (k = 8 ∧ 128 ≤ s[k].toNat) ∨ 9 ≤ k then .over
          else if s[k].toNat < 128 then (if s[k].toNat = 0 ∧ 0 < k then .notMin else .ok (X + s[k].toNat * 2 ^ (7 * k)) (k + 1))
          else uvGo (k + 1) (X + (s[k].toNat % 128) * 2 ^ (7 * k)) (s.data.toList.drop (k + 1))) := by
        rw [List.drop_eq_getElem_cons hlt', uvGo, hsk]
      clear hsk
      have HST := Lib.hid hstep
      clear hstep
      go_wp2
      · have h8 : (k : Int) = 8 := by assumption
        obtain rfl : k = 8 := by omega
        have h0 : ((s[8].toNat : Int) == 0) = true := by assumption
        have h0' : s[8].toNat = 0 := by simpa using h0
        have hf : uvDec s.data.toList = .notMin := by rw [hd.out, HST.out, if_neg (by omega), if_pos (by omega), if_pos (by omega)]
        go_ret3
        exact ⟨by rw [hf]; rfl, rfl⟩
      · have h8 : (k : Int) = 8 := by assumption
        obtain rfl : k = 8 := by omega
        have h0 : ((s[8].toNat : Int) == 0) = false := by assumption
        have h0' : ¬ s[8].toNat = 0 := by simpa using h0
        have h1 : (s[8].toNat : Int) < 128 := by assumption
        have hf : uvDec s.data.toList = .ok (X + s[8].toNat * 2 ^ (7 * 8)) (8 + 1) := by rw [hd.out, HST.out, if_neg (by omega), if_pos (by omega), if_neg (by omega)]
        have hor := uv_or_and 8 X s[8].toNat (by omega) hX hb
        rw [Nat.mod_eq_of_lt (by omega)] at hor
        go_ret3
        exact ⟨by rw [hf]; exact UvR.spec_eq hor rfl, rfl⟩
      · have h8 : (k : Int) = 8 := by assumption
        obtain rfl : k = 8 := by omega
        have h1 : (128 : Int) ≤ s[8].toNat := by assumption
        have hf : uvDec s.data.toList = .over := by rw [hd.out, HST.out, if_pos (Or.inl ⟨rfl, by omega⟩)]
        go_ret3
        exact ⟨by rw [hf]; rfl, rfl⟩
      · have h9 : (9 : Int) ≤ k := by assumption
        have hf : uvDec s.data.toList = .over := by rw [hd.out, HST.out, if_pos (Or.inr (by omega))]
        go_ret3
        exact ⟨by rw [hf]; rfl, rfl⟩
      · have h8 : ¬ (k : Int) = 8 := by assumption
        have h9 : (k : Int) < 9 := by assumption
        have h1 : (s[k].toNat : Int) < 128 := by assumption
        have h2 : 0 < k := by assumption
        have h0 : ((s[k].toNat : Int) == 0) = true := by assumption
        have h0' : s[k].toNat = 0 := by simpa using h0
        have hf : uvDec s.data.toList = .notMin := by rw [hd.out, HST.out, if_neg (by omega), if_pos (by omega), if_pos (by omega)]
        go_ret3
        exact ⟨by rw [hf]; rfl, rfl⟩
      · have h8 : ¬ (k : Int) = 8 := by assumption
        have h9 : (k : Int) < 9 := by assumption
        have h1 : (s[k].toNat : Int) < 128 := by assumption
        have h0 : ((s[k].toNat : Int) == 0) = false := by assumption
        have h0' : ¬ s[k].toNat = 0 := by simpa using h0
        have hf : uvDec s.data.toList = .ok (X + s[k].toNat * 2 ^ (7 * k)) (k + 1) := by rw [hd.out, HST.out, if_neg (by omega), if_pos (by omega), if_neg (by omega)]
        have hor := uv_or_and k X s[k].toNat (by omega) hX hb
        rw [Nat.mod_eq_of_lt (by omega)] at hor
        go_ret3
        exact ⟨by rw [hf]; exact UvR.spec_eq hor (by omega), rfl⟩
      · have h8 : ¬ (k : Int) = 8 := by assumption
        have h9 : (k : Int) < 9 := by assumption
        have h1 : (s[k].toNat : Int) < 128 := by assumption
        have h2 : ¬ 0 < k := by assumption
        have hf : uvDec s.data.toList = .ok (X + s[k].toNat * 2 ^ (7 * k)) (k + 1) := by rw [hd.out, HST.out, if_neg (by omega), if_pos (by omega), if_neg (by omega)]
        have hor := uv_or_and k X s[k].toNat (by omega) hX hb
        rw [Nat.mod_eq_of_lt (by omega)] at hor
        go_ret3
        exact ⟨by rw [hf]; exact UvR.spec_eq hor (by omega), rfl⟩
      · have h8 : ¬ (k : Int) = 8 := by assumption
        have h9 : (k : Int) < 9 := by assumption
        have h1 : (128 : Int) ≤ s[k].toNat := by assumption
        have hor := uv_or_and k X s[k].toNat (by omega) hX hb
        exact ⟨⟨k + 1, X + s[k].toNat % 128 * 2 ^ (7 * k), by omega, by omega, uv_step_lt k X _ hX (by omega), by go_num, by rw [hor],
          Lib.hid (by rw [hd.out, HST.out, if_neg (by omega), if_neg (by omega)])⟩, by simp [intOf]; omega⟩
    · have hkn : k = s.data.toList.length := by rw [HL.out]; omega
      have hf : Hid (uvDec s.data.toList = .under) := Lib.hid (by rw [hd.out, hkn, List.drop_length]; rfl)
      clear hkn
      go_wp2
      go_ret3
      exact ⟨by rw [hf.out]; rfl, rfl⟩
end Go.Proofs.YthfgnhgijgjggaaDoor
