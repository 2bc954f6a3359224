/- Contracts of package multihash: reading the varint, the multihash, taking it apart. -/
import Derived.Test.YthfgnhgijgjggaaDoorUvC
import Derived.Test.YthfgnhgijgjggaaDoorMhPlain
import Derived.Outline
namespace Go.Proofs.YthfgnhgijgjggaaDoor
open Go.RowKit

/-- Variable g holds an error that is not nil. -/
def IsErr (w : World) (g : Nat) : Prop := ∃ t p, w.cell? ⟨g, 0, none⟩ = some (.iface t p)
theorem IsErr.below {w w' : World} {g : Nat} (h : IsErr w g) (hb : Below w.heap.size w w') : IsErr w' g := by
  obtain ⟨t, p, h⟩ := h; exact ⟨t, p, below_cell hb h⟩
/-- The three sentinels of package varint. -/
structure UvS (w : World) : Prop where
  T : ∃ T, (∃ p, w.cell? ⟨2, 0, none⟩ = some (.iface T p)) ∧ (∃ p, w.cell? ⟨3, 0, none⟩ = some (.iface T p)) ∧ (∃ p, w.cell? ⟨4, 0, none⟩ = some (.iface T p))
theorem UvS.below {w w' : World} (h : UvS w) (hb : Below w.heap.size w w') : UvS w' := by
  obtain ⟨T, ⟨p1, h1⟩, ⟨p2, h2⟩, ⟨p3, h3⟩⟩ := h.T
  exact ⟨T, ⟨p1, below_cell hb h1⟩, ⟨p2, below_cell hb h2⟩, ⟨p3, below_cell hb h3⟩⟩
/-- .. and those of package multihash. -/
structure MhS (w : World) : Prop extends UvS w where
  short : IsErr w 8
theorem MhS.below {w w' : World} (h : MhS w) (hb : Below w.heap.size w w') : MhS w' := ⟨h.toUvS.below hb, h.short.below hb⟩

theorem fromUv_ok (A : Option Addr) (n c : Nat) (l : List UInt8) (w : World) (hs : BS w (.slice A n c) l) (hm : l.length ≤ 9223372036854775807) (hu : UvS w) (x m : Nat) (h : uvDec l = .ok x m) :
    Calls Tryd.prog 79 #[.slice A n c] w fun e w' => e = .returned (.tuple #[.int .u64 x, .int .i64 m, .nilIface]) ∧ Below w.heap.size w w' := by
  obtain ⟨T, ⟨p1, h1⟩, ⟨p2, h2⟩, ⟨p3, h3⟩⟩ := hu.T
  refine (fromUv A n c l w hs hm T p1 p2 p3 h1 h2 h3).mono fun e w' ⟨he, q, hw⟩ => ⟨?_, ?_⟩
  · rw [he, h]; rfl
  · rw [hw]; exact below_drewN _ _ _

theorem fromUv_no (A : Option Addr) (n c : Nat) (l : List UInt8) (w : World) (hs : BS w (.slice A n c) l) (hm : l.length ≤ 9223372036854775807) (hu : UvS w) (h : (uvDec l).no) :
    Calls Tryd.prog 79 #[.slice A n c] w fun e w' => ∃ t p, e = .returned (.tuple #[.int .u64 0, .int .i64 0, .iface t p]) ∧ Below w.heap.size w w' := by
  obtain ⟨T, ⟨p1, h1⟩, ⟨p2, h2⟩, ⟨p3, h3⟩⟩ := hu.T
  refine (fromUv A n c l w hs hm T p1 p2 p3 h1 h2 h3).mono fun e w' ⟨he, q, hw⟩ => ?_
  subst he
  rw [hw]
  cases hd : uvDec l with
  | ok => rw [hd] at h; exact False.elim h
  | _ => exact ⟨_, _, rfl, below_drewN _ _ _⟩

set_option maxRecDepth 100000 in
set_option maxHeartbeats 1000000 in
theorem muv_ok (A : Option Addr) (n c : Nat) (l : List UInt8) (w : World) (hs : BS w (.slice A n c) l) (hm : l.length ≤ 9223372036854775807) (hu : UvS w) (x m : Nat) (hd : uvDec l = .ok x m) :
    BS w (.slice (cutA A c m) (n - m) (c - m)) (l.drop m) ∧
    Calls Tryd.prog 119 #[.slice A n c] w fun e w' => e = .returned (.tuple #[.int .u64 x, .slice (cutA A c m) (n - m) (c - m), .nilIface]) ∧ Below w.heap.size w w' := by
  obtain ⟨hn, _⟩ := hs.slice
  obtain ⟨g1, g2, g3, _, _⟩ := uvDec_ok hd
  obtain ⟨hrun, hs'⟩ := hs.from_ (P := Tryd.prog) Tryd.underlying43 info_u8 m (by omega)
  refine ⟨hs', ?_⟩
  have m1 : ((m : Int) == 0) = false := by simp; omega
  have m2 : ¬ (m : Int) < 0 := by omega
  have HC := Lib.hid (fromUv_ok A n c l w hs hm hu x m hd)
  clear hd hn hs hu hs'
  go_enter Tryd.func119, Tryd.ntmps119
  go_wp2_with fail
  refine HC.out.mono ?_
  rintro e w1 ⟨rfl, hb⟩
  go_wp2
  go_quiet (fail)
  go_wp2
  go_ret3
  exact ⟨rfl, hb.drewN _⟩

set_option maxRecDepth 100000 in
set_option maxHeartbeats 1000000 in
theorem muv_no (A : Option Addr) (n c : Nat) (l : List UInt8) (w : World) (hs : BS w (.slice A n c) l) (hm : l.length ≤ 9223372036854775807) (hu : UvS w) (hd : (uvDec l).no) :
    Calls Tryd.prog 119 #[.slice A n c] w fun e w' => ∃ t p, e = .returned (.tuple #[.int .u64 0, .slice A n c, .iface t p]) ∧ Below w.heap.size w w' := by
  have HC := Lib.hid (fromUv_no A n c l w hs hm hu hd)
  clear hd hs hu
  go_enter Tryd.func119, Tryd.ntmps119
  go_wp2_with fail
  refine HC.out.mono ?_
  rintro e w1 ⟨t, p, rfl, hb⟩
  go_wp2
  go_ret3
  exact ⟨t, p, rfl, hb⟩

set_option maxRecDepth 100000 in
/-- errors.New: a pointer to a new block that holds the text. -/
theorem errorsNew_any (s : ByteArray) (w : World) :
    Calls Tryd.prog 103 #[.string s] w fun e w' => e = .returned (.iface 218 (.pointer (some ⟨w.heap.size, 0, none⟩))) ∧ w.alloc (.cells #[.string s] 220) = w' := by
  go_enter Tryd.func103, Tryd.ntmps103
  go_wp2
  go_ret
  exact ⟨rfl, rfl⟩
/-- .. told as an error that is not nil. -/
theorem errorsNew (s : ByteArray) (w : World) :
    Calls Tryd.prog 103 #[.string s] w fun e w' => ∃ t p, e = .returned (.iface t p) ∧ Below w.heap.size w w' :=
  (errorsNew_any s w).mono fun e w' ⟨he, hw⟩ => ⟨_, _, he, by rw [← hw]; exact (Below.refl _ _).alloc (Nat.le_refl _) _⟩

set_option maxRecDepth 100000 in
set_option maxHeartbeats 1000000 in
theorem mrd_ok (A : Option Addr) (n c : Nat) (l : List UInt8) (w : World) (hs : BS w (.slice A n c) l) (hm : l.length ≤ 2147483647) (hu : UvS w) (r code : Nat) (d : List UInt8) (hd : mhRd l = some (r, code, d)) :
    ∃ A' c', BS w (.slice A' d.length c') d ∧ ∀ w0, Below w.heap.size w w0 →
    Calls Tryd.prog 112 #[.slice A n c] w0 fun e w' => e = .returned (.tuple #[.int .i64 r, .int .u64 code, .slice A' d.length c', .nilIface]) ∧ Below w0.heap.size w0 w' := by
  obtain ⟨hn, _⟩ := hs.slice
  obtain ⟨h2, m1, x2, m2, e1, e2, hx, hx2, rfl, rfl⟩ := mhRd_some hd
  obtain ⟨g1, g2, g3, _, _⟩ := uvDec_ok e1
  obtain ⟨k1, k2, k3, _, _⟩ := uvDec_ok e2
  have hs1 := (muv_ok A n c l w hs (by omega) hu code m1 e1).1
  have hc1 : ∀ w0, Below w.heap.size w w0 → _ := fun w0 hb0 => (muv_ok A n c l w0 (hs.below hb0) (by omega) (hu.below hb0) code m1 e1).2
  have hl1 : (l.drop m1).length = l.length - m1 := by simp
  have hl2 : ((l.drop m1).drop m2).length = l.length - m1 - m2 := by rw [List.length_drop, List.length_drop]
  rw [hl1] at k2
  rw [hl2] at hx2
  have hx3 : x2 ≤ n - m1 - m2 := by omega
  have hlen : (((l.drop m1).drop m2).take x2).length = x2 := by rw [List.length_take, hl2]; omega
  have hc2 : ∀ w1, Below w.heap.size w w1 → BS w1 (.slice (cutA (cutA A c m1) (c - m1) m2) (n - m1 - m2) (c - m1 - m2)) ((l.drop m1).drop m2) ∧ Calls Tryd.prog 119 #[.slice (cutA A c m1) (n - m1) (c - m1)] w1 fun e w' =>
      e = .returned (.tuple #[.int .u64 x2, .slice (cutA (cutA A c m1) (c - m1) m2) (n - m1 - m2) (c - m1 - m2), .nilIface]) ∧ Below w1.heap.size w1 w' := fun w1 hb1 => muv_ok _ _ _ _ w1 (hs1.below hb1) (by rw [hl1]; omega) (hu.below hb1) x2 m2 e2
  obtain ⟨hrun, hrunu, hs3⟩ := (hc2 w (Below.refl _ _)).1.to_ (P := Tryd.prog) Tryd.underlying43 info_u8 x2 hx3
  rw [hlen]
  refine ⟨_, _, hs3, ?_⟩
  have HC1 := Lib.hid hc1
  have HC2 := Lib.hid hc2
  clear hc1 hc2 hs hs1 hs3 hd e1 e2 hlen hu hrun
  generalize cutA (cutA A c m1) (c - m1) m2 = A2 at *
  generalize cutA A c m1 = A1 at *
  generalize c - m1 - m2 = C2 at *
  generalize c - m1 = C1 at *
  have b1 : 2 ≤ n := by omega
  have b3 : n ≤ 2147483647 := by omega
  generalize hN1 : n - m1 = N1 at HC1 HC2 hrunu hx3 ⊢
  generalize hN2 : N1 - m2 = N2 at HC2 hrunu hx3 ⊢
  have b2 : N2 ≤ n := by omega
  have HR := Lib.hid (show (n : Int) - N2 + x2 = ((m1 + m2 + x2 : Nat) : Int) by omega)
  clear hl1 hl2 hN1 hN2 hn g1 g2 g3 k1 k2 k3 hx2 h2 hm
  intro w0 hb0
  go_enter Tryd.func112, Tryd.ntmps112
  go_wp2_with fail
  refine (HC1.out w0 hb0).mono ?_
  rintro e w1 ⟨rfl, hb1⟩
  go_wp2_with fail
  refine (HC2.out w1 (below_next hb0 hb1)).2.mono ?_
  rintro e w2 ⟨rfl, hb2⟩
  go_wp2
  go_quiet (fail)
  go_wp2
  refine bodyPost_ret (v := .tuple #[.int .i64 ((n : Int) - N2 + x2), .int .u64 code, .slice A2 x2 C2, .nilIface]) (by simp [results, Tryd.results112, go_sem]) rfl ⟨by rw [HR.out], (below_next hb1 hb2).drewN _⟩

set_option maxRecDepth 100000 in
set_option maxHeartbeats 1000000 in
theorem mrd_no (A : Option Addr) (n c : Nat) (l : List UInt8) (w : World) (hs : BS w (.slice A n c) l) (hm : l.length ≤ 2147483647) (hu : MhS w) (hd : mhRd l = none) :
    Calls Tryd.prog 112 #[.slice A n c] w fun e w' => ∃ t p, e = .returned (.tuple #[.int .i64 0, .int .u64 0, .slice none 0 0, .iface t p]) ∧ Below w.heap.size w w' := by
  obtain ⟨hn, _⟩ := hs.slice
  rcases mhRd_none hd with h2 | ⟨h2, hno | ⟨x1, m1, e1, h⟩⟩
  · obtain ⟨t, p, hsh⟩ := hu.short
    have b1 : n < 2 := by omega
    clear hs hu hd hn h2 hm
    go_enter Tryd.func112, Tryd.ntmps112
    go_wp2
    go_quiet (fail)
    go_wp2
    refine bodyPost_ret (v := .tuple #[.int .i64 0, .int .u64 0, .slice none 0 0, .iface t p]) (by simp [results, Tryd.results112, go_sem]) rfl ⟨t, p, rfl, below_drewN _ _ _⟩
  · have HC := Lib.hid (muv_no A n c l w hs (by omega) hu.toUvS hno)
    have b1 : 2 ≤ n := by omega
    clear hs hu hd hn h2 hm hno
    go_enter Tryd.func112, Tryd.ntmps112
    go_wp2_with fail
    refine HC.out.mono ?_
    rintro e w1 ⟨t, p, rfl, hb⟩
    go_wp2
    refine bodyPost_ret (v := .tuple #[.int .i64 0, .int .u64 0, .slice none 0 0, .iface t p]) (by simp [results, Tryd.results112, go_sem]) rfl ⟨t, p, rfl, hb⟩
  · obtain ⟨g1, g2, g3, _, _⟩ := uvDec_ok e1
    obtain ⟨hs1, hc1⟩ := muv_ok A n c l w hs (by omega) hu.toUvS x1 m1 e1
    have HC1 := Lib.hid hc1
    have hl1 : (l.drop m1).length = l.length - m1 := by simp
    have b1 : 2 ≤ n := by omega
    rcases h with hno | ⟨x2, m2, e2, h3⟩
    · have HC2 := Lib.hid (fun w1 (hb1 : Below w.heap.size w w1) => muv_no _ _ _ _ w1 (hs1.below hb1) (by rw [hl1]; omega) (hu.toUvS.below hb1) hno)
      clear hs hu hd hn h2 hm hno hs1 hc1 e1 g1 g2 g3 hl1
      generalize cutA A c m1 = A1 at *
      generalize n - m1 = N1 at *
      generalize c - m1 = C1 at *
      go_enter Tryd.func112, Tryd.ntmps112
      go_wp2_with fail
      refine HC1.out.mono ?_
      rintro e w1 ⟨rfl, hb1⟩
      go_wp2_with fail
      refine (HC2.out w1 hb1).mono ?_
      rintro e w2 ⟨t, p, rfl, hb2⟩
      go_wp2
      refine bodyPost_ret (v := .tuple #[.int .i64 0, .int .u64 0, .slice none 0 0, .iface t p]) (by simp [results, Tryd.results112, go_sem]) rfl ⟨t, p, rfl, below_next hb1 hb2⟩
    · obtain ⟨k1, k2, k3, k4, _⟩ := uvDec_ok e2
      have hx63 := uvDec_lt63 e2
      have hl2 : ((l.drop m1).drop m2).length = l.length - m1 - m2 := by rw [List.length_drop, List.length_drop]
      rw [hl2] at h3
      rw [hl1] at k2
      have HC2 := Lib.hid (fun w1 (hb1 : Below w.heap.size w w1) => (muv_ok _ _ _ _ w1 (hs1.below hb1) (by rw [hl1]; omega) (hu.toUvS.below hb1) x2 m2 e2).2)
      have h3' : 2147483647 < x2 ∨ (x2 ≤ 2147483647 ∧ n - m1 - m2 < x2) := by omega
      clear hs hu hd hn h2 hm hs1 hc1 e1 e2 g1 g2 g3 hl1 hl2 k1 k2 k3 k4 h3
      generalize cutA (cutA A c m1) (c - m1) m2 = A2 at *
      generalize cutA A c m1 = A1 at *
      generalize c - m1 - m2 = C2 at *
      generalize c - m1 = C1 at *
      generalize n - m1 - m2 = N2 at *
      generalize n - m1 = N1 at *
      rcases h3' with h3 | ⟨h3, h4⟩
      · go_enter Tryd.func112, Tryd.ntmps112
        go_wp2_with fail
        refine HC1.out.mono ?_
        rintro e w1 ⟨rfl, hb1⟩
        go_wp2_with fail
        refine (HC2.out w1 hb1).mono ?_
        rintro e w2 ⟨rfl, hb2⟩
        go_wp2_with fail
        refine (errorsNew _ w2).mono ?_
        rintro e w3 ⟨t, p, rfl, hb3⟩
        go_wp2
        refine bodyPost_ret (v := .tuple #[.int .i64 0, .int .u64 0, .slice none 0 0, .iface t p]) (by simp [results, Tryd.results112, go_sem]) rfl ⟨t, p, rfl, below_next (below_next hb1 hb2) hb3⟩
      · go_enter Tryd.func112, Tryd.ntmps112
        go_wp2_with fail
        refine HC1.out.mono ?_
        rintro e w1 ⟨rfl, hb1⟩
        go_wp2_with fail
        refine (HC2.out w1 hb1).mono ?_
        rintro e w2 ⟨rfl, hb2⟩
        go_wp2_with fail
        refine (errorsNew _ w2).mono ?_
        rintro e w3 ⟨t, p, rfl, hb3⟩
        go_wp2
        refine bodyPost_ret (v := .tuple #[.int .i64 0, .int .u64 0, .slice none 0 0, .iface t p]) (by simp [results, Tryd.results112, go_sem]) rfl ⟨t, p, rfl, below_next (below_next hb1 hb2) hb3⟩
end Go.Proofs.YthfgnhgijgjggaaDoor
