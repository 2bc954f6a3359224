/- Contracts, joined (MhA MhB Bld CidPlain MhC CdC). -/
import Derived.Test.YthehmnpbepmnpaaGreatDoorRJIo1
import Derived.Test.YthehmnpbepmnpaaGreatDoorRJIo2
import Derived.Outline
import Derived.Lib.Builder
import Derived.Lib.BufferWrite
import Derived.Laws.AppendOwn
import Derived.OwnWalk
/- Contracts of package multihash: reading the varint, the multihash, taking it apart. -/
namespace Go.Proofs.YthehmnpbepmnpaaGreatDoorR
open Go.RowKit

/-- Variable g holds an error that is not nil. -/
def IsErr (w : World) (g : Nat) : Prop := ∃ t p, w.cell? ⟨g, 0, none⟩ = some (.iface t p)
theorem IsErr.below {w w' : World} {g : Nat} (h : IsErr w g) (hb : Below w.heap.size w w') : IsErr w' g := by
  obtain ⟨t, p, h⟩ := h; exact ⟨t, p, below_cell hb h⟩
/-- The three sentinels of package varint. -/
structure UvS (w : World) : Prop where
  T : ∃ T, (∃ p, w.cell? ⟨4, 0, none⟩ = some (.iface T p)) ∧ (∃ p, w.cell? ⟨5, 0, none⟩ = some (.iface T p)) ∧ (∃ p, w.cell? ⟨6, 0, none⟩ = some (.iface T p))
theorem UvS.below {w w' : World} (h : UvS w) (hb : Below w.heap.size w w') : UvS w' := by
  obtain ⟨T, ⟨p1, h1⟩, ⟨p2, h2⟩, ⟨p3, h3⟩⟩ := h.T
  exact ⟨T, ⟨p1, below_cell hb h1⟩, ⟨p2, below_cell hb h2⟩, ⟨p3, below_cell hb h3⟩⟩
/-- .. and those of package multihash. -/
structure MhS (w : World) : Prop extends UvS w where
  short : IsErr w 11
theorem MhS.below {w w' : World} (h : MhS w) (hb : Below w.heap.size w w') : MhS w' := ⟨h.toUvS.below hb, h.short.below hb⟩

theorem fromUv_ok (A : Option Addr) (n c : Nat) (l : List UInt8) (w : World) (hs : BS w (.slice A n c) l) (hm : l.length ≤ 9223372036854775807) (hu : UvS w) (x m : Nat) (h : uvDec l = .ok x m) :
    Calls Tryz.prog 112 #[.slice A n c] w fun e w' => e = .returned (.tuple #[.int .u64 x, .int .i64 m, .nilIface]) ∧ Below w.heap.size w w' := by
  obtain ⟨T, ⟨p1, h1⟩, ⟨p2, h2⟩, ⟨p3, h3⟩⟩ := hu.T
  refine (fromUv A n c l w hs hm T p1 p2 p3 h1 h2 h3).mono fun e w' ⟨he, q, hw⟩ => ⟨?_, ?_⟩
  · rw [he, h]; rfl
  · rw [hw]; exact below_drewN _ _ _

theorem fromUv_no (A : Option Addr) (n c : Nat) (l : List UInt8) (w : World) (hs : BS w (.slice A n c) l) (hm : l.length ≤ 9223372036854775807) (hu : UvS w) (h : (uvDec l).no) :
    Calls Tryz.prog 112 #[.slice A n c] w fun e w' => ∃ t p, e = .returned (.tuple #[.int .u64 0, .int .i64 0, .iface t p]) ∧ Below w.heap.size w w' := by
  obtain ⟨T, ⟨p1, h1⟩, ⟨p2, h2⟩, ⟨p3, h3⟩⟩ := hu.T
  refine (fromUv A n c l w hs hm T p1 p2 p3 h1 h2 h3).mono fun e w' ⟨he, q, hw⟩ => ?_
  subst he
  rw [hw]
  cases hd : uvDec l with
  | ok => rw [hd] at h; exact False.elim h
  | _ => exact ⟨_, _, rfl, below_drewN _ _ _⟩

set_option maxRecDepth 100000 in
set_option maxHeartbeats 1000000 in
theorem muv_ok (A : Option Addr) (n c : Nat) (l : List UInt8) (w : World) (hs : BS w (.slice A n c) l) (hm : l.length ≤ 9223372036854775807) (hu : UvS w) (x m : Nat) (hd : uvDec l = .ok x m) :
    BS w (.slice (cutA A c m) (n - m) (c - m)) (l.drop m) ∧
    Calls Tryz.prog 155 #[.slice A n c] w fun e w' => e = .returned (.tuple #[.int .u64 x, .slice (cutA A c m) (n - m) (c - m), .nilIface]) ∧ Below w.heap.size w w' := by
  obtain ⟨hn, _⟩ := hs.slice
  obtain ⟨g1, g2, g3, _, _⟩ := uvDec_ok hd
  obtain ⟨hrun, hs'⟩ := hs.from_ (P := Tryz.prog) Tryz.underlying98 info_u8 m (by omega)
  refine ⟨hs', ?_⟩
  have m1 : ((m : Int) == 0) = false := by simp; omega
  have m2 : ¬ (m : Int) < 0 := by omega
  have HC := Lib.hid (fromUv_ok A n c l w hs hm hu x m hd)
  clear hd hn hs hu hs'
  go_enter Tryz.func155, Tryz.ntmps155
  go_wp2_with fail
  refine HC.out.mono ?_
  rintro e w1 ⟨rfl, hb⟩
  go_wp2
  go_quiet (fail)
  go_wp2
  go_ret3
  exact ⟨rfl, hb.drewN _⟩

set_option maxRecDepth 100000 in
set_option maxHeartbeats 1000000 in
theorem muv_no (A : Option Addr) (n c : Nat) (l : List UInt8) (w : World) (hs : BS w (.slice A n c) l) (hm : l.length ≤ 9223372036854775807) (hu : UvS w) (hd : (uvDec l).no) :
    Calls Tryz.prog 155 #[.slice A n c] w fun e w' => ∃ t p, e = .returned (.tuple #[.int .u64 0, .slice A n c, .iface t p]) ∧ Below w.heap.size w w' := by
  have HC := Lib.hid (fromUv_no A n c l w hs hm hu hd)
  clear hd hs hu
  go_enter Tryz.func155, Tryz.ntmps155
  go_wp2_with fail
  refine HC.out.mono ?_
  rintro e w1 ⟨t, p, rfl, hb⟩
  go_wp2
  go_ret3
  exact ⟨t, p, rfl, hb⟩

set_option maxRecDepth 100000 in
/-- errors.New: a pointer to a new block that holds the text. -/
theorem errorsNew_any (s : ByteArray) (w : World) :
    Calls Tryz.prog 120 #[.string s] w fun e w' => e = .returned (.iface 248 (.pointer (some ⟨w.heap.size, 0, none⟩))) ∧ w.alloc (.cells #[.string s] 250) = w' := by
  go_enter Tryz.func120, Tryz.ntmps120
  go_wp2
  go_ret
  exact ⟨rfl, rfl⟩
/-- .. told as an error that is not nil. -/
theorem errorsNew (s : ByteArray) (w : World) :
    Calls Tryz.prog 120 #[.string s] w fun e w' => ∃ t p, e = .returned (.iface t p) ∧ Below w.heap.size w w' :=
  (errorsNew_any s w).mono fun e w' ⟨he, hw⟩ => ⟨_, _, he, by rw [← hw]; exact (Below.refl _ _).alloc (Nat.le_refl _) _⟩

set_option maxRecDepth 100000 in
set_option maxHeartbeats 1000000 in
theorem mrd_ok (A : Option Addr) (n c : Nat) (l : List UInt8) (w : World) (hs : BS w (.slice A n c) l) (hm : l.length ≤ 2147483647) (hu : UvS w) (r code : Nat) (d : List UInt8) (hd : mhRd l = some (r, code, d)) :
    ∃ A' c', BS w (.slice A' d.length c') d ∧ ∀ w0, Below w.heap.size w w0 →
    Calls Tryz.prog 140 #[.slice A n c] w0 fun e w' => e = .returned (.tuple #[.int .i64 r, .int .u64 code, .slice A' d.length c', .nilIface]) ∧ Below w0.heap.size w0 w' := by
  obtain ⟨hn, _⟩ := hs.slice
  obtain ⟨h2, m1, x2, m2, e1, e2, hx, hx2, rfl, rfl⟩ := mhRd_some hd
  obtain ⟨g1, g2, g3, _, _⟩ := uvDec_ok e1
  obtain ⟨k1, k2, k3, _, _⟩ := uvDec_ok e2
  have hs1 := (muv_ok A n c l w hs (by omega) hu code m1 e1).1
  have hc1 : ∀ w0, Below w.heap.size w w0 → _ := fun w0 hb0 => (muv_ok A n c l w0 (hs.below hb0) (by omega) (hu.below hb0) code m1 e1).2
  have hl1 : (l.drop m1).length = l.length - m1 := by simp
  have hl2 : ((l.drop m1).drop m2).length = l.length - m1 - m2 := by rw [List.length_drop, List.length_drop]
  rw [hl1] at k2
  rw [hl2] at hx2
  have hx3 : x2 ≤ n - m1 - m2 := by omega
  have hlen : (((l.drop m1).drop m2).take x2).length = x2 := by rw [List.length_take, hl2]; omega
  have hc2 : ∀ w1, Below w.heap.size w w1 → BS w1 (.slice (cutA (cutA A c m1) (c - m1) m2) (n - m1 - m2) (c - m1 - m2)) ((l.drop m1).drop m2) ∧ Calls Tryz.prog 155 #[.slice (cutA A c m1) (n - m1) (c - m1)] w1 fun e w' =>
      e = .returned (.tuple #[.int .u64 x2, .slice (cutA (cutA A c m1) (c - m1) m2) (n - m1 - m2) (c - m1 - m2), .nilIface]) ∧ Below w1.heap.size w1 w' := fun w1 hb1 => muv_ok _ _ _ _ w1 (hs1.below hb1) (by rw [hl1]; omega) (hu.below hb1) x2 m2 e2
  obtain ⟨hrun, hrunu, hs3⟩ := (hc2 w (Below.refl _ _)).1.to_ (P := Tryz.prog) Tryz.underlying98 info_u8 x2 hx3
  rw [hlen]
  refine ⟨_, _, hs3, ?_⟩
  have HC1 := Lib.hid hc1
  have HC2 := Lib.hid hc2
  clear hc1 hc2 hs hs1 hs3 hd e1 e2 hlen hu hrun
  generalize cutA (cutA A c m1) (c - m1) m2 = A2 at *
  generalize cutA A c m1 = A1 at *
  generalize c - m1 - m2 = C2 at *
  generalize c - m1 = C1 at *
  have b1 : 2 ≤ n := by omega
  have b3 : n ≤ 2147483647 := by omega
  generalize hN1 : n - m1 = N1 at HC1 HC2 hrunu hx3 ⊢
  generalize hN2 : N1 - m2 = N2 at HC2 hrunu hx3 ⊢
  have b2 : N2 ≤ n := by omega
  have HR := Lib.hid (show (n : Int) - N2 + x2 = ((m1 + m2 + x2 : Nat) : Int) by omega)
  clear hl1 hl2 hN1 hN2 hn g1 g2 g3 k1 k2 k3 hx2 h2 hm
  intro w0 hb0
  go_enter Tryz.func140, Tryz.ntmps140
  go_wp2_with fail
  refine (HC1.out w0 hb0).mono ?_
  rintro e w1 ⟨rfl, hb1⟩
  go_wp2_with fail
  refine (HC2.out w1 (below_next hb0 hb1)).2.mono ?_
  rintro e w2 ⟨rfl, hb2⟩
  go_wp2
  go_quiet (fail)
  go_wp2
  refine bodyPost_ret (v := .tuple #[.int .i64 ((n : Int) - N2 + x2), .int .u64 code, .slice A2 x2 C2, .nilIface]) (by simp [results, Tryz.results140, go_sem]) rfl ⟨by rw [HR.out], (below_next hb1 hb2).drewN _⟩

set_option maxRecDepth 100000 in
set_option maxHeartbeats 1000000 in
theorem mrd_no (A : Option Addr) (n c : Nat) (l : List UInt8) (w : World) (hs : BS w (.slice A n c) l) (hm : l.length ≤ 2147483647) (hu : MhS w) (hd : mhRd l = none) :
    Calls Tryz.prog 140 #[.slice A n c] w fun e w' => ∃ t p, e = .returned (.tuple #[.int .i64 0, .int .u64 0, .slice none 0 0, .iface t p]) ∧ Below w.heap.size w w' := by
  obtain ⟨hn, _⟩ := hs.slice
  rcases mhRd_none hd with h2 | ⟨h2, hno | ⟨x1, m1, e1, h⟩⟩
  · obtain ⟨t, p, hsh⟩ := hu.short
    have b1 : n < 2 := by omega
    clear hs hu hd hn h2 hm
    go_enter Tryz.func140, Tryz.ntmps140
    go_wp2
    go_quiet (fail)
    go_wp2
    refine bodyPost_ret (v := .tuple #[.int .i64 0, .int .u64 0, .slice none 0 0, .iface t p]) (by simp [results, Tryz.results140, go_sem]) rfl ⟨t, p, rfl, below_drewN _ _ _⟩
  · have HC := Lib.hid (muv_no A n c l w hs (by omega) hu.toUvS hno)
    have b1 : 2 ≤ n := by omega
    clear hs hu hd hn h2 hm hno
    go_enter Tryz.func140, Tryz.ntmps140
    go_wp2_with fail
    refine HC.out.mono ?_
    rintro e w1 ⟨t, p, rfl, hb⟩
    go_wp2
    refine bodyPost_ret (v := .tuple #[.int .i64 0, .int .u64 0, .slice none 0 0, .iface t p]) (by simp [results, Tryz.results140, go_sem]) rfl ⟨t, p, rfl, hb⟩
  · obtain ⟨g1, g2, g3, _, _⟩ := uvDec_ok e1
    obtain ⟨hs1, hc1⟩ := muv_ok A n c l w hs (by omega) hu.toUvS x1 m1 e1
    have HC1 := Lib.hid hc1
    have hl1 : (l.drop m1).length = l.length - m1 := by simp
    have b1 : 2 ≤ n := by omega
    rcases h with hno | ⟨x2, m2, e2, h3⟩
    · have HC2 := Lib.hid (fun w1 (hb1 : Below w.heap.size w w1) => muv_no _ _ _ _ w1 (hs1.below hb1) (by rw [hl1]; omega) (hu.toUvS.below hb1) hno)
      clear hs hu hd hn h2 hm hno hs1 hc1 e1 g1 g2 g3 hl1
      generalize cutA A c m1 = A1 at *
      generalize n - m1 = N1 at *
      generalize c - m1 = C1 at *
      go_enter Tryz.func140, Tryz.ntmps140
      go_wp2_with fail
      refine HC1.out.mono ?_
      rintro e w1 ⟨rfl, hb1⟩
      go_wp2_with fail
      refine (HC2.out w1 hb1).mono ?_
      rintro e w2 ⟨t, p, rfl, hb2⟩
      go_wp2
      refine bodyPost_ret (v := .tuple #[.int .i64 0, .int .u64 0, .slice none 0 0, .iface t p]) (by simp [results, Tryz.results140, go_sem]) rfl ⟨t, p, rfl, below_next hb1 hb2⟩
    · obtain ⟨k1, k2, k3, k4, _⟩ := uvDec_ok e2
      have hx63 := uvDec_lt63 e2
      have hl2 : ((l.drop m1).drop m2).length = l.length - m1 - m2 := by rw [List.length_drop, List.length_drop]
      rw [hl2] at h3
      rw [hl1] at k2
      have HC2 := Lib.hid (fun w1 (hb1 : Below w.heap.size w w1) => (muv_ok _ _ _ _ w1 (hs1.below hb1) (by rw [hl1]; omega) (hu.toUvS.below hb1) x2 m2 e2).2)
      have h3' : 2147483647 < x2 ∨ (x2 ≤ 2147483647 ∧ n - m1 - m2 < x2) := by omega
      clear hs hu hd hn h2 hm hs1 hc1 e1 e2 g1 g2 g3 hl1 hl2 k1 k2 k3 k4 h3
      generalize cutA (cutA A c m1) (c - m1) m2 = A2 at *
      generalize cutA A c m1 = A1 at *
      generalize c - m1 - m2 = C2 at *
      generalize c - m1 = C1 at *
      generalize n - m1 - m2 = N2 at *
      generalize n - m1 = N1 at *
      rcases h3' with h3 | ⟨h3, h4⟩
      · go_enter Tryz.func140, Tryz.ntmps140
        go_wp2_with fail
        refine HC1.out.mono ?_
        rintro e w1 ⟨rfl, hb1⟩
        go_wp2_with fail
        refine (HC2.out w1 hb1).mono ?_
        rintro e w2 ⟨rfl, hb2⟩
        go_wp2_with fail
        refine (errorsNew _ w2).mono ?_
        rintro e w3 ⟨t, p, rfl, hb3⟩
        go_wp2
        refine bodyPost_ret (v := .tuple #[.int .i64 0, .int .u64 0, .slice none 0 0, .iface t p]) (by simp [results, Tryz.results140, go_sem]) rfl ⟨t, p, rfl, below_next (below_next hb1 hb2) hb3⟩
      · go_enter Tryz.func140, Tryz.ntmps140
        go_wp2_with fail
        refine HC1.out.mono ?_
        rintro e w1 ⟨rfl, hb1⟩
        go_wp2_with fail
        refine (HC2.out w1 hb1).mono ?_
        rintro e w2 ⟨rfl, hb2⟩
        go_wp2_with fail
        refine (errorsNew _ w2).mono ?_
        rintro e w3 ⟨t, p, rfl, hb3⟩
        go_wp2
        refine bodyPost_ret (v := .tuple #[.int .i64 0, .int .u64 0, .slice none 0 0, .iface t p]) (by simp [results, Tryz.results140, go_sem]) rfl ⟨t, p, rfl, below_next (below_next hb1 hb2) hb3⟩
end Go.Proofs.YthehmnpbepmnpaaGreatDoorR
/- Contracts of package multihash: Decode, MHFromBytes, Encode; and of impl's three entry points. -/
namespace Go.Proofs.YthehmnpbepmnpaaGreatDoorR
open Go.RowKit

theorem bcell {W w1 : World} (hb : Below W.heap.size W w1) : (∀ b o, b < W.heap.size → w1.cell? ⟨b, o, none⟩ = W.cell? ⟨b, o, none⟩) ∧ (∀ b o, b < W.heap.size → w1.frozen? ⟨b, o, none⟩ = W.frozen? ⟨b, o, none⟩) :=
  ⟨fun b o h => hb.cell (p := ⟨b, o, none⟩) h, fun b o h => hb.frozen (p := ⟨b, o, none⟩) h⟩

set_option maxRecDepth 100000 in
set_option maxHeartbeats 1000000 in
theorem decode_ok (A : Option Addr) (n c : Nat) (l : List UInt8) (w : World) (hs : BS w (.slice A n c) l) (hm : l.length ≤ 2147483647) (hu : UvS w) (code : Nat) (d : List UInt8) (hd : mhRd l = some (n, code, d)) :
    ∃ A' c', BS w (.slice A' d.length c') d ∧ ∀ w0, Below w.heap.size w w0 →
    Calls Tryz.prog 110 #[.slice A n c] w0 fun e w' => e = .returned (.tuple #[.agg #[.int .u64 code, .string ⟨#[]⟩, .int .i64 d.length, .slice A' d.length c'], .nilIface]) ∧ Below w0.heap.size w0 w' := by
  obtain ⟨hn, _⟩ := hs.slice
  obtain ⟨A', c', hs', hc⟩ := mrd_ok A n c l w hs hm hu _ _ _ hd
  refine ⟨A', c', hs', ?_⟩
  intro w0 hb0
  have HC := Lib.hid hc
  generalize d.length = D at *
  have b3 : n ≤ 9223372036854775807 := by omega
  clear hs hn hs' hc hu hd hm
  go_enter Tryz.func110, Tryz.ntmps110
  go_wp2_with fail
  refine (HC.out _ (hb0.trans ((Below.refl _ _).alloc hb0.size _))).mono ?_
  rintro e w1 ⟨rfl, hb1⟩
  obtain ⟨hc, hf⟩ := bcell hb1
  have hz := hb1.size
  simp only [World.size_alloc] at hz hc hf
  go_wp2
  have hrow : w1.heap[w0.heap.size]? = some (.cells #[.int .u64 0, .string ⟨#[]⟩, .int .i64 0, .slice none 0 0] 165 (0, 0)) := row_below hb1 (by simp) (heap_alloc_new _ _)

  refine bodyPost_ret (results_row_tmp rfl _ _ w0.heap.size 165 #[.int .u64 code, .string ⟨#[]⟩, .int .i64 D, .slice A' D c'] (0, 0) _ ?h1 ?h2 Tryz.underlying165 rfl ?h5) ?h6 ?h7

  case h1 => rfl

  case h2 => simp [World.setCell, Array.getElem?_modify, hrow]

  case h5 => kernel_rfl

  case h6 => rfl

  refine ⟨rfl, ?_⟩

  have hb2 : Below w0.heap.size w0 w1 := by
    have h0 : Below w0.heap.size w0 (w0.alloc (Obj.cells #[Value.int IntKind.u64 0, Value.string { data := #[] }, Value.int IntKind.i64 0, Value.slice none 0 0] 165)) := (Below.refl _ _).alloc (Nat.le_refl _) _
    exact below_next h0 hb1
  clear hc hf hrow HC
  exact (((((((hb2.setCell (by exact Nat.le_refl _) _).setCell (by exact Nat.le_refl _) _).setCell (by exact Nat.le_refl _) _).setCell (by exact Nat.le_refl _) _).setCell (by exact Nat.le_refl _) _).setCell (by exact Nat.le_refl _) _).setCell (by exact Nat.le_refl _) _).setCell (by exact Nat.le_refl _) _

def DmBad (e : Ending) : Prop := ∃ (a : Int) (s : ByteArray) (b : Int) (A : Option Addr) (n c : Nat) (t : TypeId) (p : Value), e = .returned (.tuple #[.agg #[.int .u64 a, .string s, .int .i64 b, .slice A n c], .iface t p])

set_option maxRecDepth 100000 in
set_option maxHeartbeats 1000000 in
theorem decode_more (A : Option Addr) (n c : Nat) (l : List UInt8) (w : World) (hs : BS w (.slice A n c) l) (hm : l.length ≤ 2147483647) (hu : UvS w) (r code : Nat) (d : List UInt8) (hd : mhRd l = some (r, code, d)) (hr : r ≠ n) :
    Calls Tryz.prog 110 #[.slice A n c] w fun e w' => DmBad e ∧ Below w.heap.size w w' := by
  obtain ⟨hn, _⟩ := hs.slice
  obtain ⟨A', c', hs', hc⟩ := mrd_ok A n c l w hs hm hu _ _ _ hd
  have HC := Lib.hid hc
  generalize d.length = D at *
  have b3 : n ≤ 9223372036854775807 := by omega
  have b4 : ((n : Int) != r) = true := by rw [bne_iff_ne]; omega
  clear hs hn hs' hc hu hd hm hr
  go_enter Tryz.func110, Tryz.ntmps110
  go_wp2_with fail
  refine (HC.out _ ((Below.refl _ _).alloc (Nat.le_refl _) _)).mono ?_
  rintro e w1 ⟨rfl, hb1⟩
  have h0 : Below w.heap.size w (w.alloc (Obj.cells #[Value.int IntKind.u64 0, Value.string { data := #[] }, Value.int IntKind.i64 0, Value.slice none 0 0] 165)) := (Below.refl _ _).alloc (Nat.le_refl _) _
  have hb2 := below_next h0 hb1
  obtain ⟨hc, hf⟩ := bcell hb1
  have hz := hb1.size
  simp only [World.size_alloc] at hz hc hf
  go_wp2
  have hrow : w1.heap[w.heap.size]? = some (.cells #[.int .u64 0, .string ⟨#[]⟩, .int .i64 0, .slice none 0 0] 165 (0, 0)) := row_below hb1 (by simp) (heap_alloc_new _ _)
  refine bodyPost_ret (results_row_tmp rfl _ _ w.heap.size 165 #[.int .u64 code, .string ⟨#[]⟩, .int .i64 D, .slice A' D c'] (0, 0) _ ?h1 ?h2 Tryz.underlying165 rfl ?h5) ?h6 ?h7
  case h1 => rfl
  case h2 => simp [World.setCell, Array.getElem?_modify, hrow]
  case h5 => kernel_rfl
  case h6 => rfl
  refine ⟨⟨_, _, _, _, _, _, _, _, rfl⟩, ?_⟩
  exact ((((((((hb2.setCell (by exact Nat.le_refl _) _).setCell (by exact Nat.le_refl _) _).setCell (by exact Nat.le_refl _) _).setCell (by exact Nat.le_refl _) _).setCell (by exact Nat.le_refl _) _).setCell (by exact Nat.le_refl _) _).setCell (by exact Nat.le_refl _) _).setCell (by exact Nat.le_refl _) _)

set_option maxRecDepth 100000 in
set_option maxHeartbeats 1000000 in
theorem decode_no (A : Option Addr) (n c : Nat) (l : List UInt8) (w : World) (hs : BS w (.slice A n c) l) (hm : l.length ≤ 2147483647) (hu : MhS w) (hd : mhRd l = none) :
    Calls Tryz.prog 110 #[.slice A n c] w fun e w' => DmBad e ∧ Below w.heap.size w w' := by
  have h0 : Below w.heap.size w (w.alloc (Obj.cells #[Value.int IntKind.u64 0, Value.string { data := #[] }, Value.int IntKind.i64 0, Value.slice none 0 0] 165)) := (Below.refl _ _).alloc (Nat.le_refl _) _
  have HC := Lib.hid (mrd_no A n c l _ (hs.below h0) hm (hu.below h0) hd)
  clear hs hu hd hm
  go_enter Tryz.func110, Tryz.ntmps110
  go_wp2_with fail
  refine HC.out.mono ?_
  rintro e w1 ⟨t, p, rfl, hb1⟩
  have hb2 := below_next h0 hb1
  obtain ⟨hc, hf⟩ := bcell hb1
  have hz := hb1.size
  simp only [World.size_alloc] at hz hc hf
  go_wp2
  have hrow : w1.heap[w.heap.size]? = some (.cells #[.int .u64 0, .string ⟨#[]⟩, .int .i64 0, .slice none 0 0] 165 (0, 0)) := row_below hb1 (by simp) (heap_alloc_new _ _)
  refine bodyPost_ret (results_row_tmp rfl _ _ w.heap.size 165 #[.int .u64 0, .string ⟨#[]⟩, .int .i64 0, .slice none 0 0] (0, 0) _ ?h1 ?h2 Tryz.underlying165 rfl ?h5) ?h6 ?h7
  case h1 => rfl
  case h2 => simp [World.setCell, Array.getElem?_modify, hrow]
  case h5 => kernel_rfl
  case h6 => rfl
  refine ⟨⟨_, _, _, _, _, _, t, p, rfl⟩, ?_⟩
  exact ((((hb2.setCell (by exact Nat.le_refl _) _).setCell (by exact Nat.le_refl _) _).setCell (by exact Nat.le_refl _) _).setCell (by exact Nat.le_refl _) _)

/-- A pointer to a new block that holds what a multihash was taken apart to. -/
def DmPtr (w w' : World) (code : Nat) (A : Option Addr) (D c : Nat) (e : Ending) : Prop := ∃ g, e = .returned (.tuple #[.pointer (some ⟨g, 0, none⟩), .nilIface]) ∧ w.heap.size ≤ g ∧
  w'.heap[g]? = some (.cells #[.int .u64 code, .string ⟨#[]⟩, .int .i64 D, .slice A D c] 165 (0, 0))

set_option maxRecDepth 100000 in
set_option maxHeartbeats 1000000 in
theorem Decode_ok (A : Option Addr) (n c : Nat) (l : List UInt8) (w : World) (hs : BS w (.slice A n c) l) (hm : l.length ≤ 2147483647) (hu : UvS w) (code : Nat) (d : List UInt8) (hd : mhRd l = some (n, code, d)) :
    ∃ A' c', BS w (.slice A' d.length c') d ∧ ∀ w0, Below w.heap.size w w0 →
    Calls Tryz.prog 73 #[.slice A n c] w0 fun e w' => DmPtr w0 w' code A' d.length c' e ∧ Below w0.heap.size w0 w' := by
  obtain ⟨A', c', hs', hc⟩ := decode_ok A n c l w hs hm hu _ _ hd
  refine ⟨A', c', hs', ?_⟩
  intro w0 hb0
  have HC := Lib.hid (hc w0 hb0)
  generalize d.length = D at *
  clear hs hs' hc hu hd hm
  go_enter Tryz.func73, Tryz.ntmps73
  go_wp2_with fail
  refine HC.out.mono ?_
  rintro e w1 ⟨rfl, hb1⟩
  go_wp2
  go_ret2
  refine ⟨⟨_, rfl, hb1.size, ?_⟩, ?_⟩
  · exact heap_alloc_new _ _
  · exact hb1.alloc hb1.size _

/-- nil, and an error. -/
def PtrBad (e : Ending) : Prop := ∃ t p, e = .returned (.tuple #[.pointer none, .iface t p])

set_option maxRecDepth 100000 in
set_option maxHeartbeats 1000000 in
theorem Decode_bad (A : Option Addr) (n c : Nat) (l : List UInt8) (w : World) (hs : BS w (.slice A n c) l) (hm : l.length ≤ 2147483647) (hu : MhS w) (hd : ∀ code d, mhRd l ≠ some (n, code, d)) :
    Calls Tryz.prog 73 #[.slice A n c] w fun e w' => PtrBad e ∧ Below w.heap.size w w' := by
  have hc : Calls Tryz.prog 110 #[.slice A n c] w fun e w' => DmBad e ∧ Below w.heap.size w w' := by
    cases h : mhRd l with
    | none => exact decode_no A n c l w hs hm hu h
    | some x =>
      obtain ⟨r, code, d⟩ := x
      exact decode_more A n c l w hs hm hu.toUvS r code d h (fun e => hd code d (by rw [h, e]))
  have HC := Lib.hid hc
  clear hs hu hd hm hc
  go_enter Tryz.func73, Tryz.ntmps73
  go_wp2_with fail
  refine HC.out.mono ?_
  rintro e w1 ⟨⟨a, s, b, A1, n1, c1, t, p, rfl⟩, hb1⟩
  go_wp2
  go_ret2
  exact ⟨⟨t, p, rfl⟩, hb1.alloc hb1.size _⟩

set_option maxRecDepth 100000 in
set_option maxHeartbeats 1000000 in
theorem MHFrom_ok (A : Option Addr) (n c : Nat) (l : List UInt8) (w : World) (hs : BS w (.slice A n c) l) (hm : l.length ≤ 2147483647) (hu : UvS w) (r code : Nat) (d : List UInt8) (hd : mhRd l = some (r, code, d)) (hr : r ≤ n) :
    BS w (.slice A r c) (l.take r) ∧
    Calls Tryz.prog 188 #[.slice A n c] w fun e w' => e = .returned (.tuple #[.int .i64 r, .slice A r c, .nilIface]) ∧ Below w.heap.size w w' := by
  obtain ⟨A', c', _, hc⟩ := mrd_ok A n c l w hs hm hu _ _ _ hd
  obtain ⟨hrun, _, hs2⟩ := hs.to_ (P := Tryz.prog) Tryz.underlying98 info_u8 r hr
  refine ⟨hs2, ?_⟩
  have HC := Lib.hid (hc w (Below.refl _ _))
  generalize d.length = D at *
  clear hs hc hu hd hm hs2 hr
  go_enter Tryz.func188, Tryz.ntmps188
  go_wp2_with fail
  refine HC.out.mono ?_
  rintro e w1 ⟨rfl, hb1⟩
  go_wp2
  go_quiet (fail)
  go_wp2
  go_ret3
  exact ⟨rfl, hb1.drewN _⟩

set_option maxRecDepth 100000 in
set_option maxHeartbeats 1000000 in
theorem MHFrom_no (A : Option Addr) (n c : Nat) (l : List UInt8) (w : World) (hs : BS w (.slice A n c) l) (hm : l.length ≤ 2147483647) (hu : MhS w) (hd : mhRd l = none) :
    Calls Tryz.prog 188 #[.slice A n c] w fun e w' => ∃ t p, e = .returned (.tuple #[.int .i64 0, .slice none 0 0, .iface t p]) ∧ Below w.heap.size w w' := by
  have HC := Lib.hid (mrd_no A n c l w hs hm hu hd)
  clear hs hu hd hm
  go_enter Tryz.func188, Tryz.ntmps188
  go_wp2_with fail
  refine HC.out.mono ?_
  rintro e w1 ⟨t, p, rfl, hb1⟩
  go_wp2
  go_ret3
  exact ⟨t, p, rfl, hb1⟩

/-- A string made to bytes: where the contracts begin. -/
theorem conv_in (w : World) (s : ByteArray) : ∃ c w1, (convert 9 98 (.string s)).run Tryz.prog w = .ok (.slice (some ⟨w.heap.size, 0, none⟩) s.size c) w1 ∧ Below w.heap.size w w1 ∧ BS w1 (.slice (some ⟨w.heap.size, 0, none⟩) s.size c) s.data.toList := by
  obtain ⟨c, w1, hconv, hc, hb, hsz, _, hcells⟩ := conv_bytes (P := Tryz.prog) Tryz.underlying9 Tryz.underlying98 Tryz.underlying5 w s
  have hlen : s.data.toList.length = s.size := by rw [Array.length_toList]; rfl
  have HS := BS.of_cells (w := w1) (b := w.heap.size) (o := 0) (c := c) (l := s.data.toList) (by omega) hcells
  rw [hlen] at HS
  exact ⟨c, w1, hconv, hb, HS⟩



end Go.Proofs.YthehmnpbepmnpaaGreatDoorR
/- Contracts of a strings.Builder that has been grown: copyCheck, WriteByte, Write. -/
namespace Go.Proofs.YthehmnpbepmnpaaGreatDoorR
open Go.RowKit

abbrev BldAt (B b : Nat) (bs : List Value) (w : World) : Prop := Lib.BuilderAt 221 5 B b (.pointer (some ⟨b, 0, none⟩)) bs w

theorem bldInfo : ∃ j, Tryz.prog.info? 221 = some j := by
  have h : (Tryz.prog.info? 221).map (·.size) = some 2 := by kernel_rfl
  obtain ⟨i, hi, _⟩ := Option.map_eq_some_iff.1 h
  exact ⟨i, hi⟩

set_option maxRecDepth 100000 in
set_option maxHeartbeats 1000000 in
theorem copyCheck_used (b : Nat) (w : World) (h0 : w.cell? ⟨b, 0, none⟩ = some (.pointer (some ⟨b, 0, none⟩))) :
    Calls Tryz.prog 144 #[.pointer (some ⟨b, 0, none⟩)] w fun e w' => e = .returned (.tuple #[]) ∧ w = w' := by
  obtain ⟨j, hj⟩ := bldInfo
  have hne := Lib.run_neq_ptr_same (P := Tryz.prog) w ⟨b, 0, none⟩ Tryz.underlying219 hj
  go_enter Tryz.func144, Tryz.ntmps144
  go_wp2
  go_end0
  exact ⟨rfl, rfl⟩

theorem bld_neB : (221 : TypeId) ≠ 5 := by decide
theorem info_u8p : ∃ i, Tryz.prog.info? 5 = some i ∧ i.zero = some (.int .u8 0) ∧ i.size = 1 ∧ i.bytes = 1 := by
  obtain ⟨i, hi, h2⟩ := Option.map_eq_some_iff.1 info_u8
  simp only [Prod.mk.injEq] at h2
  exact ⟨i, hi, h2.1, h2.2.1, h2.2.2⟩

set_option maxRecDepth 100000 in
set_option maxHeartbeats 2000000 in
theorem bldWriteByte (B b : Nat) (bs : List Value) (c : Int) (w : World) (h : BldAt B b bs w) (hlen : bs.length + 1 ≤ 140737488355328) (hBw : B ≤ w.heap.size) :
    Calls Tryz.prog 117 #[.pointer (some ⟨b, 0, none⟩), .int .u8 c] w fun e w' => e = .returned .nilIface ∧ BldAt B b (bs ++ [.int .u8 c]) w' ∧ Below B w w' := by
  obtain ⟨i0, hi, hz0, hz1, hz2⟩ := info_u8p
  obtain ⟨hB, v, hbk, hown, hne⟩ := h
  have c0 : w.cell? ⟨b, 0, none⟩ = some (.pointer (some ⟨b, 0, none⟩)) := by rw [Lib.cell_of_heap hbk]; rfl
  have c1 : w.cell? ⟨b, 1, none⟩ = some v := by rw [Lib.cell_of_heap hbk]; rfl
  go_enter Tryz.func117, Tryz.ntmps117
  go_wp2_with fail
  refine (copyCheck_used b w c0).mono ?_
  rintro e w1 ⟨rfl, rfl⟩
  go_wp2_with (at_builtin; refine wpList_append_own _ rfl _ _ 98 rfl B 5 i0 (.int .u8 0) 1 1 Tryz.underlying98 hi hz0 hz1 hz2 rfl (by decide) _ _ _ rfl (hown.alloc _) ⟨w.heap.size, 0, none⟩ 1 1 [.int .u8 c] rfl rfl ?c1 ?c2 ?c3 ?c4 ?c5 ?_)
  case c1 =>
    intro j u hj
    match j, hj with
    | 0, hj => simp at hj; subst hj; simp [Addr.add]
  case c2 => intro u hu; simp at hu; subst hu; rfl
  case c3 => unfold maxLen; omega
  case c4 => omega
  case c5 => simp; omega
  intro v' w2 hown' hgrow _
  have hlt : b < w.heap.size := block_of_row hbk
  have hb2 : w2.heap[b]? = some (.cells #[.pointer (some ⟨b, 0, none⟩), v] 221 (0, 0)) := by
    rw [hgrow.block b (by simp; omega) (fun e => hne e.symm), Lib.alloc_old w _ b hlt]
    exact hbk
  have d0 : w2.cell? ⟨b, 0, none⟩ = some (.pointer (some ⟨b, 0, none⟩)) := by rw [Lib.cell_of_heap hb2]; rfl
  have d1 : w2.cell? ⟨b, 1, none⟩ = some v := by rw [Lib.cell_of_heap hb2]; rfl
  have f1 : w2.frozen? ⟨b, 1, none⟩ = false := Lib.frozen_of_heap hb2 1
  obtain ⟨g, cap, rfl⟩ : ∃ g cap, v' = .slice (some ⟨g, 0, none⟩) (bs.length + 1) cap := by
    rcases hown'.2 with ⟨_, h0⟩ | ⟨g, cap, cur, hv, _⟩
    · omega
    · exact ⟨g, cap, hv⟩
  go_wp2
  go_ret
  refine ⟨rfl, ?_, ?_⟩
  · exact Lib.BuilderAt.put (T := 221) (e := 5) hB hb2 (bs' := bs ++ [.int .u8 c]) (by simpa using hown') bld_neB
  · exact (((Below.refl B w).alloc hBw _).grown hgrow (by simp; omega) (fun k hk => (hown.lt k hk).1)).setCell (p := ⟨b, 1, none⟩) hB _

set_option maxRecDepth 100000 in
set_option maxHeartbeats 2000000 in
theorem bldWrite (B b : Nat) (bs : List Value) (A : Option Addr) (n c : Nat) (l : List UInt8) (w : World) (h : BldAt B b bs w) (hs : BS w (.slice A n c) l) (hn : 0 < n) (hlen : bs.length + n ≤ 140737488355328) (hBw : B ≤ w.heap.size) :
    Calls Tryz.prog 118 #[.pointer (some ⟨b, 0, none⟩), .slice A n c] w fun e w' => e = .returned (.tuple #[.int .i64 n, .nilIface]) ∧ BldAt B b (bs ++ Lib.byteCells l) w' ∧ Below B w w' := by
  obtain ⟨i0, hi, hz0, hz1, hz2⟩ := info_u8p
  obtain ⟨hB, v, hbk, hown, hne⟩ := h
  obtain ⟨hnl, _⟩ := hs.slice
  obtain ⟨b', o', rfl, hcl⟩ := hs.at_ hn
  have c0 : w.cell? ⟨b, 0, none⟩ = some (.pointer (some ⟨b, 0, none⟩)) := by rw [Lib.cell_of_heap hbk]; rfl
  have c1 : w.cell? ⟨b, 1, none⟩ = some v := by rw [Lib.cell_of_heap hbk]; rfl
  have hnews : ∀ j u, (Lib.byteCells l)[j]? = some u → w.cell? ((⟨b', o', none⟩ : Addr).add j) = some u := fun j u hv => by
    have hj : j < l.length := by
      rcases Nat.lt_or_ge j l.length with h | h
      · exact h
      · rw [List.getElem?_eq_none (by rw [Lib.byteCells_length]; exact h)] at hv; cases hv
    have ead : (⟨b', o', none⟩ : Addr).add j = ⟨b', o' + j, none⟩ := by by_cases h : j = 0 <;> simp [Addr.add, h]
    rw [ead, hcl j hj]
    simp [Lib.byteCells, List.getElem?_eq_getElem hj] at hv
    rw [hv]
  have hl : (Lib.byteCells l).length = n := by rw [Lib.byteCells_length]; exact hnl.symm
  generalize hNW : Lib.byteCells l = news at hnews hl
  have h1 : ∀ u ∈ news, u.oneCell' = true := by rw [← hNW]; exact Lib.byteCells_one l
  clear hNW hcl hs
  have HN := Lib.hid hnl
  have HL := Lib.hid hl
  have HNE := Lib.hid hnews
  clear hnl hl hnews
  go_enter Tryz.func118, Tryz.ntmps118
  go_wp2_with fail
  refine (copyCheck_used b w c0).mono ?_
  rintro e w1 ⟨rfl, rfl⟩
  go_wp2_with (at_builtin; refine wpList_append_own _ rfl _ _ 98 rfl B 5 i0 (.int .u8 0) 1 1 Tryz.underlying98 hi hz0 hz1 hz2 rfl (by decide) _ _ _ rfl hown ⟨b', o', none⟩ n c news rfl (by rw [HL.out]; omega) HNE.out h1 ?c3 ?c4 ?c5 ?_)
  case c3 => unfold maxLen; omega
  case c4 => omega
  case c5 => omega
  intro v' w2 hown' hgrow _
  have hlt : b < w.heap.size := block_of_row hbk
  have hb2 : w2.heap[b]? = some (.cells #[.pointer (some ⟨b, 0, none⟩), v] 221 (0, 0)) := by
    rw [hgrow.block b hlt (fun e => hne e.symm)]
    exact hbk
  have d0 : w2.cell? ⟨b, 0, none⟩ = some (.pointer (some ⟨b, 0, none⟩)) := by rw [Lib.cell_of_heap hb2]; rfl
  have d1 : w2.cell? ⟨b, 1, none⟩ = some v := by rw [Lib.cell_of_heap hb2]; rfl
  have f1 : w2.frozen? ⟨b, 1, none⟩ = false := Lib.frozen_of_heap hb2 1
  obtain ⟨ao, n', cap, rfl⟩ : ∃ ao n' cap, v' = .slice ao n' cap := by
    rcases hown'.2 with ⟨hv, _⟩ | ⟨g, cap, cur, hv, _⟩
    · exact ⟨_, _, _, hv⟩
    · exact ⟨_, _, _, hv⟩
  go_wp2
  go_ret2
  refine ⟨rfl, ?_, ?_⟩
  · exact Lib.BuilderAt.put (T := 221) (e := 5) hB hb2 (bs' := bs ++ news) (by rw [List.length_append, HL.out]; exact hown') bld_neB
  · exact ((Below.refl B w).grown hgrow hBw (fun k hk => (hown.lt k hk).1)).setCell (p := ⟨b, 1, none⟩) hB _
end Go.Proofs.YthehmnpbepmnpaaGreatDoorR
/- The plain law of identifiers: how one is written, how it is read of bytes. No program in sight. -/
namespace Go.Proofs.YthehmnpbepmnpaaGreatDoorR
open Go.RowKit

/-- An identifier: version, codec, code, digest. -/
structure CidD where
  ver : Nat
  codec : Nat
  code : Nat
  dig : List UInt8

/-- Its bytes. -/
def cidEnc (c : CidD) : List UInt8 := if c.ver = 0 then mhEnc c.code c.dig else 1 :: (Lib.uvarint c.codec ++ mhEnc c.code c.dig)

/-- spec.Tidy. -/
def CidD.tidy (c : CidD) : Prop := (c.ver = 0 ∧ c.codec = 112 ∧ c.code = 18 ∧ c.dig.length = 32) ∨ (c.ver = 1 ∧ c.codec < 9223372036854775808 ∧ c.code < 9223372036854775808)

/-- Do the bytes begin as those of version 0? -/
def cidZero (l : List UInt8) : Prop := 2 < l.length ∧ l[0]? = some 18 ∧ l[1]? = some 32
instance (l : List UInt8) : Decidable (cidZero l) := by unfold cidZero; exact inferInstance

/-- Reading an identifier of the beginning of bytes, and how many bytes it has. -/
def cidRd (l : List UInt8) : Option (CidD × Nat) :=
  if cidZero l then (if l.length < 34 then none else some (⟨0, 112, 18, (l.drop 2).take 32⟩, 34)) else
  match uvDec l with
  | .ok v n => if v = 1 then
      (match uvDec (l.drop n) with
      | .ok codec m =>
        (match mhRd ((l.drop n).drop m) with
        | some (r, code, d) => some (⟨1, codec, code, d⟩, n + m + r)
        | none => none)
      | _ => none) else none
  | _ => none

theorem uvarint18 : Lib.uvarint 18 = [18] := Lib.uvarint_small (by omega)
theorem uvarint32 : Lib.uvarint 32 = [32] := Lib.uvarint_small (by omega)
theorem uvarint1 : Lib.uvarint 1 = [1] := Lib.uvarint_small (by omega)

theorem uvDec_not_ok {l : List UInt8} (h : (uvDec l).no) (x m : Nat) : uvDec l ≠ .ok x m := by
  intro e; rw [e] at h; exact h

theorem uvDec_one (l : List UInt8) : uvDec (1 :: l) = .ok 1 1 := by
  have := uvDec_back 1 (by omega) l
  rw [uvarint1] at this
  exact this

theorem not_zero_one (l : List UInt8) : ¬ cidZero (1 :: l) := by
  intro ⟨_, h, _⟩
  simp at h

theorem mhEnc_18 (d : List UInt8) (hd : d.length = 32) : mhEnc 18 d = 18 :: 32 :: d := by
  unfold mhEnc; rw [hd, uvarint18, uvarint32]; rfl

/-- What is written is read, whatever stands behind it. -/
theorem cidRd_enc (c : CidD) (more : List UInt8) (ht : c.tidy) (hd : c.dig.length ≤ 2147483647) : cidRd (cidEnc c ++ more) = some (c, (cidEnc c).length) := by
  obtain ⟨v, codec, code, d⟩ := c
  rcases ht with ⟨h0, h1, h2, h3⟩ | ⟨h0, h1, h2⟩
  · simp only at h0 h1 h2 h3 hd
    subst h0 h1 h2
    have e : cidEnc ⟨0, 112, 18, d⟩ = 18 :: 32 :: d := by unfold cidEnc; rw [if_pos rfl]; exact mhEnc_18 d h3
    rw [e]
    unfold cidRd
    have hz : cidZero (18 :: 32 :: d ++ more) := ⟨by simp [h3]; omega, rfl, rfl⟩
    rw [if_pos hz, if_neg (by simp [h3])]
    simp [h3, List.take_left']
  · simp only at h0 h1 h2 hd
    subst h0
    have e : cidEnc ⟨1, codec, code, d⟩ = 1 :: (Lib.uvarint codec ++ mhEnc code d) := by unfold cidEnc; rw [if_neg (show ¬ (1 : Nat) = 0 by decide)]
    rw [e]
    unfold cidRd
    rw [List.cons_append, if_neg (not_zero_one _), uvDec_one]
    dsimp only
    rw [if_pos rfl, List.drop_succ_cons, List.drop_zero, List.append_assoc, uvDec_back codec h1]
    dsimp only
    rw [List.drop_left, mhRd_enc code d more h2 hd]
    simp [Nat.add_comm, Nat.add_assoc]

theorem cidRd_enc0 (c : CidD) (ht : c.tidy) (hd : c.dig.length ≤ 2147483647) : cidRd (cidEnc c) = some (c, (cidEnc c).length) := by
  have := cidRd_enc c [] ht hd
  rwa [List.append_nil] at this

/-- The bytes of which a multihash is read are those with which it is written. -/
theorem mhRd_take {l : List UInt8} {r code : Nat} {d : List UInt8} (h : mhRd l = some (r, code, d)) : r ≤ l.length ∧ l.take r = mhEnc code d ∧ d.length ≤ 2147483647 ∧ code < 9223372036854775808 := by
  obtain ⟨h2, m1, x2, m2, e1, e2, hx, hx2, rfl, rfl⟩ := mhRd_some h
  obtain ⟨g1, g2, g3, _, g5⟩ := uvDec_ok e1
  obtain ⟨k1, k2, k3, _, k5⟩ := uvDec_ok e2
  have hc := uvDec_lt63 e1
  have hl2 : ((l.drop m1).drop m2).length = l.length - m1 - m2 := by rw [List.length_drop, List.length_drop]
  have hlen : (((l.drop m1).drop m2).take x2).length = x2 := by rw [List.length_take]; omega
  have hl1 : (l.drop m1).length = l.length - m1 := by simp
  refine ⟨by omega, ?_, by omega, hc⟩
  unfold mhEnc
  rw [hlen, ← g5, ← k5]
  rw [show m1 + m2 + x2 = m1 + (m2 + x2) by omega, List.take_add, List.take_add]

theorem cidRd_some {l : List UInt8} {c : CidD} {n : Nat} (h : cidRd l = some (c, n)) :
    (cidZero l ∧ 34 ≤ l.length ∧ n = 34 ∧ c = ⟨0, 112, 18, (l.drop 2).take 32⟩) ∨
    (¬ cidZero l ∧ uvDec l = .ok 1 1 ∧ ∃ m r, uvDec (l.drop 1) = .ok c.codec m ∧ mhRd ((l.drop 1).drop m) = some (r, c.code, c.dig) ∧ n = 1 + m + r ∧ c.ver = 1) := by
  unfold cidRd at h
  by_cases hz : cidZero l
  · rw [if_pos hz] at h
    by_cases h34 : l.length < 34
    · rw [if_pos h34] at h; cases h
    · rw [if_neg h34] at h
      injection h with h
      injection h with h1 h2
      exact .inl ⟨hz, by omega, h2.symm, h1.symm⟩
  · rw [if_neg hz] at h
    refine .inr ⟨hz, ?_⟩
    rcases uvR_cases (uvDec l) with ⟨v, k, e1⟩ | hno
    · rw [e1] at h
      dsimp only at h
      by_cases hv : v = 1
      · subst hv
        rw [if_pos rfl] at h
        have hk : k = 1 := by
          obtain ⟨g1, g2, _, _, g5⟩ := uvDec_ok e1
          have := congrArg List.length g5
          rw [uvarint1, List.length_take] at this
          simp at this
          omega
        subst hk
        refine ⟨e1, ?_⟩
        rcases uvR_cases (uvDec (l.drop 1)) with ⟨codec, m, e2⟩ | hno
        · rw [e2] at h
          dsimp only at h
          cases e3 : mhRd ((l.drop 1).drop m) with
          | none => rw [e3] at h; cases h
          | some x =>
            obtain ⟨r, code, d⟩ := x
            rw [e3] at h
            dsimp only at h
            injection h with h
            injection h with h1 h2
            subst h1
            exact ⟨m, r, e2, e3, h2.symm, rfl⟩
        · exfalso
          cases hh : uvDec (l.drop 1) with
          | ok => rw [hh] at hno; exact hno
          | _ => rw [hh] at h; cases h
      · rw [if_neg hv] at h; cases h
    · exfalso
      cases hh : uvDec l with
      | ok => rw [hh] at hno; exact hno
      | _ => rw [hh] at h; cases h

theorem cidRd_none {l : List UInt8} (h : cidRd l = none) :
    (cidZero l ∧ l.length < 34) ∨ (¬ cidZero l ∧ ((uvDec l).no ∨ (∃ v n, uvDec l = .ok v n ∧ v ≠ 1) ∨ (uvDec l = .ok 1 1 ∧ ((uvDec (l.drop 1)).no ∨ ∃ codec m, uvDec (l.drop 1) = .ok codec m ∧ mhRd ((l.drop 1).drop m) = none)))) := by
  unfold cidRd at h
  by_cases hz : cidZero l
  · rw [if_pos hz] at h
    by_cases h34 : l.length < 34
    · exact .inl ⟨hz, h34⟩
    · rw [if_neg h34] at h; cases h
  · rw [if_neg hz] at h
    refine .inr ⟨hz, ?_⟩
    rcases uvR_cases (uvDec l) with ⟨v, k, e1⟩ | hno
    · rw [e1] at h
      dsimp only at h
      by_cases hv : v = 1
      · subst hv
        rw [if_pos rfl] at h
        have hk : k = 1 := by
          obtain ⟨g1, g2, _, _, g5⟩ := uvDec_ok e1
          have := congrArg List.length g5
          rw [uvarint1, List.length_take] at this
          simp at this
          omega
        subst hk
        refine .inr (.inr ⟨e1, ?_⟩)
        rcases uvR_cases (uvDec (l.drop 1)) with ⟨codec, m, e2⟩ | hno
        · rw [e2] at h
          dsimp only at h
          cases e3 : mhRd ((l.drop 1).drop m) with
          | none => exact .inr ⟨codec, m, e2, e3⟩
          | some x =>
            obtain ⟨r, code, d⟩ := x
            rw [e3] at h
            cases h
        · exact .inl hno
      · exact .inr (.inl ⟨v, k, e1, hv⟩)
    · exact .inl hno

/-- The bytes of which an identifier is read are those with which it is written; it is tidy. -/
theorem cidRd_take {l : List UInt8} {c : CidD} {n : Nat} (h : cidRd l = some (c, n)) : n ≤ l.length ∧ l.take n = cidEnc c ∧ c.tidy ∧ c.dig.length ≤ 2147483647 := by
  rcases cidRd_some h with ⟨⟨hz, z0, z1⟩, h34, rfl, rfl⟩ | ⟨hz, e1, m, r, e2, e3, rfl, hv⟩
  · have hd : ((l.drop 2).take 32).length = 32 := by rw [List.length_take, List.length_drop]; omega
    refine ⟨h34, ?_, .inl ⟨rfl, rfl, rfl, hd⟩, by show ((l.drop 2).take 32).length ≤ _; omega⟩
    show _ = mhEnc 18 _
    rw [mhEnc_18 _ hd]
    match l, z0, z1 with
    | a :: b :: t, z0, z1 =>
      simp only [List.getElem?_cons_zero, Option.some.injEq] at z0
      simp only [List.getElem?_cons_succ, List.getElem?_cons_zero, Option.some.injEq] at z1
      subst z0 z1
      rfl
  · obtain ⟨v, codec, code, d⟩ := c
    simp only at hv e2 e3 ⊢
    subst hv
    obtain ⟨q1, q2, q3, q4⟩ := mhRd_take e3
    obtain ⟨g1, g2, g3, _, g5⟩ := uvDec_ok e1
    obtain ⟨k1, k2, k3, _, k5⟩ := uvDec_ok e2
    have hc := uvDec_lt63 e2
    have l1 : (l.drop 1).length = l.length - 1 := by simp
    have l2 : ((l.drop 1).drop m).length = l.length - 1 - m := by rw [List.length_drop, List.length_drop]
    refine ⟨by omega, ?_, .inr ⟨rfl, hc, q4⟩, q3⟩
    unfold cidEnc
    rw [if_neg (show ¬ (1 : Nat) = 0 by decide)]
    simp only
    rw [← q2, ← k5, show 1 + m + r = 1 + (m + r) by omega, List.take_add, List.take_add, g5, uvarint1]
    rfl

/-- Two tidy identifiers with the same bytes are one. -/
theorem cidEnc_inj {a b : CidD} (ha : a.tidy) (hb : b.tidy) (la : a.dig.length ≤ 2147483647) (lb : b.dig.length ≤ 2147483647) (h : cidEnc a = cidEnc b) : a = b := by
  have h1 := cidRd_enc0 a ha la
  have h2 := cidRd_enc0 b hb lb
  rw [h, h2] at h1
  injection h1 with h1
  injection h1 with h1 _
  exact h1.symm

theorem mhEnc_len_le (code : Nat) (d : List UInt8) (hc : code < 18446744073709551616) (hd : d.length < 18446744073709551616) : 2 ≤ (mhEnc code d).length ∧ (mhEnc code d).length ≤ 20 + d.length := by
  unfold mhEnc
  have h1 := Lib.uvarint_length64 hc
  have h2 := Lib.uvarint_length64 hd
  have h3 := Lib.uvarint_pos code
  have h4 := Lib.uvarint_pos d.length
  simp only [List.length_append]
  omega

theorem cidEnc_length_le (c : CidD) (ht : c.tidy) (hd : c.dig.length ≤ 2147483647) : 2 ≤ (cidEnc c).length ∧ (cidEnc c).length ≤ 31 + c.dig.length := by
  obtain ⟨v, codec, code, d⟩ := c
  have hcode : code < 18446744073709551616 := by rcases ht with ⟨_, _, h, _⟩ | ⟨_, _, h⟩ <;> simp only at h <;> omega
  have hcodec : codec < 18446744073709551616 := by rcases ht with ⟨_, h, _, _⟩ | ⟨_, h, _⟩ <;> simp only at h <;> omega
  simp only at hd ⊢
  obtain ⟨h1, h2⟩ := mhEnc_len_le code d hcode (by omega)
  have h3 := Lib.uvarint_length64 hcodec
  unfold cidEnc
  simp only
  by_cases h : v = 0
  · rw [if_pos h]; omega
  · rw [if_neg h]; simp only [List.length_cons, List.length_append]; omega

theorem mhEnc_len (code : Nat) (d : List UInt8) : d.length ≤ (mhEnc code d).length := by
  unfold mhEnc; simp only [List.length_append]; omega
theorem cidRd_dig {l : List UInt8} {x : CidD} {k : Nat} (h : cidRd l = some (x, k)) : x.dig.length ≤ k ∧ k ≤ l.length := by
  obtain ⟨h1, h2, _, _⟩ := cidRd_take h
  have := congrArg List.length h2
  rw [List.length_take, Nat.min_eq_left h1] at this
  have hm := mhEnc_len x.code x.dig
  refine ⟨?_, h1⟩
  rw [this]
  unfold cidEnc
  by_cases hz : x.ver = 0
  · rw [if_pos hz]; exact hm
  · rw [if_neg hz]; simp only [List.length_cons, List.length_append]; omega
end Go.Proofs.YthehmnpbepmnpaaGreatDoorR
/- multihash.Encode and impl.MhEncode: the code, the digest's length, the digest. -/
namespace Go.Proofs.YthehmnpbepmnpaaGreatDoorR
open Go.RowKit

theorem mhEnc_length (code : Nat) (d : List UInt8) : (mhEnc code d).length = (Lib.uvarint code).length + (Lib.uvarint d.length).length + d.length := by
  unfold mhEnc; simp [Nat.add_assoc]

theorem splice3 (z : Value) (a b d : List Value) : splice (splice (splice (List.replicate (a.length + b.length + d.length) z) 0 a) a.length b) (a.length + b.length) d = a ++ (b ++ d) := by
  have h1 : splice (List.replicate (a.length + b.length + d.length) z) 0 a = a ++ List.replicate (b.length + d.length) z := by
    simp [splice, Nat.add_assoc]
  have h2 : splice (a ++ List.replicate (b.length + d.length) z) a.length b = a ++ (b ++ List.replicate d.length z) := by
    simp [splice]
  rw [h1, h2]
  have e : a ++ (b ++ List.replicate d.length z) = (a ++ b) ++ List.replicate d.length z := by simp
  rw [e]
  unfold splice
  rw [List.take_left' (by simp), List.drop_eq_nil_of_le (by simp; omega)]
  simp

set_option maxRecDepth 100000 in
set_option maxHeartbeats 1000000 in
theorem putUvW_any (g o n c x : Nat) (cur : List Value) (t : TypeId) (w : World) (hx : x < 18446744073709551616) (hrow : w.heap[g]? = some (.cells cur.toArray t (0, 0)))
    (hfit : o + (Lib.uvarint x).length ≤ cur.length) (hn : (Lib.uvarint x).length ≤ n) :
    Calls Tryz.prog 114 #[.slice (some ⟨g, o, none⟩) n c, .int .u64 x] w fun e w' =>
      e = .returned (.int .i64 (Lib.uvarint x).length) ∧ Hid (w'.heap[g]? = some (.cells (splice cur o (Lib.byteCells (Lib.uvarint x))).toArray t (0, 0))) ∧ Turn g w w' := by
  have HC := Lib.hid (put_row g o n c x cur t w hx hrow hfit hn)
  clear hrow hfit hn
  go_enter Tryz.func114, Tryz.ntmps114
  go_wp2_with fail
  refine HC.out.mono ?_
  rintro e w1 ⟨rfl, hr, ht⟩
  go_wp2
  go_ret
  exact ⟨rfl, hr, ht⟩

set_option maxRecDepth 100000 in
set_option maxHeartbeats 1000000 in
theorem encode_any (A : Option Addr) (n c : Nat) (l : List UInt8) (w : World) (hs : BS w (.slice A n c) l) (hm : l.length ≤ 2147483647) (code : Nat) (hc : code < 18446744073709551616) :
    Calls Tryz.prog 76 #[.slice A n c, .int .u64 code] w fun e w' =>
      e = .returned (.tuple #[.slice (some ⟨w.heap.size, 0, none⟩) (mhEnc code l).length (mhEnc code l).length, .nilIface]) ∧ Hid (w'.heap[w.heap.size]? = some (.cells (Lib.byteCells (mhEnc code l)).toArray 5 (0, 0))) ∧ Below w.heap.size w w' := by
  obtain ⟨hn, hcap⟩ := hs.slice
  have la := Lib.uvarint_length64 hc
  have lb := Lib.uvarint_length64 (x := n) (by omega)
  have pa := Lib.uvarint_pos code
  have pb := Lib.uvarint_pos n
  have hlen := mhEnc_length code l
  rw [← hn] at hlen
  have hcells : Lib.byteCells (mhEnc code l) = Lib.byteCells (Lib.uvarint code) ++ (Lib.byteCells (Lib.uvarint n) ++ Lib.byteCells l) := by
    unfold mhEnc; rw [← hn, Lib.byteCells_append, Lib.byteCells_append]
  have hl3 : (Lib.byteCells l).length = n := by rw [Lib.byteCells_length]; exact hn.symm
  rw [hlen, hcells]
  obtain ⟨a, ha⟩ : ∃ a, a = (Lib.uvarint code).length := ⟨_, rfl⟩
  obtain ⟨b, hb⟩ : ∃ b, b = (Lib.uvarint n).length := ⟨_, rfl⟩
  rw [← ha] at la pa ⊢
  rw [← hb] at lb pb ⊢
  obtain ⟨N, hN⟩ : ∃ N, N = a + b + n := ⟨_, rfl⟩
  obtain ⟨w1, hmk, hb1, hs1, hrow⟩ := make_bytes (P := Tryz.prog) Tryz.underlying98 info_u8 w N (by omega)
  have eN : ((N : Nat) : Int) = (a : Int) + b + n := by omega
  rw [eN] at hmk
  have r1 := fun W => run_from (P := Tryz.prog) Tryz.underlying98 info_u8 (some ⟨w.heap.size, 0, none⟩) N N a (by omega) W
  have r2 := fun W => run_from (P := Tryz.prog) Tryz.underlying98 info_u8 (some ⟨w.heap.size, 0, none⟩) N N (a + b) (by omega) W
  have e2 : ((a + b : Nat) : Int) = (a : Int) + b := by omega
  rw [cutA_own _ _ _ _ (by omega), Nat.zero_add] at r1
  rw [e2] at r2
  have HR := Lib.hid hrow
  have HA := Lib.hid ha
  have HB := Lib.hid hb
  have HN := Lib.hid hN
  have H3 := Lib.hid hl3
  have HS := Lib.hid hs
  have Hn := Lib.hid hn
  have n2 : n ≤ 2147483647 := by omega
  have N1 : N ≤ 3000000000 := by omega
  clear hrow ha hb hN hl3 hs hn hlen hcells hcap hs1 hm eN e2
  go_enter Tryz.func76, Tryz.ntmps76
  go_wp2_with fail
  refine (uvSize_any code w hc).mono ?_
  rw [← HA.out]
  rintro e w' ⟨rfl, rfl⟩
  go_wp2_with fail
  refine (uvSize_any n w (by omega)).mono ?_
  rw [← HB.out]
  rintro e w' ⟨rfl, rfl⟩
  go_wp2_with fail
  clear hmk
  refine (putUvW_any w.heap.size 0 N N code (List.replicate N (Value.int .u8 0)) 5 w1 hc HR.out (by rw [List.length_replicate, ← HA.out]; have := HN.out; omega) (by rw [← HA.out]; have := HN.out; omega)).mono ?_
  rw [← HA.out]
  rintro e w2 ⟨rfl, h2, ht2⟩
  have h2' := h2.out
  have L1 : (splice (List.replicate N (Value.int .u8 0)) 0 (Lib.byteCells (Lib.uvarint code))).length = N := by
    rw [length_splice _ _ _ (by rw [Lib.byteCells_length, List.length_replicate, ← HA.out]; have := HN.out; omega), List.length_replicate]
  go_wp2_with fail
  refine (putUvW_any w.heap.size a (N - a) (N - a) n _ 5 w2 (by omega) h2.out (by rw [L1, ← HB.out]; have := HN.out; omega) (by rw [← HB.out]; have := HN.out; omega)).mono ?_
  rw [← HB.out]
  rintro e w3 ⟨rfl, h3, ht3⟩
  clear h2'
  have L2 : (splice (splice (List.replicate N (Value.int .u8 0)) 0 (Lib.byteCells (Lib.uvarint code))) a (Lib.byteCells (Lib.uvarint n))).length = N := by
    rw [length_splice _ _ _ (by rw [Lib.byteCells_length, L1, ← HB.out]; have := HN.out; omega), L1]
  have hb3 : Below w.heap.size w w3 := (hb1.trans (ht2.below (Nat.le_refl _))).trans (ht3.below (Nat.le_refl _))
  have hsrc : 0 < (Lib.byteCells l).length → (cutA (some ⟨w.heap.size, 0, none⟩) N (a + b)) = some ⟨w.heap.size, a + b, none⟩ ∧ ∃ ad, A = some ad ∧ ∀ j v, (Lib.byteCells l)[j]? = some v → w3.cell? (ad.add j) = some v := by
    intro h0
    rw [H3.out] at h0
    refine ⟨by rw [cutA_own _ _ _ _ (by have := HN.out; omega), Nat.zero_add], ?_⟩
    obtain ⟨b', o', e1, hcell⟩ := (HS.out.below hb3).at_ h0
    refine ⟨_, e1, fun j v hv => ?_⟩
    have hj : j < l.length := by
      rcases Nat.lt_or_ge j l.length with h | h
      · exact h
      · rw [List.getElem?_eq_none (by rw [Lib.byteCells_length]; exact h)] at hv; cases hv
    have ead : (⟨b', o', none⟩ : Addr).add j = ⟨b', o' + j, none⟩ := by by_cases h : j = 0 <;> simp [Addr.add, h]
    rw [ead, hcell j hj]
    simp [Lib.byteCells, List.getElem?_eq_getElem hj] at hv
    rw [hv]
  have HSRC := Lib.hid hsrc
  have HL2 := Lib.hid L2
  have HL1 := Lib.hid L1
  clear hsrc L2 L1
  have hsz1 : (Tryz.prog.info? 5).map (·.size) = some 1 := by kernel_rfl
  have hmin : (Lib.byteCells l).length = Nat.min n (N - (a + b)) := by
    have := HN.out
    rw [H3.out, show N - (a + b) = n by omega]; exact (Nat.min_self n).symm
  have HMIN := Lib.hid hmin
  clear hmin
  go_wp2_with (with_reducible refine wpList_copy_splice rfl (.tmp 33) (.tmp 34) 98 98 rfl 5 Tryz.underlying98 hsz1 (cutA (some ⟨w.heap.size, 0, none⟩) N (a + b)) A (N - (a + b)) (N - (a + b)) n c rfl rfl w.heap.size (a + b) _ 5 h3.out (Lib.byteCells l) HMIN.out HSRC.out (by rw [H3.out, HL2.out]; have := HN.out; omega) (Lib.byteCells_one _) w.heap.size w hb3 (Nat.le_refl _) ?_; intro w4 hg4 hb4)
  go_ret2
  refine ⟨by rw [← HN.out]; rfl, Lib.hid ?_, hb4⟩
  rw [hg4.out]
  have e1 : a = (Lib.byteCells (Lib.uvarint code)).length := by rw [Lib.byteCells_length]; exact HA.out
  have e2 : b = (Lib.byteCells (Lib.uvarint n)).length := by rw [Lib.byteCells_length]; exact HB.out
  rw [HN.out]
  rw [show a + b + n = (Lib.byteCells (Lib.uvarint code)).length + (Lib.byteCells (Lib.uvarint n)).length + (Lib.byteCells l).length by rw [← e1, ← e2, H3.out]]
  conv => lhs; rw [show a = (Lib.byteCells (Lib.uvarint code)).length from e1, show b = (Lib.byteCells (Lib.uvarint n)).length from e2]
  rw [splice3]

end Go.Proofs.YthehmnpbepmnpaaGreatDoorR
/- Contracts of package cid: NewCidV1. -/
namespace Go.Proofs.YthehmnpbepmnpaaGreatDoorR
open Go.RowKit

theorem BldAt.below {B b : Nat} {bs : List Value} {w w' : World} (h : BldAt B b bs w) (hb : Below w.heap.size w w') : BldAt B b bs w' := by
  obtain ⟨hB, v, hbk, hown, hne⟩ := h
  refine ⟨hB, v, (hb.block b (block_of_row hbk)).trans hbk, ?_, hne⟩
  obtain ⟨h1, h2⟩ := hown
  refine ⟨h1, ?_⟩
  rcases h2 with h2 | ⟨g, cap, cur, e1, e2, e3, e4⟩
  · exact .inl h2
  · exact .inr ⟨g, cap, cur, e1, e2, (hb.block g (block_of_row e3)).trans e3, e4⟩

theorem run_arr10 (g L : Nat) (h : L ≤ 10) (W : World) : (Instr.sliceAt 224 (.pointer (some ⟨g, 0, none⟩)) none (some (.int .i64 (L : Int))) none).run Tryz.prog W = .ok (.slice (some ⟨g, 0, none⟩) L 10) W := by
  have e1 : Tryz.prog.arrayLen 224 = 10 := by kernel_rfl
  have e2 : Tryz.prog.elem 224 = 5 := by kernel_rfl
  have ht : Tryz.prog.underlying 224 = some (.array (Tryz.prog.arrayLen 224) (Tryz.prog.elem 224)) := by rw [e1, e2]; exact Tryz.underlying224
  rw [run_sliceAt_array_h W _ _ ht .i64 _ (by omega) (by rw [e1]; omega), e1, e2, run_size info_u8]
  simp [Result.andThen, slicedAt, Addr.add]

theorem byteCells_one' (l : List UInt8) : ([] : List Value) ++ [Value.int .u8 1] ++ Lib.byteCells l = Lib.byteCells (1 :: l) := rfl

set_option maxRecDepth 100000 in
set_option maxHeartbeats 2000000 in
theorem newCidV1 (codec : Nat) (hc : codec < 18446744073709551616) (A : Option Addr) (n c : Nat) (l : List UInt8) (w : World) (hs : BS w (.slice A n c) l) (hn : 0 < n) (hn2 : n ≤ 4294967296) :
    Calls Tryz.prog 78 #[.int .u64 codec, .slice A n c] w fun e w' => e = .returned (.agg #[.string ⟨(1 :: (Lib.uvarint codec ++ l)).toArray⟩]) ∧ Below w.heap.size w w' := by
  have hlen := Lib.uvarint_length64 hc
  have hpos := Lib.uvarint_pos codec
  obtain ⟨hnl, _⟩ := hs.slice
  obtain ⟨L, hL⟩ : ∃ L, L = (Lib.uvarint codec).length := ⟨_, rfl⟩
  rw [← hL] at hlen hpos
  have HL := Lib.hid hL
  have HNL := Lib.hid hnl
  have HS := Lib.hid hs
  clear hL hnl hs
  have hW : Below w.heap.size w ((w.alloc (.cells #[.string ⟨#[]⟩] 82)).alloc (.cells #[.pointer none, .slice none 0 0] 221)) := ((Below.refl _ _).alloc (Nat.le_refl _) _).alloc (by simp) _
  go_enter Tryz.func78, Tryz.ntmps78
  go_wp2_with fail
  refine (uvSize_any codec _ hc).mono ?_
  rw [← HL.out]
  rintro e w' ⟨rfl, rfl⟩
  go_wp2_with fail
  have hrow0 : ((w.alloc (.cells #[.string ⟨#[]⟩] 82)).alloc (.cells #[.pointer none, .slice none 0 0] 221)).heap[w.heap.size]? = some (.cells #[.string ⟨#[]⟩] 82 (0, 0)) := heap_alloc2_old _ _ _
  have hrow1 : ((w.alloc (.cells #[.string ⟨#[]⟩] 82)).alloc (.cells #[.pointer none, .slice none 0 0] 221)).heap[w.heap.size + 1]? = some (.cells #[.pointer none, .slice none 0 0] 221 (0, 0)) := heap_alloc2_new _ _ _
  have HG := Lib.hid (Tryz.Builder_Grow_fresh (w.heap.size + 1) (w.heap.size + 1) (1 + L + n) _ (Nat.le_refl _) hrow1 (by simp) (by omega))
  generalize hw1 : (w.alloc (.cells #[.string ⟨#[]⟩] 82)).alloc (.cells #[.pointer none, .slice none 0 0] 221) = w1 at *
  have hz1 : w1.heap.size = w.heap.size + 2 := by rw [← hw1]; simp
  clear hw1
  have HZ1 := Lib.hid hz1
  clear hz1 hrow1
  have HR0 := Lib.hid hrow0
  clear hrow0
  refine HG.out.mono ?_
  rintro e w2 ⟨rfl, hB2, hb2⟩
  have hW2 : Below w.heap.size w w2 := hW.trans (hb2.mono (by omega))
  have hz2 : w.heap.size + 2 ≤ w2.heap.size := by have := hb2.size; have := HZ1.out; omega
  have hr2 : w2.heap[w.heap.size]? = some (.cells #[.string ⟨#[]⟩] 82 (0, 0)) := (hb2.block _ (by omega)).trans HR0.out
  clear HG hW hb2
  go_wp2_with fail
  refine (bldWriteByte (w.heap.size + 1) (w.heap.size + 1) [] 1 w2 hB2 (by simp) (by omega)).mono ?_
  rintro e w3 ⟨rfl, hB3, hb3⟩
  have hW3 : Below w.heap.size w w3 := hW2.trans (hb3.mono (by omega))
  have hz3 : w.heap.size + 2 ≤ w3.heap.size := by have := hb3.size; omega
  have hr3 := (hb3.block _ (by omega)).trans hr2
  clear hW2 hr2 hb3 hB2
  have hrow4 := heap_alloc_new w3 (.cells #[.int .u8 0, .int .u8 0, .int .u8 0, .int .u8 0, .int .u8 0, .int .u8 0, .int .u8 0, .int .u8 0, .int .u8 0, .int .u8 0] 224)
  have HP := Lib.hid (putUvW_any w3.heap.size 0 10 10 codec (List.replicate 10 (Value.int .u8 0)) 224 _ hc hrow4 (by simp [← HL.out]; omega) (by rw [← HL.out]; omega))
  rw [← HL.out] at HP
  have hb4 : Below w3.heap.size w3 (w3.alloc (.cells #[.int .u8 0, .int .u8 0, .int .u8 0, .int .u8 0, .int .u8 0, .int .u8 0, .int .u8 0, .int .u8 0, .int .u8 0, .int .u8 0] 224)) := (Below.refl _ _).alloc (Nat.le_refl _) _
  clear hrow4
  go_wp2_with fail
  refine HP.out.mono ?_
  rintro e w4 ⟨rfl, hr4, ht4⟩
  have hb5 : Below w3.heap.size w3 w4 := hb4.trans (ht4.below (Nat.le_refl _))
  have hz4 : w4.heap.size = w3.heap.size + 1 := by rw [ht4.size]; simp
  have hW4 : Below w.heap.size w w4 := below_next hW3 hb5
  have hB4 := hB3.below hb5
  have hr4' := (hb5.block _ (by omega)).trans hr3
  have hbs4 : BS w4 (.slice (some ⟨w3.heap.size, 0, none⟩) L 10) (Lib.uvarint codec) := by
    have hh := BS.of_cells (w := w4) (b := w3.heap.size) (o := 0) (c := 10) (l := Lib.uvarint codec) (by rw [← HL.out]; omega) (fun j hj => by
      rw [← HL.out] at hj
      rw [Nat.zero_add, cell_of_row' hr4.out, splice_get _ _ _ (by rw [Lib.byteCells_length, List.length_replicate, ← HL.out]; omega), if_pos (by rw [Lib.byteCells_length, ← HL.out]; omega)]
      simp [Lib.byteCells, List.getElem?_eq_getElem (by rw [← HL.out]; exact hj : j < (Lib.uvarint codec).length)])
    rw [← HL.out] at hh
    exact hh
  have HBS4 := Lib.hid hbs4
  have HZ4 := Lib.hid hz4
  clear hbs4 hz4 ht4 hr4 hb4 HP hB3 hr3
  have hz5 : w.heap.size + 2 ≤ w4.heap.size := by have := HZ4.out; omega
  have hsl := run_arr10 w3.heap.size L (by omega)
  go_wp2_with fail
  refine (bldWrite (w.heap.size + 1) (w.heap.size + 1) _ _ L 10 _ w4 hB4 HBS4.out (by omega) (by simp; omega) (by omega)).mono ?_
  rintro e w5 ⟨rfl, hB5, hb6⟩
  have hW5 : Below w.heap.size w w5 := hW4.trans (hb6.mono (by omega))
  have hr5 := (hb6.block _ (by omega)).trans hr4'
  have hz6 : w.heap.size + 2 ≤ w5.heap.size := by have := hb6.size; omega
  rw [byteCells_one'] at hB5
  have hlen5 : (Lib.byteCells (1 :: Lib.uvarint codec)).length = L + 1 := by rw [Lib.byteCells_length, List.length_cons, ← HL.out]
  have HLEN5 := Lib.hid hlen5
  clear hlen5 hr4' hB4 hb6 HBS4 hW4 hz5
  go_wp2_with fail
  refine (bldWrite (w.heap.size + 1) (w.heap.size + 1) _ A n c l w5 hB5 (HS.out.below hW5) hn (by rw [HLEN5.out]; omega) (by omega)).mono ?_
  rintro e w6 ⟨rfl, hB6, hb7⟩
  have hW6 : Below w.heap.size w w6 := hW5.trans (hb7.mono (by omega))
  have hr6 := (hb7.block _ (by omega)).trans hr5
  have hz7 : w.heap.size + 2 ≤ w6.heap.size := by have := hb7.size; omega
  rw [← Lib.byteCells_append] at hB6
  clear hb7 hr5 hB5 HLEN5 hW5 hz6
  have HC := Lib.hid (Tryz.Builder_String_any (w.heap.size + 1) (w.heap.size + 1) _ w6 (.inr hB6) (by omega))
  clear hB6
  go_wp2_with fail
  refine HC.out.mono ?_
  rintro e w7 ⟨rfl, hb8⟩
  have hW7 : Below w.heap.size w w7 := hW6.trans (hb8.mono (by omega))
  have hr7 := (hb8.block _ (by omega)).trans hr6
  have c0 := cell_of_row' (cur := [_]) hr7 0
  have f0 := frozen_of_row' (cur := [_]) hr7 0
  have HR7 := Lib.hid hr7
  clear hr7 hr6 hb8 HC hW6 HR0 HZ1 HZ4
  go_wp2
  refine bodyPost_ret (results_cell_row rfl _ _ (w.heap.size) 82 #[.string ⟨(1 :: (Lib.uvarint codec ++ l)).toArray⟩] (0, 0) _ ?h1 ?h2 Tryz.underlying82 rfl ?h5) ?h6 ?h7
  case h1 => rfl
  case h2 => simp [World.setCell, Array.getElem?_modify, HR7.out]
  case h5 => kernel_rfl
  case h6 => rfl
  exact ⟨rfl, hW7.setCell (by exact Nat.le_refl _) _⟩
end Go.Proofs.YthehmnpbepmnpaaGreatDoorR
