/- Contracts, joined (MhPlain MhA MhB MhC Rdr Bld). -/
import Derived.Test.YthfgnhgijgjggaaDoorJHm1
import Derived.Outline
import Derived.Lib.BufferWrite
import Derived.Test.YthfgnhgijgjggaaDoorProg
import Derived.StillTailTactics
import Derived.LaidEql
import Derived.Lib.Builder
import Derived.Laws.AppendOwn
import Derived.OwnWalk
/- The plain law of multihashes: how one is read of bytes, how it is written. No program in sight. -/
namespace Go.Proofs.YthfgnhgijgjggaaDoor
open Go.RowKit

/-- Reading a multihash of the beginning of bytes: how many bytes it has, its code, its digest. -/
def mhRd (l : List UInt8) : Option (Nat × Nat × List UInt8) :=
  if l.length < 2 then none else
  match uvDec l with
  | .ok code n =>
    match uvDec (l.drop n) with
    | .ok len m => if 2147483647 < len ∨ ((l.drop n).drop m).length < len then none else some (n + m + len, code, ((l.drop n).drop m).take len)
    | _ => none
  | _ => none

/-- How a multihash is written. -/
def mhEnc (code : Nat) (d : List UInt8) : List UInt8 := Lib.uvarint code ++ (Lib.uvarint d.length ++ d)

/-- A number below 2^63 that is written is read, whatever stands behind it. -/
theorem uvGo_back : ∀ (f k X y : Nat) (more : List UInt8), k + f = 9 → X < 2 ^ (7 * k) → y < 2 ^ (7 * f) → (0 < k → 0 < y) → 0 < f →
    uvGo k X (Lib.uvarint y ++ more) = .ok (X + y * 2 ^ (7 * k)) (k + (Lib.uvarint y).length)
  | 0, _, _, _, _, _, _, _, _, h => by omega
  | f + 1, k, X, y, more, hkf, hX, hy, hpos, _ => by
    by_cases h : y < 128
    · have hb : y.toUInt8.toNat = y := by simp; omega
      rw [Lib.uvarint_small h]
      show uvGo k X (y.toUInt8 :: more) = _
      unfold uvGo
      rw [hb, if_neg (by omega), if_pos h, if_neg (by intro ⟨h1, h2⟩; have := hpos h2; omega)]
      simp
    · have hb : (y % 128 + 128).toUInt8.toNat = y % 128 + 128 := by simp; omega
      rw [Lib.uvarint_big (by omega), List.cons_append]
      have hf : 0 < f := by
        rcases Nat.eq_zero_or_pos f with h0 | h0
        · subst h0; simp at hy; omega
        · exact h0
      unfold uvGo
      rw [hb, if_neg (by omega), if_neg (by omega)]
      have hlt := uv_step_lt k X ((y % 128 + 128) % 128) hX (by omega)
      have e1 : (y % 128 + 128) % 128 = y % 128 := by omega
      have hp : 2 ^ (7 * (f + 1)) = 2 ^ (7 * f) * 128 := by rw [Nat.mul_add, Nat.pow_add]
      have hpk : 2 ^ (7 * (k + 1)) = 2 ^ (7 * k) * 128 := by rw [Nat.mul_add, Nat.pow_add]
      rw [uvGo_back f (k + 1) _ (y / 128) more (by omega) hlt (by rw [hp] at hy; omega) (by omega) hf, e1, hpk]
      congr 1
      · have : y = y / 128 * 128 + y % 128 := by omega
        have e2 : y * 2 ^ (7 * k) = y / 128 * (2 ^ (7 * k) * 128) + y % 128 * 2 ^ (7 * k) := by
          conv => lhs; rw [this]
          rw [Nat.add_mul, Nat.mul_assoc, Nat.mul_comm 128]
        omega
      · simp; omega

theorem uvDec_back (x : Nat) (hx : x < 9223372036854775808) (more : List UInt8) : uvDec (Lib.uvarint x ++ more) = .ok x (Lib.uvarint x).length := by
  have := uvGo_back 9 0 0 x more rfl (by decide) (by simpa using hx) (by omega) (by decide)
  simpa [uvDec] using this

theorem mhRd_enc (code : Nat) (d more : List UInt8) (hc : code < 9223372036854775808) (hd : d.length ≤ 2147483647) :
    mhRd (mhEnc code d ++ more) = some ((mhEnc code d).length, code, d) := by
  have h1 := Lib.uvarint_pos code
  have h2 := Lib.uvarint_pos d.length
  unfold mhRd mhEnc
  have e0 : Lib.uvarint code ++ (Lib.uvarint d.length ++ d) ++ more = Lib.uvarint code ++ (Lib.uvarint d.length ++ (d ++ more)) := by simp
  rw [e0, uvDec_back code hc]
  simp only [List.drop_left]
  rw [uvDec_back d.length (by omega)]
  simp only [List.drop_left, List.take_left]
  rw [if_neg (by simp; omega), if_neg (by simp; omega)]
  simp [Nat.add_assoc]

theorem uvR_cases (r : UvR) : (∃ x m, r = .ok x m) ∨ r.no := by
  cases r with
  | ok x m => exact .inl ⟨x, m, rfl⟩
  | _ => exact .inr trivial

theorem mhRd_some {l : List UInt8} {r code : Nat} {d : List UInt8} (h : mhRd l = some (r, code, d)) :
    2 ≤ l.length ∧ ∃ m1 x2 m2, uvDec l = .ok code m1 ∧ uvDec (l.drop m1) = .ok x2 m2 ∧ x2 ≤ 2147483647 ∧ x2 ≤ ((l.drop m1).drop m2).length ∧ r = m1 + m2 + x2 ∧ d = ((l.drop m1).drop m2).take x2 := by
  unfold mhRd at h
  by_cases h2 : l.length < 2
  · rw [if_pos h2] at h; cases h
  rw [if_neg h2] at h
  refine ⟨by omega, ?_⟩
  rcases uvR_cases (uvDec l) with ⟨x1, m1, e1⟩ | hno
  · rw [e1] at h
    dsimp only at h
    rcases uvR_cases (uvDec (l.drop m1)) with ⟨x2, m2, e2⟩ | hno
    · rw [e2] at h
      dsimp only at h
      by_cases h3 : 2147483647 < x2 ∨ ((l.drop m1).drop m2).length < x2
      · rw [if_pos h3] at h; cases h
      rw [if_neg h3] at h
      simp only [Option.some.injEq, Prod.mk.injEq] at h
      obtain ⟨rfl, rfl, rfl⟩ := h
      exact ⟨m1, x2, m2, e1, e2, by omega, by omega, rfl, rfl⟩
    · cases hh : uvDec (l.drop m1) with
      | ok => rw [hh] at hno; exact False.elim hno
      | _ => rw [hh] at h; cases h
  · cases hh : uvDec l with
    | ok => rw [hh] at hno; exact False.elim hno
    | _ => rw [hh] at h; cases h

theorem mhRd_none {l : List UInt8} (h : mhRd l = none) : l.length < 2 ∨ (2 ≤ l.length ∧ ((uvDec l).no ∨ ∃ x1 m1, uvDec l = .ok x1 m1 ∧
    ((uvDec (l.drop m1)).no ∨ ∃ x2 m2, uvDec (l.drop m1) = .ok x2 m2 ∧ (2147483647 < x2 ∨ (x2 ≤ 2147483647 ∧ ((l.drop m1).drop m2).length < x2))))) := by
  by_cases h2 : l.length < 2
  · exact .inl h2
  refine .inr ⟨by omega, ?_⟩
  unfold mhRd at h
  rw [if_neg h2] at h
  rcases uvR_cases (uvDec l) with ⟨x1, m1, e1⟩ | hno
  · refine .inr ⟨x1, m1, e1, ?_⟩
    rw [e1] at h
    dsimp only at h
    rcases uvR_cases (uvDec (l.drop m1)) with ⟨x2, m2, e2⟩ | hno
    · refine .inr ⟨x2, m2, e2, ?_⟩
      rw [e2] at h
      dsimp only at h
      by_cases h3 : 2147483647 < x2 ∨ ((l.drop m1).drop m2).length < x2
      · omega
      · rw [if_neg h3] at h; cases h
    · exact .inl hno
  · exact .inl hno
end Go.Proofs.YthfgnhgijgjggaaDoor
/- Contracts of package multihash: reading the varint, the multihash, taking it apart. -/
namespace Go.Proofs.YthfgnhgijgjggaaDoor
open Go.RowKit

/-- Variable g holds an error that is not nil. -/
def IsErr (w : World) (g : Nat) : Prop := ∃ t p, w.cell? ⟨g, 0, none⟩ = some (.iface t p)
theorem IsErr.below {w w' : World} {g : Nat} (h : IsErr w g) (hb : Below w.heap.size w w') : IsErr w' g := by
  obtain ⟨t, p, h⟩ := h; exact ⟨t, p, below_cell hb h⟩
/-- The three sentinels of package varint. -/
structure UvS (w : World) : Prop where
  T : ∃ T, (∃ p, w.cell? ⟨2, 0, none⟩ = some (.iface T p)) ∧ (∃ p, w.cell? ⟨3, 0, none⟩ = some (.iface T p)) ∧ (∃ p, w.cell? ⟨4, 0, none⟩ = some (.iface T p))
theorem UvS.below {w w' : World} (h : UvS w) (hb : Below w.heap.size w w') : UvS w' := by
  obtain ⟨T, ⟨p1, h1⟩, ⟨p2, h2⟩, ⟨p3, h3⟩⟩ := h.T
  exact ⟨T, ⟨p1, below_cell hb h1⟩, ⟨p2, below_cell hb h2⟩, ⟨p3, below_cell hb h3⟩⟩
/-- .. and those of package multihash. -/
structure MhS (w : World) : Prop extends UvS w where
  short : IsErr w 8
theorem MhS.below {w w' : World} (h : MhS w) (hb : Below w.heap.size w w') : MhS w' := ⟨h.toUvS.below hb, h.short.below hb⟩

theorem fromUv_ok (A : Option Addr) (n c : Nat) (l : List UInt8) (w : World) (hs : BS w (.slice A n c) l) (hm : l.length ≤ 9223372036854775807) (hu : UvS w) (x m : Nat) (h : uvDec l = .ok x m) :
    Calls Tryd.prog 79 #[.slice A n c] w fun e w' => e = .returned (.tuple #[.int .u64 x, .int .i64 m, .nilIface]) ∧ Below w.heap.size w w' := by
  obtain ⟨T, ⟨p1, h1⟩, ⟨p2, h2⟩, ⟨p3, h3⟩⟩ := hu.T
  refine (fromUv A n c l w hs hm T p1 p2 p3 h1 h2 h3).mono fun e w' ⟨he, q, hw⟩ => ⟨?_, ?_⟩
  · rw [he, h]; rfl
  · rw [hw]; exact below_drewN _ _ _

theorem fromUv_no (A : Option Addr) (n c : Nat) (l : List UInt8) (w : World) (hs : BS w (.slice A n c) l) (hm : l.length ≤ 9223372036854775807) (hu : UvS w) (h : (uvDec l).no) :
    Calls Tryd.prog 79 #[.slice A n c] w fun e w' => ∃ t p, e = .returned (.tuple #[.int .u64 0, .int .i64 0, .iface t p]) ∧ Below w.heap.size w w' := by
  obtain ⟨T, ⟨p1, h1⟩, ⟨p2, h2⟩, ⟨p3, h3⟩⟩ := hu.T
  refine (fromUv A n c l w hs hm T p1 p2 p3 h1 h2 h3).mono fun e w' ⟨he, q, hw⟩ => ?_
  subst he
  rw [hw]
  cases hd : uvDec l with
  | ok => rw [hd] at h; exact False.elim h
  | _ => exact ⟨_, _, rfl, below_drewN _ _ _⟩

set_option maxRecDepth 100000 in
set_option maxHeartbeats 1000000 in
theorem muv_ok (A : Option Addr) (n c : Nat) (l : List UInt8) (w : World) (hs : BS w (.slice A n c) l) (hm : l.length ≤ 9223372036854775807) (hu : UvS w) (x m : Nat) (hd : uvDec l = .ok x m) :
    BS w (.slice (cutA A c m) (n - m) (c - m)) (l.drop m) ∧
    Calls Tryd.prog 119 #[.slice A n c] w fun e w' => e = .returned (.tuple #[.int .u64 x, .slice (cutA A c m) (n - m) (c - m), .nilIface]) ∧ Below w.heap.size w w' := by
  obtain ⟨hn, _⟩ := hs.slice
  obtain ⟨g1, g2, g3, _, _⟩ := uvDec_ok hd
  obtain ⟨hrun, hs'⟩ := hs.from_ (P := Tryd.prog) Tryd.underlying43 info_u8 m (by omega)
  refine ⟨hs', ?_⟩
  have m1 : ((m : Int) == 0) = false := by simp; omega
  have m2 : ¬ (m : Int) < 0 := by omega
  have HC := Lib.hid (fromUv_ok A n c l w hs hm hu x m hd)
  clear hd hn hs hu hs'
  go_enter Tryd.func119, Tryd.ntmps119
  go_wp2_with fail
  refine HC.out.mono ?_
  rintro e w1 ⟨rfl, hb⟩
  go_wp2
  go_quiet (fail)
  go_wp2
  go_ret3
  exact ⟨rfl, hb.drewN _⟩

set_option maxRecDepth 100000 in
set_option maxHeartbeats 1000000 in
theorem muv_no (A : Option Addr) (n c : Nat) (l : List UInt8) (w : World) (hs : BS w (.slice A n c) l) (hm : l.length ≤ 9223372036854775807) (hu : UvS w) (hd : (uvDec l).no) :
    Calls Tryd.prog 119 #[.slice A n c] w fun e w' => ∃ t p, e = .returned (.tuple #[.int .u64 0, .slice A n c, .iface t p]) ∧ Below w.heap.size w w' := by
  have HC := Lib.hid (fromUv_no A n c l w hs hm hu hd)
  clear hd hs hu
  go_enter Tryd.func119, Tryd.ntmps119
  go_wp2_with fail
  refine HC.out.mono ?_
  rintro e w1 ⟨t, p, rfl, hb⟩
  go_wp2
  go_ret3
  exact ⟨t, p, rfl, hb⟩

set_option maxRecDepth 100000 in
/-- errors.New: a pointer to a new block that holds the text. -/
theorem errorsNew_any (s : ByteArray) (w : World) :
    Calls Tryd.prog 103 #[.string s] w fun e w' => e = .returned (.iface 218 (.pointer (some ⟨w.heap.size, 0, none⟩))) ∧ w.alloc (.cells #[.string s] 220) = w' := by
  go_enter Tryd.func103, Tryd.ntmps103
  go_wp2
  go_ret
  exact ⟨rfl, rfl⟩
/-- .. told as an error that is not nil. -/
theorem errorsNew (s : ByteArray) (w : World) :
    Calls Tryd.prog 103 #[.string s] w fun e w' => ∃ t p, e = .returned (.iface t p) ∧ Below w.heap.size w w' :=
  (errorsNew_any s w).mono fun e w' ⟨he, hw⟩ => ⟨_, _, he, by rw [← hw]; exact (Below.refl _ _).alloc (Nat.le_refl _) _⟩

set_option maxRecDepth 100000 in
set_option maxHeartbeats 1000000 in
theorem mrd_ok (A : Option Addr) (n c : Nat) (l : List UInt8) (w : World) (hs : BS w (.slice A n c) l) (hm : l.length ≤ 2147483647) (hu : UvS w) (r code : Nat) (d : List UInt8) (hd : mhRd l = some (r, code, d)) :
    ∃ A' c', BS w (.slice A' d.length c') d ∧ ∀ w0, Below w.heap.size w w0 →
    Calls Tryd.prog 112 #[.slice A n c] w0 fun e w' => e = .returned (.tuple #[.int .i64 r, .int .u64 code, .slice A' d.length c', .nilIface]) ∧ Below w0.heap.size w0 w' := by
  obtain ⟨hn, _⟩ := hs.slice
  obtain ⟨h2, m1, x2, m2, e1, e2, hx, hx2, rfl, rfl⟩ := mhRd_some hd
  obtain ⟨g1, g2, g3, _, _⟩ := uvDec_ok e1
  obtain ⟨k1, k2, k3, _, _⟩ := uvDec_ok e2
  have hs1 := (muv_ok A n c l w hs (by omega) hu code m1 e1).1
  have hc1 : ∀ w0, Below w.heap.size w w0 → _ := fun w0 hb0 => (muv_ok A n c l w0 (hs.below hb0) (by omega) (hu.below hb0) code m1 e1).2
  have hl1 : (l.drop m1).length = l.length - m1 := by simp
  have hl2 : ((l.drop m1).drop m2).length = l.length - m1 - m2 := by rw [List.length_drop, List.length_drop]
  rw [hl1] at k2
  rw [hl2] at hx2
  have hx3 : x2 ≤ n - m1 - m2 := by omega
  have hlen : (((l.drop m1).drop m2).take x2).length = x2 := by rw [List.length_take, hl2]; omega
  have hc2 : ∀ w1, Below w.heap.size w w1 → BS w1 (.slice (cutA (cutA A c m1) (c - m1) m2) (n - m1 - m2) (c - m1 - m2)) ((l.drop m1).drop m2) ∧ Calls Tryd.prog 119 #[.slice (cutA A c m1) (n - m1) (c - m1)] w1 fun e w' =>
      e = .returned (.tuple #[.int .u64 x2, .slice (cutA (cutA A c m1) (c - m1) m2) (n - m1 - m2) (c - m1 - m2), .nilIface]) ∧ Below w1.heap.size w1 w' := fun w1 hb1 => muv_ok _ _ _ _ w1 (hs1.below hb1) (by rw [hl1]; omega) (hu.below hb1) x2 m2 e2
  obtain ⟨hrun, hrunu, hs3⟩ := (hc2 w (Below.refl _ _)).1.to_ (P := Tryd.prog) Tryd.underlying43 info_u8 x2 hx3
  rw [hlen]
  refine ⟨_, _, hs3, ?_⟩
  have HC1 := Lib.hid hc1
  have HC2 := Lib.hid hc2
  clear hc1 hc2 hs hs1 hs3 hd e1 e2 hlen hu hrun
  generalize cutA (cutA A c m1) (c - m1) m2 = A2 at *
  generalize cutA A c m1 = A1 at *
  generalize c - m1 - m2 = C2 at *
  generalize c - m1 = C1 at *
  have b1 : 2 ≤ n := by omega
  have b3 : n ≤ 2147483647 := by omega
  generalize hN1 : n - m1 = N1 at HC1 HC2 hrunu hx3 ⊢
  generalize hN2 : N1 - m2 = N2 at HC2 hrunu hx3 ⊢
  have b2 : N2 ≤ n := by omega
  have HR := Lib.hid (show (n : Int) - N2 + x2 = ((m1 + m2 + x2 : Nat) : Int) by omega)
  clear hl1 hl2 hN1 hN2 hn g1 g2 g3 k1 k2 k3 hx2 h2 hm
  intro w0 hb0
  go_enter Tryd.func112, Tryd.ntmps112
  go_wp2_with fail
  refine (HC1.out w0 hb0).mono ?_
  rintro e w1 ⟨rfl, hb1⟩
  go_wp2_with fail
  refine (HC2.out w1 (below_next hb0 hb1)).2.mono ?_
  rintro e w2 ⟨rfl, hb2⟩
  go_wp2
  go_quiet (fail)
  go_wp2
  refine bodyPost_ret (v := .tuple #[.int .i64 ((n : Int) - N2 + x2), .int .u64 code, .slice A2 x2 C2, .nilIface]) (by simp [results, Tryd.results112, go_sem]) rfl ⟨by rw [HR.out], (below_next hb1 hb2).drewN _⟩

set_option maxRecDepth 100000 in
set_option maxHeartbeats 1000000 in
theorem mrd_no (A : Option Addr) (n c : Nat) (l : List UInt8) (w : World) (hs : BS w (.slice A n c) l) (hm : l.length ≤ 2147483647) (hu : MhS w) (hd : mhRd l = none) :
    Calls Tryd.prog 112 #[.slice A n c] w fun e w' => ∃ t p, e = .returned (.tuple #[.int .i64 0, .int .u64 0, .slice none 0 0, .iface t p]) ∧ Below w.heap.size w w' := by
  obtain ⟨hn, _⟩ := hs.slice
  rcases mhRd_none hd with h2 | ⟨h2, hno | ⟨x1, m1, e1, h⟩⟩
  · obtain ⟨t, p, hsh⟩ := hu.short
    have b1 : n < 2 := by omega
    clear hs hu hd hn h2 hm
    go_enter Tryd.func112, Tryd.ntmps112
    go_wp2
    go_quiet (fail)
    go_wp2
    refine bodyPost_ret (v := .tuple #[.int .i64 0, .int .u64 0, .slice none 0 0, .iface t p]) (by simp [results, Tryd.results112, go_sem]) rfl ⟨t, p, rfl, below_drewN _ _ _⟩
  · have HC := Lib.hid (muv_no A n c l w hs (by omega) hu.toUvS hno)
    have b1 : 2 ≤ n := by omega
    clear hs hu hd hn h2 hm hno
    go_enter Tryd.func112, Tryd.ntmps112
    go_wp2_with fail
    refine HC.out.mono ?_
    rintro e w1 ⟨t, p, rfl, hb⟩
    go_wp2
    refine bodyPost_ret (v := .tuple #[.int .i64 0, .int .u64 0, .slice none 0 0, .iface t p]) (by simp [results, Tryd.results112, go_sem]) rfl ⟨t, p, rfl, hb⟩
  · obtain ⟨g1, g2, g3, _, _⟩ := uvDec_ok e1
    obtain ⟨hs1, hc1⟩ := muv_ok A n c l w hs (by omega) hu.toUvS x1 m1 e1
    have HC1 := Lib.hid hc1
    have hl1 : (l.drop m1).length = l.length - m1 := by simp
    have b1 : 2 ≤ n := by omega
    rcases h with hno | ⟨x2, m2, e2, h3⟩
    · have HC2 := Lib.hid (fun w1 (hb1 : Below w.heap.size w w1) => muv_no _ _ _ _ w1 (hs1.below hb1) (by rw [hl1]; omega) (hu.toUvS.below hb1) hno)
      clear hs hu hd hn h2 hm hno hs1 hc1 e1 g1 g2 g3 hl1
      generalize cutA A c m1 = A1 at *
      generalize n - m1 = N1 at *
      generalize c - m1 = C1 at *
      go_enter Tryd.func112, Tryd.ntmps112
      go_wp2_with fail
      refine HC1.out.mono ?_
      rintro e w1 ⟨rfl, hb1⟩
      go_wp2_with fail
      refine (HC2.out w1 hb1).mono ?_
      rintro e w2 ⟨t, p, rfl, hb2⟩
      go_wp2
      refine bodyPost_ret (v := .tuple #[.int .i64 0, .int .u64 0, .slice none 0 0, .iface t p]) (by simp [results, Tryd.results112, go_sem]) rfl ⟨t, p, rfl, below_next hb1 hb2⟩
    · obtain ⟨k1, k2, k3, k4, _⟩ := uvDec_ok e2
      have hx63 := uvDec_lt63 e2
      have hl2 : ((l.drop m1).drop m2).length = l.length - m1 - m2 := by rw [List.length_drop, List.length_drop]
      rw [hl2] at h3
      rw [hl1] at k2
      have HC2 := Lib.hid (fun w1 (hb1 : Below w.heap.size w w1) => (muv_ok _ _ _ _ w1 (hs1.below hb1) (by rw [hl1]; omega) (hu.toUvS.below hb1) x2 m2 e2).2)
      have h3' : 2147483647 < x2 ∨ (x2 ≤ 2147483647 ∧ n - m1 - m2 < x2) := by omega
      clear hs hu hd hn h2 hm hs1 hc1 e1 e2 g1 g2 g3 hl1 hl2 k1 k2 k3 k4 h3
      generalize cutA (cutA A c m1) (c - m1) m2 = A2 at *
      generalize cutA A c m1 = A1 at *
      generalize c - m1 - m2 = C2 at *
      generalize c - m1 = C1 at *
      generalize n - m1 - m2 = N2 at *
      generalize n - m1 = N1 at *
      rcases h3' with h3 | ⟨h3, h4⟩
      · go_enter Tryd.func112, Tryd.ntmps112
        go_wp2_with fail
        refine HC1.out.mono ?_
        rintro e w1 ⟨rfl, hb1⟩
        go_wp2_with fail
        refine (HC2.out w1 hb1).mono ?_
        rintro e w2 ⟨rfl, hb2⟩
        go_wp2_with fail
        refine (errorsNew _ w2).mono ?_
        rintro e w3 ⟨t, p, rfl, hb3⟩
        go_wp2
        refine bodyPost_ret (v := .tuple #[.int .i64 0, .int .u64 0, .slice none 0 0, .iface t p]) (by simp [results, Tryd.results112, go_sem]) rfl ⟨t, p, rfl, below_next (below_next hb1 hb2) hb3⟩
      · go_enter Tryd.func112, Tryd.ntmps112
        go_wp2_with fail
        refine HC1.out.mono ?_
        rintro e w1 ⟨rfl, hb1⟩
        go_wp2_with fail
        refine (HC2.out w1 hb1).mono ?_
        rintro e w2 ⟨rfl, hb2⟩
        go_wp2_with fail
        refine (errorsNew _ w2).mono ?_
        rintro e w3 ⟨t, p, rfl, hb3⟩
        go_wp2
        refine bodyPost_ret (v := .tuple #[.int .i64 0, .int .u64 0, .slice none 0 0, .iface t p]) (by simp [results, Tryd.results112, go_sem]) rfl ⟨t, p, rfl, below_next (below_next hb1 hb2) hb3⟩
end Go.Proofs.YthfgnhgijgjggaaDoor
/- Contracts of package multihash: Decode, MHFromBytes, Encode; and of impl's three entry points. -/
namespace Go.Proofs.YthfgnhgijgjggaaDoor
open Go.RowKit

theorem bcell {W w1 : World} (hb : Below W.heap.size W w1) : (∀ b o, b < W.heap.size → w1.cell? ⟨b, o, none⟩ = W.cell? ⟨b, o, none⟩) ∧ (∀ b o, b < W.heap.size → w1.frozen? ⟨b, o, none⟩ = W.frozen? ⟨b, o, none⟩) :=
  ⟨fun b o h => hb.cell (p := ⟨b, o, none⟩) h, fun b o h => hb.frozen (p := ⟨b, o, none⟩) h⟩

set_option maxRecDepth 100000 in
set_option maxHeartbeats 1000000 in
theorem decode_ok (A : Option Addr) (n c : Nat) (l : List UInt8) (w : World) (hs : BS w (.slice A n c) l) (hm : l.length ≤ 2147483647) (hu : UvS w) (code : Nat) (d : List UInt8) (hd : mhRd l = some (n, code, d)) :
    ∃ A' c', BS w (.slice A' d.length c') d ∧ ∀ w0, Below w.heap.size w w0 →
    Calls Tryd.prog 98 #[.slice A n c] w0 fun e w' => e = .returned (.tuple #[.agg #[.int .u64 code, .string ⟨#[]⟩, .int .i64 d.length, .slice A' d.length c'], .nilIface]) ∧ Below w0.heap.size w0 w' := by
  obtain ⟨hn, _⟩ := hs.slice
  obtain ⟨A', c', hs', hc⟩ := mrd_ok A n c l w hs hm hu _ _ _ hd
  refine ⟨A', c', hs', ?_⟩
  intro w0 hb0
  have HC := Lib.hid hc
  generalize d.length = D at *
  have b3 : n ≤ 9223372036854775807 := by omega
  clear hs hn hs' hc hu hd hm
  go_enter Tryd.func98, Tryd.ntmps98
  go_wp2_with fail
  refine (HC.out _ (hb0.trans ((Below.refl _ _).alloc hb0.size _))).mono ?_
  rintro e w1 ⟨rfl, hb1⟩
  obtain ⟨hc, hf⟩ := bcell hb1
  have hz := hb1.size
  simp only [World.size_alloc] at hz hc hf
  go_wp2
  have hrow : w1.heap[w0.heap.size]? = some (.cells #[.int .u64 0, .string ⟨#[]⟩, .int .i64 0, .slice none 0 0] 135 (0, 0)) := row_below hb1 (by simp) (heap_alloc_new _ _)

  refine bodyPost_ret (results_row_tmp rfl _ _ w0.heap.size 135 #[.int .u64 code, .string ⟨#[]⟩, .int .i64 D, .slice A' D c'] (0, 0) _ ?h1 ?h2 Tryd.underlying135 rfl ?h5) ?h6 ?h7

  case h1 => rfl

  case h2 => simp [World.setCell, Array.getElem?_modify, hrow]

  case h5 => kernel_rfl

  case h6 => rfl

  refine ⟨rfl, ?_⟩

  have hb2 : Below w0.heap.size w0 w1 := by
    have h0 : Below w0.heap.size w0 (w0.alloc (Obj.cells #[Value.int IntKind.u64 0, Value.string { data := #[] }, Value.int IntKind.i64 0, Value.slice none 0 0] 135)) := (Below.refl _ _).alloc (Nat.le_refl _) _
    exact below_next h0 hb1
  clear hc hf hrow HC
  exact (((((((hb2.setCell (by exact Nat.le_refl _) _).setCell (by exact Nat.le_refl _) _).setCell (by exact Nat.le_refl _) _).setCell (by exact Nat.le_refl _) _).setCell (by exact Nat.le_refl _) _).setCell (by exact Nat.le_refl _) _).setCell (by exact Nat.le_refl _) _).setCell (by exact Nat.le_refl _) _

def DmBad (e : Ending) : Prop := ∃ (a : Int) (s : ByteArray) (b : Int) (A : Option Addr) (n c : Nat) (t : TypeId) (p : Value), e = .returned (.tuple #[.agg #[.int .u64 a, .string s, .int .i64 b, .slice A n c], .iface t p])

set_option maxRecDepth 100000 in
set_option maxHeartbeats 1000000 in
theorem decode_more (A : Option Addr) (n c : Nat) (l : List UInt8) (w : World) (hs : BS w (.slice A n c) l) (hm : l.length ≤ 2147483647) (hu : UvS w) (r code : Nat) (d : List UInt8) (hd : mhRd l = some (r, code, d)) (hr : r ≠ n) :
    Calls Tryd.prog 98 #[.slice A n c] w fun e w' => DmBad e ∧ Below w.heap.size w w' := by
  obtain ⟨hn, _⟩ := hs.slice
  obtain ⟨A', c', hs', hc⟩ := mrd_ok A n c l w hs hm hu _ _ _ hd
  have HC := Lib.hid hc
  generalize d.length = D at *
  have b3 : n ≤ 9223372036854775807 := by omega
  have b4 : ((n : Int) != r) = true := by rw [bne_iff_ne]; omega
  clear hs hn hs' hc hu hd hm hr
  go_enter Tryd.func98, Tryd.ntmps98
  go_wp2_with fail
  refine (HC.out _ ((Below.refl _ _).alloc (Nat.le_refl _) _)).mono ?_
  rintro e w1 ⟨rfl, hb1⟩
  have h0 : Below w.heap.size w (w.alloc (Obj.cells #[Value.int IntKind.u64 0, Value.string { data := #[] }, Value.int IntKind.i64 0, Value.slice none 0 0] 135)) := (Below.refl _ _).alloc (Nat.le_refl _) _
  have hb2 := below_next h0 hb1
  obtain ⟨hc, hf⟩ := bcell hb1
  have hz := hb1.size
  simp only [World.size_alloc] at hz hc hf
  go_wp2
  have hrow : w1.heap[w.heap.size]? = some (.cells #[.int .u64 0, .string ⟨#[]⟩, .int .i64 0, .slice none 0 0] 135 (0, 0)) := row_below hb1 (by simp) (heap_alloc_new _ _)
  refine bodyPost_ret (results_row_tmp rfl _ _ w.heap.size 135 #[.int .u64 code, .string ⟨#[]⟩, .int .i64 D, .slice A' D c'] (0, 0) _ ?h1 ?h2 Tryd.underlying135 rfl ?h5) ?h6 ?h7
  case h1 => rfl
  case h2 => simp [World.setCell, Array.getElem?_modify, hrow]
  case h5 => kernel_rfl
  case h6 => rfl
  refine ⟨⟨_, _, _, _, _, _, _, _, rfl⟩, ?_⟩
  exact ((((((((hb2.setCell (by exact Nat.le_refl _) _).setCell (by exact Nat.le_refl _) _).setCell (by exact Nat.le_refl _) _).setCell (by exact Nat.le_refl _) _).setCell (by exact Nat.le_refl _) _).setCell (by exact Nat.le_refl _) _).setCell (by exact Nat.le_refl _) _).setCell (by exact Nat.le_refl _) _)

set_option maxRecDepth 100000 in
set_option maxHeartbeats 1000000 in
theorem decode_no (A : Option Addr) (n c : Nat) (l : List UInt8) (w : World) (hs : BS w (.slice A n c) l) (hm : l.length ≤ 2147483647) (hu : MhS w) (hd : mhRd l = none) :
    Calls Tryd.prog 98 #[.slice A n c] w fun e w' => DmBad e ∧ Below w.heap.size w w' := by
  have h0 : Below w.heap.size w (w.alloc (Obj.cells #[Value.int IntKind.u64 0, Value.string { data := #[] }, Value.int IntKind.i64 0, Value.slice none 0 0] 135)) := (Below.refl _ _).alloc (Nat.le_refl _) _
  have HC := Lib.hid (mrd_no A n c l _ (hs.below h0) hm (hu.below h0) hd)
  clear hs hu hd hm
  go_enter Tryd.func98, Tryd.ntmps98
  go_wp2_with fail
  refine HC.out.mono ?_
  rintro e w1 ⟨t, p, rfl, hb1⟩
  have hb2 := below_next h0 hb1
  obtain ⟨hc, hf⟩ := bcell hb1
  have hz := hb1.size
  simp only [World.size_alloc] at hz hc hf
  go_wp2
  have hrow : w1.heap[w.heap.size]? = some (.cells #[.int .u64 0, .string ⟨#[]⟩, .int .i64 0, .slice none 0 0] 135 (0, 0)) := row_below hb1 (by simp) (heap_alloc_new _ _)
  refine bodyPost_ret (results_row_tmp rfl _ _ w.heap.size 135 #[.int .u64 0, .string ⟨#[]⟩, .int .i64 0, .slice none 0 0] (0, 0) _ ?h1 ?h2 Tryd.underlying135 rfl ?h5) ?h6 ?h7
  case h1 => rfl
  case h2 => simp [World.setCell, Array.getElem?_modify, hrow]
  case h5 => kernel_rfl
  case h6 => rfl
  refine ⟨⟨_, _, _, _, _, _, t, p, rfl⟩, ?_⟩
  exact ((((hb2.setCell (by exact Nat.le_refl _) _).setCell (by exact Nat.le_refl _) _).setCell (by exact Nat.le_refl _) _).setCell (by exact Nat.le_refl _) _)

/-- A pointer to a new block that holds what a multihash was taken apart to. -/
def DmPtr (w w' : World) (code : Nat) (A : Option Addr) (D c : Nat) (e : Ending) : Prop := ∃ g, e = .returned (.tuple #[.pointer (some ⟨g, 0, none⟩), .nilIface]) ∧ w.heap.size ≤ g ∧
  w'.heap[g]? = some (.cells #[.int .u64 code, .string ⟨#[]⟩, .int .i64 D, .slice A D c] 135 (0, 0))

set_option maxRecDepth 100000 in
set_option maxHeartbeats 1000000 in
theorem Decode_ok (A : Option Addr) (n c : Nat) (l : List UInt8) (w : World) (hs : BS w (.slice A n c) l) (hm : l.length ≤ 2147483647) (hu : UvS w) (code : Nat) (d : List UInt8) (hd : mhRd l = some (n, code, d)) :
    ∃ A' c', BS w (.slice A' d.length c') d ∧ ∀ w0, Below w.heap.size w w0 →
    Calls Tryd.prog 72 #[.slice A n c] w0 fun e w' => DmPtr w0 w' code A' d.length c' e ∧ Below w0.heap.size w0 w' := by
  obtain ⟨A', c', hs', hc⟩ := decode_ok A n c l w hs hm hu _ _ hd
  refine ⟨A', c', hs', ?_⟩
  intro w0 hb0
  have HC := Lib.hid (hc w0 hb0)
  generalize d.length = D at *
  clear hs hs' hc hu hd hm
  go_enter Tryd.func72, Tryd.ntmps72
  go_wp2_with fail
  refine HC.out.mono ?_
  rintro e w1 ⟨rfl, hb1⟩
  go_wp2
  go_ret2
  refine ⟨⟨_, rfl, hb1.size, ?_⟩, ?_⟩
  · exact heap_alloc_new _ _
  · exact hb1.alloc hb1.size _

/-- nil, and an error. -/
def PtrBad (e : Ending) : Prop := ∃ t p, e = .returned (.tuple #[.pointer none, .iface t p])

set_option maxRecDepth 100000 in
set_option maxHeartbeats 1000000 in
theorem Decode_bad (A : Option Addr) (n c : Nat) (l : List UInt8) (w : World) (hs : BS w (.slice A n c) l) (hm : l.length ≤ 2147483647) (hu : MhS w) (hd : ∀ code d, mhRd l ≠ some (n, code, d)) :
    Calls Tryd.prog 72 #[.slice A n c] w fun e w' => PtrBad e ∧ Below w.heap.size w w' := by
  have hc : Calls Tryd.prog 98 #[.slice A n c] w fun e w' => DmBad e ∧ Below w.heap.size w w' := by
    cases h : mhRd l with
    | none => exact decode_no A n c l w hs hm hu h
    | some x =>
      obtain ⟨r, code, d⟩ := x
      exact decode_more A n c l w hs hm hu.toUvS r code d h (fun e => hd code d (by rw [h, e]))
  have HC := Lib.hid hc
  clear hs hu hd hm hc
  go_enter Tryd.func72, Tryd.ntmps72
  go_wp2_with fail
  refine HC.out.mono ?_
  rintro e w1 ⟨⟨a, s, b, A1, n1, c1, t, p, rfl⟩, hb1⟩
  go_wp2
  go_ret2
  exact ⟨⟨t, p, rfl⟩, hb1.alloc hb1.size _⟩

set_option maxRecDepth 100000 in
set_option maxHeartbeats 1000000 in
theorem MHFrom_ok (A : Option Addr) (n c : Nat) (l : List UInt8) (w : World) (hs : BS w (.slice A n c) l) (hm : l.length ≤ 2147483647) (hu : UvS w) (r code : Nat) (d : List UInt8) (hd : mhRd l = some (r, code, d)) (hr : r ≤ n) :
    BS w (.slice A r c) (l.take r) ∧
    Calls Tryd.prog 105 #[.slice A n c] w fun e w' => e = .returned (.tuple #[.int .i64 r, .slice A r c, .nilIface]) ∧ Below w.heap.size w w' := by
  obtain ⟨A', c', _, hc⟩ := mrd_ok A n c l w hs hm hu _ _ _ hd
  obtain ⟨hrun, _, hs2⟩ := hs.to_ (P := Tryd.prog) Tryd.underlying43 info_u8 r hr
  refine ⟨hs2, ?_⟩
  have HC := Lib.hid (hc w (Below.refl _ _))
  generalize d.length = D at *
  clear hs hc hu hd hm hs2 hr
  go_enter Tryd.func105, Tryd.ntmps105
  go_wp2_with fail
  refine HC.out.mono ?_
  rintro e w1 ⟨rfl, hb1⟩
  go_wp2
  go_quiet (fail)
  go_wp2
  go_ret3
  exact ⟨rfl, hb1.drewN _⟩

set_option maxRecDepth 100000 in
set_option maxHeartbeats 1000000 in
theorem MHFrom_no (A : Option Addr) (n c : Nat) (l : List UInt8) (w : World) (hs : BS w (.slice A n c) l) (hm : l.length ≤ 2147483647) (hu : MhS w) (hd : mhRd l = none) :
    Calls Tryd.prog 105 #[.slice A n c] w fun e w' => ∃ t p, e = .returned (.tuple #[.int .i64 0, .slice none 0 0, .iface t p]) ∧ Below w.heap.size w w' := by
  have HC := Lib.hid (mrd_no A n c l w hs hm hu hd)
  clear hs hu hd hm
  go_enter Tryd.func105, Tryd.ntmps105
  go_wp2_with fail
  refine HC.out.mono ?_
  rintro e w1 ⟨t, p, rfl, hb1⟩
  go_wp2
  go_ret3
  exact ⟨t, p, rfl, hb1⟩

/-- A string made to bytes: where the contracts begin. -/
theorem conv_in (w : World) (s : ByteArray) : ∃ c w1, (convert 9 43 (.string s)).run Tryd.prog w = .ok (.slice (some ⟨w.heap.size, 0, none⟩) s.size c) w1 ∧ Below w.heap.size w w1 ∧ BS w1 (.slice (some ⟨w.heap.size, 0, none⟩) s.size c) s.data.toList := by
  obtain ⟨c, w1, hconv, hc, hb, hsz, _, hcells⟩ := conv_bytes (P := Tryd.prog) Tryd.underlying9 Tryd.underlying43 Tryd.underlying5 w s
  have hlen : s.data.toList.length = s.size := by rw [Array.length_toList]; rfl
  have HS := BS.of_cells (w := w1) (b := w.heap.size) (o := 0) (c := c) (l := s.data.toList) (by omega) hcells
  rw [hlen] at HS
  exact ⟨c, w1, hconv, hb, HS⟩



end Go.Proofs.YthfgnhgijgjggaaDoor
/- multihash.Encode and impl.MhEncode: the code, the digest's length, the digest. -/
namespace Go.Proofs.YthfgnhgijgjggaaDoor
open Go.RowKit

theorem mhEnc_length (code : Nat) (d : List UInt8) : (mhEnc code d).length = (Lib.uvarint code).length + (Lib.uvarint d.length).length + d.length := by
  unfold mhEnc; simp [Nat.add_assoc]

theorem splice3 (z : Value) (a b d : List Value) : splice (splice (splice (List.replicate (a.length + b.length + d.length) z) 0 a) a.length b) (a.length + b.length) d = a ++ (b ++ d) := by
  have h1 : splice (List.replicate (a.length + b.length + d.length) z) 0 a = a ++ List.replicate (b.length + d.length) z := by
    simp [splice, Nat.add_assoc]
  have h2 : splice (a ++ List.replicate (b.length + d.length) z) a.length b = a ++ (b ++ List.replicate d.length z) := by
    simp [splice]
  rw [h1, h2]
  have e : a ++ (b ++ List.replicate d.length z) = (a ++ b) ++ List.replicate d.length z := by simp
  rw [e]
  unfold splice
  rw [List.take_left' (by simp), List.drop_eq_nil_of_le (by simp; omega)]
  simp

set_option maxRecDepth 100000 in
set_option maxHeartbeats 1000000 in
theorem putUvW_any (g o n c x : Nat) (cur : List Value) (t : TypeId) (w : World) (hx : x < 18446744073709551616) (hrow : w.heap[g]? = some (.cells cur.toArray t (0, 0)))
    (hfit : o + (Lib.uvarint x).length ≤ cur.length) (hn : (Lib.uvarint x).length ≤ n) :
    Calls Tryd.prog 82 #[.slice (some ⟨g, o, none⟩) n c, .int .u64 x] w fun e w' =>
      e = .returned (.int .i64 (Lib.uvarint x).length) ∧ Hid (w'.heap[g]? = some (.cells (splice cur o (Lib.byteCells (Lib.uvarint x))).toArray t (0, 0))) ∧ Turn g w w' := by
  have HC := Lib.hid (put_row g o n c x cur t w hx hrow hfit hn)
  clear hrow hfit hn
  go_enter Tryd.func82, Tryd.ntmps82
  go_wp2_with fail
  refine HC.out.mono ?_
  rintro e w1 ⟨rfl, hr, ht⟩
  go_wp2
  go_ret
  exact ⟨rfl, hr, ht⟩

set_option maxRecDepth 100000 in
set_option maxHeartbeats 1000000 in
theorem encode_any (A : Option Addr) (n c : Nat) (l : List UInt8) (w : World) (hs : BS w (.slice A n c) l) (hm : l.length ≤ 2147483647) (code : Nat) (hc : code < 18446744073709551616) :
    Calls Tryd.prog 69 #[.slice A n c, .int .u64 code] w fun e w' =>
      e = .returned (.tuple #[.slice (some ⟨w.heap.size, 0, none⟩) (mhEnc code l).length (mhEnc code l).length, .nilIface]) ∧ Hid (w'.heap[w.heap.size]? = some (.cells (Lib.byteCells (mhEnc code l)).toArray 5 (0, 0))) ∧ Below w.heap.size w w' := by
  obtain ⟨hn, hcap⟩ := hs.slice
  have la := Lib.uvarint_length64 hc
  have lb := Lib.uvarint_length64 (x := n) (by omega)
  have pa := Lib.uvarint_pos code
  have pb := Lib.uvarint_pos n
  have hlen := mhEnc_length code l
  rw [← hn] at hlen
  have hcells : Lib.byteCells (mhEnc code l) = Lib.byteCells (Lib.uvarint code) ++ (Lib.byteCells (Lib.uvarint n) ++ Lib.byteCells l) := by
    unfold mhEnc; rw [← hn, Lib.byteCells_append, Lib.byteCells_append]
  have hl3 : (Lib.byteCells l).length = n := by rw [Lib.byteCells_length]; exact hn.symm
  rw [hlen, hcells]
  obtain ⟨a, ha⟩ : ∃ a, a = (Lib.uvarint code).length := ⟨_, rfl⟩
  obtain ⟨b, hb⟩ : ∃ b, b = (Lib.uvarint n).length := ⟨_, rfl⟩
  rw [← ha] at la pa ⊢
  rw [← hb] at lb pb ⊢
  obtain ⟨N, hN⟩ : ∃ N, N = a + b + n := ⟨_, rfl⟩
  obtain ⟨w1, hmk, hb1, hs1, hrow⟩ := make_bytes (P := Tryd.prog) Tryd.underlying43 info_u8 w N (by omega)
  have eN : ((N : Nat) : Int) = (a : Int) + b + n := by omega
  rw [eN] at hmk
  have r1 := fun W => run_from (P := Tryd.prog) Tryd.underlying43 info_u8 (some ⟨w.heap.size, 0, none⟩) N N a (by omega) W
  have r2 := fun W => run_from (P := Tryd.prog) Tryd.underlying43 info_u8 (some ⟨w.heap.size, 0, none⟩) N N (a + b) (by omega) W
  have e2 : ((a + b : Nat) : Int) = (a : Int) + b := by omega
  rw [cutA_own _ _ _ _ (by omega), Nat.zero_add] at r1
  rw [e2] at r2
  have HR := Lib.hid hrow
  have HA := Lib.hid ha
  have HB := Lib.hid hb
  have HN := Lib.hid hN
  have H3 := Lib.hid hl3
  have HS := Lib.hid hs
  have Hn := Lib.hid hn
  have n2 : n ≤ 2147483647 := by omega
  have N1 : N ≤ 3000000000 := by omega
  clear hrow ha hb hN hl3 hs hn hlen hcells hcap hs1 hm eN e2
  go_enter Tryd.func69, Tryd.ntmps69
  go_wp2_with fail
  refine (uvSize_any code w hc).mono ?_
  rw [← HA.out]
  rintro e w' ⟨rfl, rfl⟩
  go_wp2_with fail
  refine (uvSize_any n w (by omega)).mono ?_
  rw [← HB.out]
  rintro e w' ⟨rfl, rfl⟩
  go_wp2_with fail
  clear hmk
  refine (putUvW_any w.heap.size 0 N N code (List.replicate N (Value.int .u8 0)) 5 w1 hc HR.out (by rw [List.length_replicate, ← HA.out]; have := HN.out; omega) (by rw [← HA.out]; have := HN.out; omega)).mono ?_
  rw [← HA.out]
  rintro e w2 ⟨rfl, h2, ht2⟩
  have h2' := h2.out
  have L1 : (splice (List.replicate N (Value.int .u8 0)) 0 (Lib.byteCells (Lib.uvarint code))).length = N := by
    rw [length_splice _ _ _ (by rw [Lib.byteCells_length, List.length_replicate, ← HA.out]; have := HN.out; omega), List.length_replicate]
  go_wp2_with fail
  refine (putUvW_any w.heap.size a (N - a) (N - a) n _ 5 w2 (by omega) h2.out (by rw [L1, ← HB.out]; have := HN.out; omega) (by rw [← HB.out]; have := HN.out; omega)).mono ?_
  rw [← HB.out]
  rintro e w3 ⟨rfl, h3, ht3⟩
  clear h2'
  have L2 : (splice (splice (List.replicate N (Value.int .u8 0)) 0 (Lib.byteCells (Lib.uvarint code))) a (Lib.byteCells (Lib.uvarint n))).length = N := by
    rw [length_splice _ _ _ (by rw [Lib.byteCells_length, L1, ← HB.out]; have := HN.out; omega), L1]
  have hb3 : Below w.heap.size w w3 := (hb1.trans (ht2.below (Nat.le_refl _))).trans (ht3.below (Nat.le_refl _))
  have hsrc : 0 < (Lib.byteCells l).length → (cutA (some ⟨w.heap.size, 0, none⟩) N (a + b)) = some ⟨w.heap.size, a + b, none⟩ ∧ ∃ ad, A = some ad ∧ ∀ j v, (Lib.byteCells l)[j]? = some v → w3.cell? (ad.add j) = some v := by
    intro h0
    rw [H3.out] at h0
    refine ⟨by rw [cutA_own _ _ _ _ (by have := HN.out; omega), Nat.zero_add], ?_⟩
    obtain ⟨b', o', e1, hcell⟩ := (HS.out.below hb3).at_ h0
    refine ⟨_, e1, fun j v hv => ?_⟩
    have hj : j < l.length := by
      rcases Nat.lt_or_ge j l.length with h | h
      · exact h
      · rw [List.getElem?_eq_none (by rw [Lib.byteCells_length]; exact h)] at hv; cases hv
    have ead : (⟨b', o', none⟩ : Addr).add j = ⟨b', o' + j, none⟩ := by by_cases h : j = 0 <;> simp [Addr.add, h]
    rw [ead, hcell j hj]
    simp [Lib.byteCells, List.getElem?_eq_getElem hj] at hv
    rw [hv]
  have HSRC := Lib.hid hsrc
  have HL2 := Lib.hid L2
  have HL1 := Lib.hid L1
  clear hsrc L2 L1
  have hsz1 : (Tryd.prog.info? 5).map (·.size) = some 1 := by kernel_rfl
  have hmin : (Lib.byteCells l).length = Nat.min n (N - (a + b)) := by
    have := HN.out
    rw [H3.out, show N - (a + b) = n by omega]; exact (Nat.min_self n).symm
  have HMIN := Lib.hid hmin
  clear hmin
  go_wp2_with (with_reducible refine wpList_copy_splice rfl (.tmp 33) (.tmp 34) 43 43 rfl 5 Tryd.underlying43 hsz1 (cutA (some ⟨w.heap.size, 0, none⟩) N (a + b)) A (N - (a + b)) (N - (a + b)) n c rfl rfl w.heap.size (a + b) _ 5 h3.out (Lib.byteCells l) HMIN.out HSRC.out (by rw [H3.out, HL2.out]; have := HN.out; omega) (Lib.byteCells_one _) w.heap.size w hb3 (Nat.le_refl _) ?_; intro w4 hg4 hb4)
  go_ret2
  refine ⟨by rw [← HN.out]; rfl, Lib.hid ?_, hb4⟩
  rw [hg4.out]
  have e1 : a = (Lib.byteCells (Lib.uvarint code)).length := by rw [Lib.byteCells_length]; exact HA.out
  have e2 : b = (Lib.byteCells (Lib.uvarint n)).length := by rw [Lib.byteCells_length]; exact HB.out
  rw [HN.out]
  rw [show a + b + n = (Lib.byteCells (Lib.uvarint code)).length + (Lib.byteCells (Lib.uvarint n)).length + (Lib.byteCells l).length by rw [← e1, ← e2, H3.out]]
  conv => lhs; rw [show a = (Lib.byteCells (Lib.uvarint code)).length from e1, show b = (Lib.byteCells (Lib.uvarint n)).length from e2]
  rw [splice3]

end Go.Proofs.YthfgnhgijgjggaaDoor
/- Contracts of a reader over bytes: (*bytes.Reader).Read, and io.ReadAtLeast, io.ReadFull over one, into a row that is known whole. -/
namespace Go.Proofs.YthfgnhgijgjggaaDoor
open Go.RowKit

abbrev Rdr (w : World) (p : Nat) (v : Value) (l : List UInt8) (i : Nat) : Prop := RdrT 163 w p v l i
abbrev errV (a : Addr) : Value := .iface 218 (.pointer (some a))
/-- Variable g holds the error a, an object of its own; both lie below B. -/
structure ErrAt (B : Nat) (w : World) (g : Nat) (a : Addr) : Prop where
  lt : g < B
  lta : a.block < B
  cell : w.cell? ⟨g, 0, none⟩ = some (errV a)
  row : ∃ cs t, w.heap[a.block]? = some (.cells cs t (0, 0))
theorem ErrAt.keep {B : Nat} {S : Nat → Prop} {w w' : World} {g : Nat} {a : Addr} (h : ErrAt B w g a) (hb : Keep S w w') (hS : ∀ k, S k → B ≤ k) : ErrAt B w' g a := by
  obtain ⟨cs, t, hr⟩ := h.row
  exact ⟨h.lt, h.lta, hb.cell h.cell (fun hh => by have h1 := hS _ hh; have h2 := h.lt; exact absurd h1 (Nat.not_le.2 h2)), cs, t, hb.row hr (fun hh => by have h1 := hS _ hh; have h2 := h.lta; exact absurd h1 (Nat.not_le.2 h2))⟩
theorem ErrAt.below {B : Nat} {w w' : World} {g : Nat} {a : Addr} (h : ErrAt B w g a) (hb : Below w.heap.size w w') : ErrAt B w' g a := h.keep (S := fun _ => False) hb.keep (fun _ h => h.elim)
theorem ErrAt.drew {B : Nat} {w : World} {g : Nat} {a : Addr} (h : ErrAt B w g a) : ErrAt B w.drew g a := h.keep (keep_drew (fun _ => False) w) (fun _ h => h.elim)
theorem ErrAt.mono {B C : Nat} {w : World} {g : Nat} {a : Addr} (h : ErrAt B w g a) (hB : B ≤ C) : ErrAt C w g a := ⟨Nat.lt_of_lt_of_le h.lt hB, Nat.lt_of_lt_of_le h.lta hB, h.cell, h.row⟩
theorem ErrAt.size {B : Nat} {w : World} {g : Nat} {a : Addr} (h : ErrAt B w g a) : ErrAt w.heap.size w g a := by
  obtain ⟨cs, t, hr⟩ := h.row
  exact ⟨block_of_cell h.cell, block_of_row hr, h.cell, cs, t, hr⟩
theorem errInfo : ∃ i, Tryd.prog.info? 218 = some i ∧ i.comparable = true := by
  have h : (Tryd.prog.info? 218).map (·.comparable) = some true := by kernel_rfl
  obtain ⟨i, hi, h2⟩ := Option.map_eq_some_iff.1 h
  exact ⟨i, hi, h2⟩
theorem errInfo2 : ∃ i, Tryd.prog.info? 220 = some i ∧ i.size ≠ 0 := by
  have h : (Tryd.prog.info? 220).map (·.size) = some 1 := by kernel_rfl
  obtain ⟨i, hi, h2⟩ := Option.map_eq_some_iff.1 h
  exact ⟨i, hi, by omega⟩
/-- '==' of errors: one and the same; two. -/
theorem run_eqErr_same (a : Addr) (w : World) : (binOp .eql 84 (errV a) (errV a)).run Tryd.prog w = .ok (.bool true) w := by
  obtain ⟨i, hi, hc⟩ := errInfo
  obtain ⟨j, hj, _⟩ := errInfo2
  exact run_eql_iface_ptr_same w a Tryd.underlying84 Tryd.underlying218 hi hc hj
theorem run_eqErr_other {a b : Addr} {w : World} (hne : a ≠ b) (ha : ∃ cs t, w.heap[a.block]? = some (.cells cs t (0, 0))) (hb : ∃ cs t, w.heap[b.block]? = some (.cells cs t (0, 0))) :
    (binOp .eql 84 (errV a) (errV b)).run Tryd.prog w = .ok (.bool false) w := by
  obtain ⟨i, hi, hc⟩ := errInfo
  obtain ⟨j, hj, hz⟩ := errInfo2
  obtain ⟨ca, ta, ha⟩ := ha
  obtain ⟨cb, tb, hb⟩ := hb
  exact run_eql_iface_ptr_other w Tryd.underlying84 Tryd.underlying218 hi hc hj hz hne ha hb

theorem hsz1 : (Tryd.prog.info? 5).map (·.size) = some 1 := by kernel_rfl

set_option maxRecDepth 100000 in
set_option maxHeartbeats 1000000 in
/-- Bytes that are there are read. -/
theorem rdRead_some (p g o m c : Nat) (v : Value) (l : List UInt8) (i : Nat) (cur : List Value) (t : TypeId) (A : Option Addr) (w : World) (hr : Rdr w p v l i) (hi : i < l.length) (hpg : p < g)
    (hg : w.heap[g]? = some (.cells cur.toArray t (0, 0))) (hA : 0 < m → A = some ⟨g, o, none⟩) (hfit : o + m ≤ cur.length) :
    Calls Tryd.prog 141 #[.pointer (some ⟨p, 0, none⟩), .slice A m c] w fun e w' => e = .returned (.tuple #[.int .i64 (min m (l.length - i) : Nat), .nilIface]) ∧ Rdr w' p v l (i + min m (l.length - i)) ∧
      Hid (w'.heap[g]? = some (.cells (splice cur o (Lib.byteCells ((l.drop i).take m))).toArray t (0, 0))) ∧ Keep (fun k => k = p ∨ k = g) w w' := by
  obtain ⟨⟨r, hrow⟩, ⟨⟨A0, c0, rfl, hc0, hcl⟩, hout⟩, hle, hfits⟩ := hr
  have h0 : w.cell? ⟨p, 0, none⟩ = some (.slice A0 l.length c0) := by rw [cell_of_row' (cur := [_, _, _]) hrow]; rfl
  have h1 : w.cell? ⟨p, 1, none⟩ = some (.int .i64 i) := by rw [cell_of_row' (cur := [_, _, _]) hrow]; rfl
  have h2 : w.cell? ⟨p, 2, none⟩ = some (.int .i64 r) := by rw [cell_of_row' (cur := [_, _, _]) hrow]; rfl
  have f2 : w.frozen? ⟨p, 2, none⟩ = false := frozen_of_row' (cur := [_, _, _]) hrow 2
  have f1 : w.frozen? ⟨p, 1, none⟩ = false := frozen_of_row' (cur := [_, _, _]) hrow 1
  have hsl := fun W => run_from (P := Tryd.prog) Tryd.underlying43 info_u8 A0 l.length c0 i (by omega) W
  obtain ⟨N, hN⟩ : ∃ N, N = l.length := ⟨_, rfl⟩
  have HN := Lib.hid hN
  have HG := Lib.hid hg
  have HC := Lib.hid hcl
  have HO := Lib.hid hout
  have HF := Lib.hid hfit
  have HROW := Lib.hid hrow
  have HC0 := Lib.hid hc0
  rw [← hN] at hsl h0 hi hfits
  clear hg hcl hout hfit hle hc0 hrow hN
  go_enter Tryd.func141, Tryd.ntmps141
  go_wp2
  go_quiet (fail)
  go_wp2
  have k1 : Keep (fun k => k = p) w ((w.drewN nq).setCell ⟨p, 2, none⟩ (.int .i64 (-1))) := Keep.setCell (S := fun k => k = p) (keep_drewN _ w nq) (show p = p from rfl) _ _
  have hrow2 := Lib.heap_setCell_same (i := 2) (w := w.drewN nq) (HROW.out : (w.drewN nq).heap[p]? = _) (.int .i64 (-1))
  generalize (w.drewN nq).setCell ⟨p, 2, none⟩ (.int .i64 (-1)) = w2 at k1 hrow2 ⊢
  clear h0 h1 h2 f2 f1
  have hrow3 : w2.heap[p]? = some (.cells #[.slice A0 l.length c0, .int .i64 i, .int .i64 (-1)] 163 (0, 0)) := hrow2
  rw [← HN.out] at hrow3
  have h0 : w2.cell? ⟨p, 0, none⟩ = some (.slice A0 N c0) := by rw [cell_of_row' (cur := [_, _, _]) hrow3]; rfl
  have h1 : w2.cell? ⟨p, 1, none⟩ = some (.int .i64 i) := by rw [cell_of_row' (cur := [_, _, _]) hrow3]; rfl
  have f1 : w2.frozen? ⟨p, 1, none⟩ = false := frozen_of_row' (cur := [_, _, _]) hrow3 1
  have HROW3 := Lib.hid hrow3
  clear hrow2 hrow3
  go_still_tail 10, (by kernel_rfl)
  change wpList _ _ _ _ _ w2.drew
  have k2 : Keep (fun k => k = p) w w2.drew := k1.drewN 1
  have hrow3 : w2.drew.heap[p]? = some (.cells #[.slice A0 N c0, .int .i64 i, .int .i64 (-1)] 163 (0, 0)) := HROW3.out
  generalize w2.drew = w3 at k2 hrow3 ⊢
  clear h0 h1 f1 k1 HROW3
  have hg3 := k2.row HG.out (by omega)
  have hb3 : BSo (fun k => p ≤ k) w3 (.slice A0 l.length c0) l := BSo.keep ⟨⟨A0, c0, rfl, by have := HC0.out; omega, HC.out⟩, HO.out⟩ (k2.mono fun _ _ e => by omega)
  have hfrom := (hb3.bs.from_ (P := Tryd.prog) Tryd.underlying43 info_u8 i (by rw [← HN.out]; omega)).2
  have hlenD : (l.drop i).length = N - i := by rw [List.length_drop, HN.out]
  obtain ⟨K, hK⟩ : ∃ K, K = min m (N - i) := ⟨_, rfl⟩
  have hlen : (Lib.byteCells ((l.drop i).take m)).length = K := by rw [Lib.byteCells_length, List.length_take, hlenD, hK]
  have hpos : 0 < (Lib.byteCells ((l.drop i).take m)).length → A = some ⟨g, o, none⟩ ∧ ∃ ad, cutA A0 c0 i = some ad ∧ ∀ j v, (Lib.byteCells ((l.drop i).take m))[j]? = some v → w3.cell? (ad.add j) = some v := by
    intro hp
    rw [hlen] at hp
    refine ⟨hA (by omega), ?_⟩
    rw [← HN.out] at hfrom
    obtain ⟨b, o', e, hcell⟩ := hfrom.at_ (by omega)
    refine ⟨_, e, fun j v hv => ?_⟩
    have hj : j < ((l.drop i).take m).length := by
      rcases Nat.lt_or_ge j ((l.drop i).take m).length with h | h
      · exact h
      · rw [List.getElem?_eq_none (by rw [Lib.byteCells_length]; exact h)] at hv; cases hv
    have ead : (⟨b, o', none⟩ : Addr).add j = ⟨b, o' + j, none⟩ := by by_cases h : j = 0 <;> simp [Addr.add, h]
    have hj2 : j < (l.drop i).length := by rw [List.length_take] at hj; omega
    rw [ead, hcell j hj2]
    simp only [Lib.byteCells, List.getElem?_map, List.getElem?_eq_getElem hj, Option.map_some, Option.some.injEq] at hv
    rw [← hv, List.getElem_take]
  have hn : (Lib.byteCells ((l.drop i).take m)).length = Nat.min (N - i) m := by rw [hlen, hK]; exact Nat.min_comm _ _
  have hfit2 : o + (Lib.byteCells ((l.drop i).take m)).length ≤ cur.length := by rw [hlen]; have := HF.out; omega
  have h1c := Lib.byteCells_one ((l.drop i).take m)
  have hrow4 : ∀ w4, Keep (fun k => k = g) w3 w4 → w4.heap[p]? = some (.cells #[.slice A0 N c0, .int .i64 i, .int .i64 (-1)] 163 (0, 0)) := fun w4 hk => hk.row hrow3 (by omega)
  refine wpList_copy_keep rfl (.tmp 20) (.tmp 29) 43 43 rfl 5 Tryd.underlying43 hsz1 A (cutA A0 c0 i) m c (N - i) (c0 - i) rfl rfl g o cur t hg3 _ hn hpos hfit2 h1c ?_
  intro w4 hg4 hk4
  have hr4 := hrow4 w4 hk4
  have h1 : w4.cell? ⟨p, 1, none⟩ = some (.int .i64 i) := by rw [cell_of_row' (cur := [_, _, _]) hr4]; rfl
  have f1 : w4.frozen? ⟨p, 1, none⟩ = false := frozen_of_row' (cur := [_, _, _]) hr4 1
  rw [hlen]
  have HR4 := Lib.hid hr4
  have HB3 := Lib.hid hb3
  have HK := Lib.hid hK
  have hKN : i + K ≤ N := by omega
  clear hr4 hrow4 hb3 hfrom hlenD hlen hpos hn hfit2 h1c hg3 hrow3 hA hK
  go_wp2
  go_ret2
  have eK2 : min m (l.length - i) = K := by rw [← HN.out, HK.out]
  rw [eK2]
  have hk5 : Keep (fun k => k = p ∨ k = g) w4 (w4.setCell ⟨p, 1, none⟩ (.int .i64 ((i : Int) + K))) := Keep.setCell (Keep.refl _ _) (Or.inl rfl) _ _
  have hk3 : Keep (fun k => k = p ∨ k = g) w3 (w4.setCell ⟨p, 1, none⟩ (.int .i64 ((i : Int) + K))) := (hk4.mono fun _ _ h => Or.inr h).trans hk5
  refine ⟨rfl, ⟨⟨-1, ?_⟩, ?_, ?_, ?_⟩, Lib.hid ?_, ?_⟩
  · have h := Lib.heap_setCell_same (i := 1) HR4.out (.int .i64 ((i : Int) + K))
    rw [← HN.out]
    rw [h]; rfl
  · exact HB3.out.keep (hk3.mono fun _ _ h => by omega)
  · rw [← HN.out]; exact hKN
  · rw [← HN.out]; exact hfits
  · rw [← hg4.out]; exact Below.heap_setCell _ _ _ _ (by show g ≠ p; omega)
  · exact (k2.mono fun _ _ h => Or.inl h).trans hk3

set_option maxRecDepth 100000 in
set_option maxHeartbeats 1000000 in
/-- Behind the last byte the end is told. -/
theorem rdRead_end (p m c : Nat) (v : Value) (l : List UInt8) (i : Nat) (A : Option Addr) (w : World) (hr : Rdr w p v l i) (hi : i = l.length) (e0 : Addr) (he : ErrAt p w 0 e0) :
    Calls Tryd.prog 141 #[.pointer (some ⟨p, 0, none⟩), .slice A m c] w fun e w' => e = .returned (.tuple #[.int .i64 0, errV e0]) ∧ Keep (fun _ => False) w w' := by
  obtain ⟨⟨r, hrow⟩, ⟨⟨A0, c0, rfl, hc0, hcl⟩, hout⟩, hle, hfits⟩ := hr
  have h0 : w.cell? ⟨p, 0, none⟩ = some (.slice A0 l.length c0) := by rw [cell_of_row' (cur := [_, _, _]) hrow]; rfl
  have h1 : w.cell? ⟨p, 1, none⟩ = some (.int .i64 i) := by rw [cell_of_row' (cur := [_, _, _]) hrow]; rfl
  have he := he.cell
  clear hcl hout hle hc0 hrow
  go_enter Tryd.func141, Tryd.ntmps141
  go_wp2
  go_quiet (fail)
  go_wp2
  go_quiet (fail)
  go_wp2
  go_ret2
  exact ⟨rfl, (keep_drewN _ _ _).drewN _⟩

theorem nil_rdRead (a : Addr) (w : World) : (nilAhead 359 99 (.pointer (some a)) "Read").run Tryd.prog w = .ok (some false) w := by kernel_rfl
theorem method_rdRead (a : Addr) (w : World) : (method 359 99 (.pointer (some a)) "Read").run Tryd.prog w = .ok (141, .pointer (some a)) w := by kernel_rfl

abbrev rdV (p : Nat) : Value := .iface 99 (.pointer (some ⟨p, 0, none⟩))

set_option maxRecDepth 100000 in
set_option maxHeartbeats 1000000 in
theorem rdAtLeast_ok (p g n c : Nat) (v : Value) (l : List UInt8) (i : Nat) (cur : List Value) (t : TypeId) (w : World) (hr : Rdr w p v l i) (hpg : p < g)
    (hg : w.heap[g]? = some (.cells cur.toArray t (0, 0))) (hn0 : 0 < n) (hn : cur.length = n) (hi : i + n ≤ l.length) :
    Calls Tryd.prog 107 #[rdV p, .slice (some ⟨g, 0, none⟩) n c, .int .i64 n] w fun e w' => e = .returned (.tuple #[.int .i64 n, .nilIface]) ∧ Rdr w' p v l (i + n) ∧
      Hid (w'.heap[g]? = some (.cells (Lib.byteCells ((l.drop i).take n)).toArray t (0, 0))) ∧ Keep (fun k => k = p ∨ k = g) w w' := by
  have hL := hr.fits
  have HR := Lib.hid (rdRead_some p g 0 n c v l i cur t (some ⟨g, 0, none⟩) w.drew hr.drew (by omega) hpg hg (fun _ => rfl) (by omega))
  have HRd := Lib.hid hr
  have b1 : n ≤ 9223372036854775807 := by omega
  have hmin : min n (l.length - i) = n := by omega
  have HMIN := Lib.hid hmin
  have hlen : (Lib.byteCells ((l.drop i).take n)).length = cur.length := by rw [Lib.byteCells_length, List.length_take, List.length_drop]; omega
  have HLEN := Lib.hid hlen
  clear hlen
  have hsl := fun W => run_from (P := Tryd.prog) Tryd.underlying43 info_u8 (some ⟨g, 0, none⟩) n c 0 (by omega) W
  have hmf : ∀ (fn : Fn) (first cap : Array Value) (w : World), (Instr.makeFunc fn first cap).run Tryd.prog w = .ok (.func fn first cap) w := fun _ _ _ _ => rfl
  clear hr hg hn hmin hi hL
  go_enter Tryd.func107, Tryd.ntmps107
  go_wp2
  refine wp_loop_rounds 2 ?_
  rw [rounds_succ]
  go_wp2_with fail
  have hna := fun w => nil_rdRead ⟨p, 0, none⟩ w
  have hme := fun w => method_rdRead ⟨p, 0, none⟩ w
  go_region_with (go_at_call 141; refine HR.out.mono ?_; rw [HMIN.out]; rintro e w1 ⟨rfl, hr1, hg1, hk1⟩)
  go_wp2
  rw [rounds_succ]
  go_wp2
  go_ret2
  refine ⟨rfl, hr1, ?_, (keep_drew _ w).trans hk1⟩
  rw [splice_whole _ _ HLEN.out] at hg1
  exact hg1

set_option maxRecDepth 100000 in
set_option maxHeartbeats 1000000 in
theorem rdAtLeast_end (p n c g : Nat) (v : Value) (l : List UInt8) (i : Nat) (w : World) (hr : Rdr w p v l i) (hn0 : 0 < n) (b1 : n ≤ 9223372036854775807) (hi : i = l.length) (e0 : Addr) (he : ErrAt p w 0 e0) :
    Calls Tryd.prog 107 #[rdV p, .slice (some ⟨g, 0, none⟩) n c, .int .i64 n] w fun e w' => e = .returned (.tuple #[.int .i64 0, errV e0]) ∧ Keep (fun _ => False) w w' := by
  have HR := Lib.hid (rdRead_end p n c v l i (some ⟨g, 0, none⟩) w.drew hr.drew hi e0 he.drew)
  have hsl := fun W => run_from (P := Tryd.prog) Tryd.underlying43 info_u8 (some ⟨g, 0, none⟩) n c 0 (by omega) W
  have hmf : ∀ (fn : Fn) (first cap : Array Value) (w : World), (Instr.makeFunc fn first cap).run Tryd.prog w = .ok (.func fn first cap) w := fun _ _ _ _ => rfl
  have hna := fun w => nil_rdRead ⟨p, 0, none⟩ w
  have hme := fun w => method_rdRead ⟨p, 0, none⟩ w
  have he := he.cell
  clear hr hi
  go_enter Tryd.func107, Tryd.ntmps107
  go_wp2
  refine wp_loop_rounds 2 ?_
  rw [rounds_succ]
  go_wp2_with fail
  go_region_with (go_at_call 141; refine HR.out.mono ?_; rintro e w1 ⟨rfl, hk1⟩)
  go_wp2
  rw [rounds_succ]
  go_wp2
  go_ret2
  exact ⟨rfl, (keep_drew _ w).trans hk1⟩
end Go.Proofs.YthfgnhgijgjggaaDoor
/- Contracts of a strings.Builder that has been grown: copyCheck, WriteByte, Write. -/
namespace Go.Proofs.YthfgnhgijgjggaaDoor
open Go.RowKit

abbrev BldAt (B b : Nat) (bs : List Value) (w : World) : Prop := Lib.BuilderAt 182 5 B b (.pointer (some ⟨b, 0, none⟩)) bs w

theorem bldInfo : ∃ j, Tryd.prog.info? 182 = some j := by
  have h : (Tryd.prog.info? 182).map (·.size) = some 2 := by kernel_rfl
  obtain ⟨i, hi, _⟩ := Option.map_eq_some_iff.1 h
  exact ⟨i, hi⟩

set_option maxRecDepth 100000 in
set_option maxHeartbeats 1000000 in
theorem copyCheck_used (b : Nat) (w : World) (h0 : w.cell? ⟨b, 0, none⟩ = some (.pointer (some ⟨b, 0, none⟩))) :
    Calls Tryd.prog 110 #[.pointer (some ⟨b, 0, none⟩)] w fun e w' => e = .returned (.tuple #[]) ∧ w = w' := by
  obtain ⟨j, hj⟩ := bldInfo
  have hne := Lib.run_neq_ptr_same (P := Tryd.prog) w ⟨b, 0, none⟩ Tryd.underlying180 hj
  go_enter Tryd.func110, Tryd.ntmps110
  go_wp2
  go_end0
  exact ⟨rfl, rfl⟩

theorem bld_neB : (182 : TypeId) ≠ 5 := by decide
theorem info_u8p : ∃ i, Tryd.prog.info? 5 = some i ∧ i.zero = some (.int .u8 0) ∧ i.size = 1 ∧ i.bytes = 1 := by
  obtain ⟨i, hi, h2⟩ := Option.map_eq_some_iff.1 info_u8
  simp only [Prod.mk.injEq] at h2
  exact ⟨i, hi, h2.1, h2.2.1, h2.2.2⟩

set_option maxRecDepth 100000 in
set_option maxHeartbeats 2000000 in
theorem bldWriteByte (B b : Nat) (bs : List Value) (c : Int) (w : World) (h : BldAt B b bs w) (hlen : bs.length + 1 ≤ 140737488355328) (hBw : B ≤ w.heap.size) :
    Calls Tryd.prog 95 #[.pointer (some ⟨b, 0, none⟩), .int .u8 c] w fun e w' => e = .returned .nilIface ∧ BldAt B b (bs ++ [.int .u8 c]) w' ∧ Below B w w' := by
  obtain ⟨i0, hi, hz0, hz1, hz2⟩ := info_u8p
  obtain ⟨hB, v, hbk, hown, hne⟩ := h
  have c0 : w.cell? ⟨b, 0, none⟩ = some (.pointer (some ⟨b, 0, none⟩)) := by rw [Lib.cell_of_heap hbk]; rfl
  have c1 : w.cell? ⟨b, 1, none⟩ = some v := by rw [Lib.cell_of_heap hbk]; rfl
  go_enter Tryd.func95, Tryd.ntmps95
  go_wp2_with fail
  refine (copyCheck_used b w c0).mono ?_
  rintro e w1 ⟨rfl, rfl⟩
  go_wp2_with (at_builtin; refine wpList_append_own _ rfl _ _ 43 rfl B 5 i0 (.int .u8 0) 1 1 Tryd.underlying43 hi hz0 hz1 hz2 rfl (by decide) _ _ _ rfl (hown.alloc _) ⟨w.heap.size, 0, none⟩ 1 1 [.int .u8 c] rfl rfl ?c1 ?c2 ?c3 ?c4 ?c5 ?_)
  case c1 =>
    intro j u hj
    match j, hj with
    | 0, hj => simp at hj; subst hj; simp [Addr.add]
  case c2 => intro u hu; simp at hu; subst hu; rfl
  case c3 => unfold maxLen; omega
  case c4 => omega
  case c5 => simp; omega
  intro v' w2 hown' hgrow _
  have hlt : b < w.heap.size := block_of_row hbk
  have hb2 : w2.heap[b]? = some (.cells #[.pointer (some ⟨b, 0, none⟩), v] 182 (0, 0)) := by
    rw [hgrow.block b (by simp; omega) (fun e => hne e.symm), Lib.alloc_old w _ b hlt]
    exact hbk
  have d0 : w2.cell? ⟨b, 0, none⟩ = some (.pointer (some ⟨b, 0, none⟩)) := by rw [Lib.cell_of_heap hb2]; rfl
  have d1 : w2.cell? ⟨b, 1, none⟩ = some v := by rw [Lib.cell_of_heap hb2]; rfl
  have f1 : w2.frozen? ⟨b, 1, none⟩ = false := Lib.frozen_of_heap hb2 1
  obtain ⟨g, cap, rfl⟩ : ∃ g cap, v' = .slice (some ⟨g, 0, none⟩) (bs.length + 1) cap := by
    rcases hown'.2 with ⟨_, h0⟩ | ⟨g, cap, cur, hv, _⟩
    · omega
    · exact ⟨g, cap, hv⟩
  go_wp2
  go_ret
  refine ⟨rfl, ?_, ?_⟩
  · exact Lib.BuilderAt.put (T := 182) (e := 5) hB hb2 (bs' := bs ++ [.int .u8 c]) (by simpa using hown') bld_neB
  · exact (((Below.refl B w).alloc hBw _).grown hgrow (by simp; omega) (fun k hk => (hown.lt k hk).1)).setCell (p := ⟨b, 1, none⟩) hB _

set_option maxRecDepth 100000 in
set_option maxHeartbeats 2000000 in
theorem bldWrite (B b : Nat) (bs : List Value) (A : Option Addr) (n c : Nat) (l : List UInt8) (w : World) (h : BldAt B b bs w) (hs : BS w (.slice A n c) l) (hn : 0 < n) (hlen : bs.length + n ≤ 140737488355328) (hBw : B ≤ w.heap.size) :
    Calls Tryd.prog 96 #[.pointer (some ⟨b, 0, none⟩), .slice A n c] w fun e w' => e = .returned (.tuple #[.int .i64 n, .nilIface]) ∧ BldAt B b (bs ++ Lib.byteCells l) w' ∧ Below B w w' := by
  obtain ⟨i0, hi, hz0, hz1, hz2⟩ := info_u8p
  obtain ⟨hB, v, hbk, hown, hne⟩ := h
  obtain ⟨hnl, _⟩ := hs.slice
  obtain ⟨b', o', rfl, hcl⟩ := hs.at_ hn
  have c0 : w.cell? ⟨b, 0, none⟩ = some (.pointer (some ⟨b, 0, none⟩)) := by rw [Lib.cell_of_heap hbk]; rfl
  have c1 : w.cell? ⟨b, 1, none⟩ = some v := by rw [Lib.cell_of_heap hbk]; rfl
  have hnews : ∀ j u, (Lib.byteCells l)[j]? = some u → w.cell? ((⟨b', o', none⟩ : Addr).add j) = some u := fun j u hv => by
    have hj : j < l.length := by
      rcases Nat.lt_or_ge j l.length with h | h
      · exact h
      · rw [List.getElem?_eq_none (by rw [Lib.byteCells_length]; exact h)] at hv; cases hv
    have ead : (⟨b', o', none⟩ : Addr).add j = ⟨b', o' + j, none⟩ := by by_cases h : j = 0 <;> simp [Addr.add, h]
    rw [ead, hcl j hj]
    simp [Lib.byteCells, List.getElem?_eq_getElem hj] at hv
    rw [hv]
  have hl : (Lib.byteCells l).length = n := by rw [Lib.byteCells_length]; exact hnl.symm
  generalize hNW : Lib.byteCells l = news at hnews hl
  have h1 : ∀ u ∈ news, u.oneCell' = true := by rw [← hNW]; exact Lib.byteCells_one l
  clear hNW hcl hs
  have HN := Lib.hid hnl
  have HL := Lib.hid hl
  have HNE := Lib.hid hnews
  clear hnl hl hnews
  go_enter Tryd.func96, Tryd.ntmps96
  go_wp2_with fail
  refine (copyCheck_used b w c0).mono ?_
  rintro e w1 ⟨rfl, rfl⟩
  go_wp2_with (at_builtin; refine wpList_append_own _ rfl _ _ 43 rfl B 5 i0 (.int .u8 0) 1 1 Tryd.underlying43 hi hz0 hz1 hz2 rfl (by decide) _ _ _ rfl hown ⟨b', o', none⟩ n c news rfl (by rw [HL.out]; omega) HNE.out h1 ?c3 ?c4 ?c5 ?_)
  case c3 => unfold maxLen; omega
  case c4 => omega
  case c5 => omega
  intro v' w2 hown' hgrow _
  have hlt : b < w.heap.size := block_of_row hbk
  have hb2 : w2.heap[b]? = some (.cells #[.pointer (some ⟨b, 0, none⟩), v] 182 (0, 0)) := by
    rw [hgrow.block b hlt (fun e => hne e.symm)]
    exact hbk
  have d0 : w2.cell? ⟨b, 0, none⟩ = some (.pointer (some ⟨b, 0, none⟩)) := by rw [Lib.cell_of_heap hb2]; rfl
  have d1 : w2.cell? ⟨b, 1, none⟩ = some v := by rw [Lib.cell_of_heap hb2]; rfl
  have f1 : w2.frozen? ⟨b, 1, none⟩ = false := Lib.frozen_of_heap hb2 1
  obtain ⟨ao, n', cap, rfl⟩ : ∃ ao n' cap, v' = .slice ao n' cap := by
    rcases hown'.2 with ⟨hv, _⟩ | ⟨g, cap, cur, hv, _⟩
    · exact ⟨_, _, _, hv⟩
    · exact ⟨_, _, _, hv⟩
  go_wp2
  go_ret2
  refine ⟨rfl, ?_, ?_⟩
  · exact Lib.BuilderAt.put (T := 182) (e := 5) hB hb2 (bs' := bs ++ news) (by rw [List.length_append, HL.out]; exact hown') bld_neB
  · exact ((Below.refl B w).grown hgrow hBw (fun k hk => (hown.lt k hk).1)).setCell (p := ⟨b, 1, none⟩) hB _
end Go.Proofs.YthfgnhgijgjggaaDoor
