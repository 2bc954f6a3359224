/- Contracts, joined (MhPlain MhA MhB SrB SrC CaC). -/
import Derived.Test.YtglkonccinpdnaaGreatDoorJCi1
import Derived.Test.YtglkonccinpdnaaGreatDoorJCi4
import Derived.Test.YtglkonccinpdnaaGreatDoorJCi5
import Derived.Test.YtglkonccinpdnaaGreatDoorJCi6
import Derived.Outline
import Derived.Test.YtglkonccinpdnaaGreatDoorShelf
/- The plain law of multihashes: how one is read of bytes, how it is written. No program in sight. -/
namespace Go.Proofs.YtglkonccinpdnaaGreatDoor
open Go.RowKit

/-- Reading a multihash of the beginning of bytes: how many bytes it has, its code, its digest. -/
def mhRd (l : List UInt8) : Option (Nat × Nat × List UInt8) :=
  if l.length < 2 then none else
  match uvDec l with
  | .ok code n =>
    match uvDec (l.drop n) with
    | .ok len m => if 2147483647 < len ∨ ((l.drop n).drop m).length < len then none else some (n + m + len, code, ((l.drop n).drop m).take len)
    | _ => none
  | _ => none

/-- How a multihash is written. -/
def mhEnc (code : Nat) (d : List UInt8) : List UInt8 := Lib.uvarint code ++ (Lib.uvarint d.length ++ d)

/-- A number below 2^63 that is written is read, whatever stands behind it. -/
theorem uvGo_back : ∀ (f k X y : Nat) (more : List UInt8), k + f = 9 → X < 2 ^ (7 * k) → y < 2 ^ (7 * f) → (0 < k → 0 < y) → 0 < f →
    uvGo k X (Lib.uvarint y ++ more) = .ok (X + y * 2 ^ (7 * k)) (k + (Lib.uvarint y).length)
  | 0, _, _, _, _, _, _, _, _, h => by omega
  | f + 1, k, X, y, more, hkf, hX, hy, hpos, _ => by
    by_cases h : y < 128
    · have hb : y.toUInt8.toNat = y := by simp; omega
      rw [Lib.uvarint_small h]
      show uvGo k X (y.toUInt8 :: more) = _
      unfold uvGo
      rw [hb, if_neg (by omega), if_pos h, if_neg (by intro ⟨h1, h2⟩; have := hpos h2; omega)]
      simp
    · have hb : (y % 128 + 128).toUInt8.toNat = y % 128 + 128 := by simp; omega
      rw [Lib.uvarint_big (by omega), List.cons_append]
      have hf : 0 < f := by
        rcases Nat.eq_zero_or_pos f with h0 | h0
        · subst h0; simp at hy; omega
        · exact h0
      unfold uvGo
      rw [hb, if_neg (by omega), if_neg (by omega)]
      have hlt := uv_step_lt k X ((y % 128 + 128) % 128) hX (by omega)
      have e1 : (y % 128 + 128) % 128 = y % 128 := by omega
      have hp : 2 ^ (7 * (f + 1)) = 2 ^ (7 * f) * 128 := by rw [Nat.mul_add, Nat.pow_add]
      have hpk : 2 ^ (7 * (k + 1)) = 2 ^ (7 * k) * 128 := by rw [Nat.mul_add, Nat.pow_add]
      rw [uvGo_back f (k + 1) _ (y / 128) more (by omega) hlt (by rw [hp] at hy; omega) (by omega) hf, e1, hpk]
      congr 1
      · have : y = y / 128 * 128 + y % 128 := by omega
        have e2 : y * 2 ^ (7 * k) = y / 128 * (2 ^ (7 * k) * 128) + y % 128 * 2 ^ (7 * k) := by
          conv => lhs; rw [this]
          rw [Nat.add_mul, Nat.mul_assoc, Nat.mul_comm 128]
        omega
      · simp; omega

theorem uvDec_back (x : Nat) (hx : x < 9223372036854775808) (more : List UInt8) : uvDec (Lib.uvarint x ++ more) = .ok x (Lib.uvarint x).length := by
  have := uvGo_back 9 0 0 x more rfl (by decide) (by simpa using hx) (by omega) (by decide)
  simpa [uvDec] using this

theorem mhRd_enc (code : Nat) (d more : List UInt8) (hc : code < 9223372036854775808) (hd : d.length ≤ 2147483647) :
    mhRd (mhEnc code d ++ more) = some ((mhEnc code d).length, code, d) := by
  have h1 := Lib.uvarint_pos code
  have h2 := Lib.uvarint_pos d.length
  unfold mhRd mhEnc
  have e0 : Lib.uvarint code ++ (Lib.uvarint d.length ++ d) ++ more = Lib.uvarint code ++ (Lib.uvarint d.length ++ (d ++ more)) := by simp
  rw [e0, uvDec_back code hc]
  simp only [List.drop_left]
  rw [uvDec_back d.length (by omega)]
  simp only [List.drop_left, List.take_left]
  rw [if_neg (by simp; omega), if_neg (by simp; omega)]
  simp [Nat.add_assoc]

theorem uvR_cases (r : UvR) : (∃ x m, r = .ok x m) ∨ r.no := by
  cases r with
  | ok x m => exact .inl ⟨x, m, rfl⟩
  | _ => exact .inr trivial

theorem mhRd_some {l : List UInt8} {r code : Nat} {d : List UInt8} (h : mhRd l = some (r, code, d)) :
    2 ≤ l.length ∧ ∃ m1 x2 m2, uvDec l = .ok code m1 ∧ uvDec (l.drop m1) = .ok x2 m2 ∧ x2 ≤ 2147483647 ∧ x2 ≤ ((l.drop m1).drop m2).length ∧ r = m1 + m2 + x2 ∧ d = ((l.drop m1).drop m2).take x2 := by
  unfold mhRd at h
  by_cases h2 : l.length < 2
  · rw [if_pos h2] at h; cases h
  rw [if_neg h2] at h
  refine ⟨by omega, ?_⟩
  rcases uvR_cases (uvDec l) with ⟨x1, m1, e1⟩ | hno
  · rw [e1] at h
    dsimp only at h
    rcases uvR_cases (uvDec (l.drop m1)) with ⟨x2, m2, e2⟩ | hno
    · rw [e2] at h
      dsimp only at h
      by_cases h3 : 2147483647 < x2 ∨ ((l.drop m1).drop m2).length < x2
      · rw [if_pos h3] at h; cases h
      rw [if_neg h3] at h
      simp only [Option.some.injEq, Prod.mk.injEq] at h
      obtain ⟨rfl, rfl, rfl⟩ := h
      exact ⟨m1, x2, m2, e1, e2, by omega, by omega, rfl, rfl⟩
    · cases hh : uvDec (l.drop m1) with
      | ok => rw [hh] at hno; exact False.elim hno
      | _ => rw [hh] at h; cases h
  · cases hh : uvDec l with
    | ok => rw [hh] at hno; exact False.elim hno
    | _ => rw [hh] at h; cases h

theorem mhRd_none {l : List UInt8} (h : mhRd l = none) : l.length < 2 ∨ (2 ≤ l.length ∧ ((uvDec l).no ∨ ∃ x1 m1, uvDec l = .ok x1 m1 ∧
    ((uvDec (l.drop m1)).no ∨ ∃ x2 m2, uvDec (l.drop m1) = .ok x2 m2 ∧ (2147483647 < x2 ∨ (x2 ≤ 2147483647 ∧ ((l.drop m1).drop m2).length < x2))))) := by
  by_cases h2 : l.length < 2
  · exact .inl h2
  refine .inr ⟨by omega, ?_⟩
  unfold mhRd at h
  rw [if_neg h2] at h
  rcases uvR_cases (uvDec l) with ⟨x1, m1, e1⟩ | hno
  · refine .inr ⟨x1, m1, e1, ?_⟩
    rw [e1] at h
    dsimp only at h
    rcases uvR_cases (uvDec (l.drop m1)) with ⟨x2, m2, e2⟩ | hno
    · refine .inr ⟨x2, m2, e2, ?_⟩
      rw [e2] at h
      dsimp only at h
      by_cases h3 : 2147483647 < x2 ∨ ((l.drop m1).drop m2).length < x2
      · omega
      · rw [if_neg h3] at h; cases h
    · exact .inl hno
  · exact .inl hno
end Go.Proofs.YtglkonccinpdnaaGreatDoor
/- Contracts of package multihash: reading the varint, the multihash, taking it apart. -/
namespace Go.Proofs.YtglkonccinpdnaaGreatDoor
open Go.RowKit

/-- Variable g holds an error that is not nil. -/
def IsErr (w : World) (g : Nat) : Prop := ∃ t p, w.cell? ⟨g, 0, none⟩ = some (.iface t p)
theorem IsErr.below {w w' : World} {g : Nat} (h : IsErr w g) (hb : Below w.heap.size w w') : IsErr w' g := by
  obtain ⟨t, p, h⟩ := h; exact ⟨t, p, below_cell hb h⟩
/-- The three sentinels of package varint. -/
structure UvS (w : World) : Prop where
  T : ∃ T, (∃ p, w.cell? ⟨6, 0, none⟩ = some (.iface T p)) ∧ (∃ p, w.cell? ⟨7, 0, none⟩ = some (.iface T p)) ∧ (∃ p, w.cell? ⟨8, 0, none⟩ = some (.iface T p))
theorem UvS.below {w w' : World} (h : UvS w) (hb : Below w.heap.size w w') : UvS w' := by
  obtain ⟨T, ⟨p1, h1⟩, ⟨p2, h2⟩, ⟨p3, h3⟩⟩ := h.T
  exact ⟨T, ⟨p1, below_cell hb h1⟩, ⟨p2, below_cell hb h2⟩, ⟨p3, below_cell hb h3⟩⟩
/-- .. and those of package multihash. -/
structure MhS (w : World) : Prop extends UvS w where
  short : IsErr w 11
theorem MhS.below {w w' : World} (h : MhS w) (hb : Below w.heap.size w w') : MhS w' := ⟨h.toUvS.below hb, h.short.below hb⟩

theorem fromUv_ok (A : Option Addr) (n c : Nat) (l : List UInt8) (w : World) (hs : BS w (.slice A n c) l) (hm : l.length ≤ 9223372036854775807) (hu : UvS w) (x m : Nat) (h : uvDec l = .ok x m) :
    Calls Tryz.prog 88 #[.slice A n c] w fun e w' => e = .returned (.tuple #[.int .u64 x, .int .i64 m, .nilIface]) ∧ Below w.heap.size w w' := by
  obtain ⟨T, ⟨p1, h1⟩, ⟨p2, h2⟩, ⟨p3, h3⟩⟩ := hu.T
  refine (fromUv A n c l w hs hm T p1 p2 p3 h1 h2 h3).mono fun e w' ⟨he, q, hw⟩ => ⟨?_, ?_⟩
  · rw [he, h]; rfl
  · rw [hw]; exact below_drewN _ _ _

theorem fromUv_no (A : Option Addr) (n c : Nat) (l : List UInt8) (w : World) (hs : BS w (.slice A n c) l) (hm : l.length ≤ 9223372036854775807) (hu : UvS w) (h : (uvDec l).no) :
    Calls Tryz.prog 88 #[.slice A n c] w fun e w' => ∃ t p, e = .returned (.tuple #[.int .u64 0, .int .i64 0, .iface t p]) ∧ Below w.heap.size w w' := by
  obtain ⟨T, ⟨p1, h1⟩, ⟨p2, h2⟩, ⟨p3, h3⟩⟩ := hu.T
  refine (fromUv A n c l w hs hm T p1 p2 p3 h1 h2 h3).mono fun e w' ⟨he, q, hw⟩ => ?_
  subst he
  rw [hw]
  cases hd : uvDec l with
  | ok => rw [hd] at h; exact False.elim h
  | _ => exact ⟨_, _, rfl, below_drewN _ _ _⟩

set_option maxRecDepth 100000 in
set_option maxHeartbeats 1000000 in
theorem muv_ok (A : Option Addr) (n c : Nat) (l : List UInt8) (w : World) (hs : BS w (.slice A n c) l) (hm : l.length ≤ 9223372036854775807) (hu : UvS w) (x m : Nat) (hd : uvDec l = .ok x m) :
    BS w (.slice (cutA A c m) (n - m) (c - m)) (l.drop m) ∧
    Calls Tryz.prog 107 #[.slice A n c] w fun e w' => e = .returned (.tuple #[.int .u64 x, .slice (cutA A c m) (n - m) (c - m), .nilIface]) ∧ Below w.heap.size w w' := by
  obtain ⟨hn, _⟩ := hs.slice
  obtain ⟨g1, g2, g3, _, _⟩ := uvDec_ok hd
  obtain ⟨hrun, hs'⟩ := hs.from_ (P := Tryz.prog) Tryz.underlying58 info_u8 m (by omega)
  refine ⟨hs', ?_⟩
  have m1 : ((m : Int) == 0) = false := by simp; omega
  have m2 : ¬ (m : Int) < 0 := by omega
  have HC := Lib.hid (fromUv_ok A n c l w hs hm hu x m hd)
  clear hd hn hs hu hs'
  go_enter Tryz.func107, Tryz.ntmps107
  go_wp2_with fail
  refine HC.out.mono ?_
  rintro e w1 ⟨rfl, hb⟩
  go_wp2
  go_quiet (fail)
  go_wp2
  go_ret3
  exact ⟨rfl, hb.drewN _⟩

set_option maxRecDepth 100000 in
set_option maxHeartbeats 1000000 in
theorem muv_no (A : Option Addr) (n c : Nat) (l : List UInt8) (w : World) (hs : BS w (.slice A n c) l) (hm : l.length ≤ 9223372036854775807) (hu : UvS w) (hd : (uvDec l).no) :
    Calls Tryz.prog 107 #[.slice A n c] w fun e w' => ∃ t p, e = .returned (.tuple #[.int .u64 0, .slice A n c, .iface t p]) ∧ Below w.heap.size w w' := by
  have HC := Lib.hid (fromUv_no A n c l w hs hm hu hd)
  clear hd hs hu
  go_enter Tryz.func107, Tryz.ntmps107
  go_wp2_with fail
  refine HC.out.mono ?_
  rintro e w1 ⟨t, p, rfl, hb⟩
  go_wp2
  go_ret3
  exact ⟨t, p, rfl, hb⟩

set_option maxRecDepth 100000 in
/-- errors.New: a pointer to a new block that holds the text. -/
theorem errorsNew_any (s : ByteArray) (w : World) :
    Calls Tryz.prog 58 #[.string s] w fun e w' => e = .returned (.iface 155 (.pointer (some ⟨w.heap.size, 0, none⟩))) ∧ w.alloc (.cells #[.string s] 157) = w' := by
  go_enter Tryz.func58, Tryz.ntmps58
  go_wp2
  go_ret
  exact ⟨rfl, rfl⟩
/-- .. told as an error that is not nil. -/
theorem errorsNew (s : ByteArray) (w : World) :
    Calls Tryz.prog 58 #[.string s] w fun e w' => ∃ t p, e = .returned (.iface t p) ∧ Below w.heap.size w w' :=
  (errorsNew_any s w).mono fun e w' ⟨he, hw⟩ => ⟨_, _, he, by rw [← hw]; exact (Below.refl _ _).alloc (Nat.le_refl _) _⟩

set_option maxRecDepth 100000 in
set_option maxHeartbeats 1000000 in
theorem mrd_ok (A : Option Addr) (n c : Nat) (l : List UInt8) (w : World) (hs : BS w (.slice A n c) l) (hm : l.length ≤ 2147483647) (hu : UvS w) (r code : Nat) (d : List UInt8) (hd : mhRd l = some (r, code, d)) :
    ∃ A' c', BS w (.slice A' d.length c') d ∧ ∀ w0, Below w.heap.size w w0 →
    Calls Tryz.prog 103 #[.slice A n c] w0 fun e w' => e = .returned (.tuple #[.int .i64 r, .int .u64 code, .slice A' d.length c', .nilIface]) ∧ Below w0.heap.size w0 w' := by
  obtain ⟨hn, _⟩ := hs.slice
  obtain ⟨h2, m1, x2, m2, e1, e2, hx, hx2, rfl, rfl⟩ := mhRd_some hd
  obtain ⟨g1, g2, g3, _, _⟩ := uvDec_ok e1
  obtain ⟨k1, k2, k3, _, _⟩ := uvDec_ok e2
  have hs1 := (muv_ok A n c l w hs (by omega) hu code m1 e1).1
  have hc1 : ∀ w0, Below w.heap.size w w0 → _ := fun w0 hb0 => (muv_ok A n c l w0 (hs.below hb0) (by omega) (hu.below hb0) code m1 e1).2
  have hl1 : (l.drop m1).length = l.length - m1 := by simp
  have hl2 : ((l.drop m1).drop m2).length = l.length - m1 - m2 := by rw [List.length_drop, List.length_drop]
  rw [hl1] at k2
  rw [hl2] at hx2
  have hx3 : x2 ≤ n - m1 - m2 := by omega
  have hlen : (((l.drop m1).drop m2).take x2).length = x2 := by rw [List.length_take, hl2]; omega
  have hc2 : ∀ w1, Below w.heap.size w w1 → BS w1 (.slice (cutA (cutA A c m1) (c - m1) m2) (n - m1 - m2) (c - m1 - m2)) ((l.drop m1).drop m2) ∧ Calls Tryz.prog 107 #[.slice (cutA A c m1) (n - m1) (c - m1)] w1 fun e w' =>
      e = .returned (.tuple #[.int .u64 x2, .slice (cutA (cutA A c m1) (c - m1) m2) (n - m1 - m2) (c - m1 - m2), .nilIface]) ∧ Below w1.heap.size w1 w' := fun w1 hb1 => muv_ok _ _ _ _ w1 (hs1.below hb1) (by rw [hl1]; omega) (hu.below hb1) x2 m2 e2
  obtain ⟨hrun, hrunu, hs3⟩ := (hc2 w (Below.refl _ _)).1.to_ (P := Tryz.prog) Tryz.underlying58 info_u8 x2 hx3
  rw [hlen]
  refine ⟨_, _, hs3, ?_⟩
  have HC1 := Lib.hid hc1
  have HC2 := Lib.hid hc2
  clear hc1 hc2 hs hs1 hs3 hd e1 e2 hlen hu hrun
  generalize cutA (cutA A c m1) (c - m1) m2 = A2 at *
  generalize cutA A c m1 = A1 at *
  generalize c - m1 - m2 = C2 at *
  generalize c - m1 = C1 at *
  have b1 : 2 ≤ n := by omega
  have b3 : n ≤ 2147483647 := by omega
  generalize hN1 : n - m1 = N1 at HC1 HC2 hrunu hx3 ⊢
  generalize hN2 : N1 - m2 = N2 at HC2 hrunu hx3 ⊢
  have b2 : N2 ≤ n := by omega
  have HR := Lib.hid (show (n : Int) - N2 + x2 = ((m1 + m2 + x2 : Nat) : Int) by omega)
  clear hl1 hl2 hN1 hN2 hn g1 g2 g3 k1 k2 k3 hx2 h2 hm
  intro w0 hb0
  go_enter Tryz.func103, Tryz.ntmps103
  go_wp2_with fail
  refine (HC1.out w0 hb0).mono ?_
  rintro e w1 ⟨rfl, hb1⟩
  go_wp2_with fail
  refine (HC2.out w1 (below_next hb0 hb1)).2.mono ?_
  rintro e w2 ⟨rfl, hb2⟩
  go_wp2
  go_quiet (fail)
  go_wp2
  refine bodyPost_ret (v := .tuple #[.int .i64 ((n : Int) - N2 + x2), .int .u64 code, .slice A2 x2 C2, .nilIface]) (by simp [results, Tryz.results103, go_sem]) rfl ⟨by rw [HR.out], (below_next hb1 hb2).drewN _⟩

set_option maxRecDepth 100000 in
set_option maxHeartbeats 1000000 in
theorem mrd_no (A : Option Addr) (n c : Nat) (l : List UInt8) (w : World) (hs : BS w (.slice A n c) l) (hm : l.length ≤ 2147483647) (hu : MhS w) (hd : mhRd l = none) :
    Calls Tryz.prog 103 #[.slice A n c] w fun e w' => ∃ t p, e = .returned (.tuple #[.int .i64 0, .int .u64 0, .slice none 0 0, .iface t p]) ∧ Below w.heap.size w w' := by
  obtain ⟨hn, _⟩ := hs.slice
  rcases mhRd_none hd with h2 | ⟨h2, hno | ⟨x1, m1, e1, h⟩⟩
  · obtain ⟨t, p, hsh⟩ := hu.short
    have b1 : n < 2 := by omega
    clear hs hu hd hn h2 hm
    go_enter Tryz.func103, Tryz.ntmps103
    go_wp2
    go_quiet (fail)
    go_wp2
    refine bodyPost_ret (v := .tuple #[.int .i64 0, .int .u64 0, .slice none 0 0, .iface t p]) (by simp [results, Tryz.results103, go_sem]) rfl ⟨t, p, rfl, below_drewN _ _ _⟩
  · have HC := Lib.hid (muv_no A n c l w hs (by omega) hu.toUvS hno)
    have b1 : 2 ≤ n := by omega
    clear hs hu hd hn h2 hm hno
    go_enter Tryz.func103, Tryz.ntmps103
    go_wp2_with fail
    refine HC.out.mono ?_
    rintro e w1 ⟨t, p, rfl, hb⟩
    go_wp2
    refine bodyPost_ret (v := .tuple #[.int .i64 0, .int .u64 0, .slice none 0 0, .iface t p]) (by simp [results, Tryz.results103, go_sem]) rfl ⟨t, p, rfl, hb⟩
  · obtain ⟨g1, g2, g3, _, _⟩ := uvDec_ok e1
    obtain ⟨hs1, hc1⟩ := muv_ok A n c l w hs (by omega) hu.toUvS x1 m1 e1
    have HC1 := Lib.hid hc1
    have hl1 : (l.drop m1).length = l.length - m1 := by simp
    have b1 : 2 ≤ n := by omega
    rcases h with hno | ⟨x2, m2, e2, h3⟩
    · have HC2 := Lib.hid (fun w1 (hb1 : Below w.heap.size w w1) => muv_no _ _ _ _ w1 (hs1.below hb1) (by rw [hl1]; omega) (hu.toUvS.below hb1) hno)
      clear hs hu hd hn h2 hm hno hs1 hc1 e1 g1 g2 g3 hl1
      generalize cutA A c m1 = A1 at *
      generalize n - m1 = N1 at *
      generalize c - m1 = C1 at *
      go_enter Tryz.func103, Tryz.ntmps103
      go_wp2_with fail
      refine HC1.out.mono ?_
      rintro e w1 ⟨rfl, hb1⟩
      go_wp2_with fail
      refine (HC2.out w1 hb1).mono ?_
      rintro e w2 ⟨t, p, rfl, hb2⟩
      go_wp2
      refine bodyPost_ret (v := .tuple #[.int .i64 0, .int .u64 0, .slice none 0 0, .iface t p]) (by simp [results, Tryz.results103, go_sem]) rfl ⟨t, p, rfl, below_next hb1 hb2⟩
    · obtain ⟨k1, k2, k3, k4, _⟩ := uvDec_ok e2
      have hx63 := uvDec_lt63 e2
      have hl2 : ((l.drop m1).drop m2).length = l.length - m1 - m2 := by rw [List.length_drop, List.length_drop]
      rw [hl2] at h3
      rw [hl1] at k2
      have HC2 := Lib.hid (fun w1 (hb1 : Below w.heap.size w w1) => (muv_ok _ _ _ _ w1 (hs1.below hb1) (by rw [hl1]; omega) (hu.toUvS.below hb1) x2 m2 e2).2)
      have h3' : 2147483647 < x2 ∨ (x2 ≤ 2147483647 ∧ n - m1 - m2 < x2) := by omega
      clear hs hu hd hn h2 hm hs1 hc1 e1 e2 g1 g2 g3 hl1 hl2 k1 k2 k3 k4 h3
      generalize cutA (cutA A c m1) (c - m1) m2 = A2 at *
      generalize cutA A c m1 = A1 at *
      generalize c - m1 - m2 = C2 at *
      generalize c - m1 = C1 at *
      generalize n - m1 - m2 = N2 at *
      generalize n - m1 = N1 at *
      rcases h3' with h3 | ⟨h3, h4⟩
      · go_enter Tryz.func103, Tryz.ntmps103
        go_wp2_with fail
        refine HC1.out.mono ?_
        rintro e w1 ⟨rfl, hb1⟩
        go_wp2_with fail
        refine (HC2.out w1 hb1).mono ?_
        rintro e w2 ⟨rfl, hb2⟩
        go_wp2_with fail
        refine (errorsNew _ w2).mono ?_
        rintro e w3 ⟨t, p, rfl, hb3⟩
        go_wp2
        refine bodyPost_ret (v := .tuple #[.int .i64 0, .int .u64 0, .slice none 0 0, .iface t p]) (by simp [results, Tryz.results103, go_sem]) rfl ⟨t, p, rfl, below_next (below_next hb1 hb2) hb3⟩
      · go_enter Tryz.func103, Tryz.ntmps103
        go_wp2_with fail
        refine HC1.out.mono ?_
        rintro e w1 ⟨rfl, hb1⟩
        go_wp2_with fail
        refine (HC2.out w1 hb1).mono ?_
        rintro e w2 ⟨rfl, hb2⟩
        go_wp2_with fail
        refine (errorsNew _ w2).mono ?_
        rintro e w3 ⟨t, p, rfl, hb3⟩
        go_wp2
        refine bodyPost_ret (v := .tuple #[.int .i64 0, .int .u64 0, .slice none 0 0, .iface t p]) (by simp [results, Tryz.results103, go_sem]) rfl ⟨t, p, rfl, below_next (below_next hb1 hb2) hb3⟩
end Go.Proofs.YtglkonccinpdnaaGreatDoor
/- Contracts of package multihash: Decode, MHFromBytes, Encode; and of impl's three entry points. -/
namespace Go.Proofs.YtglkonccinpdnaaGreatDoor
open Go.RowKit

theorem bcell {W w1 : World} (hb : Below W.heap.size W w1) : (∀ b o, b < W.heap.size → w1.cell? ⟨b, o, none⟩ = W.cell? ⟨b, o, none⟩) ∧ (∀ b o, b < W.heap.size → w1.frozen? ⟨b, o, none⟩ = W.frozen? ⟨b, o, none⟩) :=
  ⟨fun b o h => hb.cell (p := ⟨b, o, none⟩) h, fun b o h => hb.frozen (p := ⟨b, o, none⟩) h⟩

set_option maxRecDepth 100000 in
set_option maxHeartbeats 1000000 in
theorem decode_ok (A : Option Addr) (n c : Nat) (l : List UInt8) (w : World) (hs : BS w (.slice A n c) l) (hm : l.length ≤ 2147483647) (hu : UvS w) (code : Nat) (d : List UInt8) (hd : mhRd l = some (n, code, d)) :
    ∃ A' c', BS w (.slice A' d.length c') d ∧ ∀ w0, Below w.heap.size w w0 →
    Calls Tryz.prog 86 #[.slice A n c] w0 fun e w' => e = .returned (.tuple #[.agg #[.int .u64 code, .string ⟨#[]⟩, .int .i64 d.length, .slice A' d.length c'], .nilIface]) ∧ Below w0.heap.size w0 w' := by
  obtain ⟨hn, _⟩ := hs.slice
  obtain ⟨A', c', hs', hc⟩ := mrd_ok A n c l w hs hm hu _ _ _ hd
  refine ⟨A', c', hs', ?_⟩
  intro w0 hb0
  have HC := Lib.hid hc
  generalize d.length = D at *
  have b3 : n ≤ 9223372036854775807 := by omega
  clear hs hn hs' hc hu hd hm
  go_enter Tryz.func86, Tryz.ntmps86
  go_wp2_with fail
  refine (HC.out _ (hb0.trans ((Below.refl _ _).alloc hb0.size _))).mono ?_
  rintro e w1 ⟨rfl, hb1⟩
  obtain ⟨hc, hf⟩ := bcell hb1
  have hz := hb1.size
  simp only [World.size_alloc] at hz hc hf
  go_wp2
  have hrow : w1.heap[w0.heap.size]? = some (.cells #[.int .u64 0, .string ⟨#[]⟩, .int .i64 0, .slice none 0 0] 152 (0, 0)) := row_below hb1 (by simp) (heap_alloc_new _ _)

  refine bodyPost_ret (results_row_tmp rfl _ _ w0.heap.size 152 #[.int .u64 code, .string ⟨#[]⟩, .int .i64 D, .slice A' D c'] (0, 0) _ ?h1 ?h2 Tryz.underlying152 rfl ?h5) ?h6 ?h7

  case h1 => rfl

  case h2 => simp [World.setCell, Array.getElem?_modify, hrow]

  case h5 => kernel_rfl

  case h6 => rfl

  refine ⟨rfl, ?_⟩

  have hb2 : Below w0.heap.size w0 w1 := by
    have h0 : Below w0.heap.size w0 (w0.alloc (Obj.cells #[Value.int IntKind.u64 0, Value.string { data := #[] }, Value.int IntKind.i64 0, Value.slice none 0 0] 152)) := (Below.refl _ _).alloc (Nat.le_refl _) _
    exact below_next h0 hb1
  clear hc hf hrow HC
  exact (((((((hb2.setCell (by exact Nat.le_refl _) _).setCell (by exact Nat.le_refl _) _).setCell (by exact Nat.le_refl _) _).setCell (by exact Nat.le_refl _) _).setCell (by exact Nat.le_refl _) _).setCell (by exact Nat.le_refl _) _).setCell (by exact Nat.le_refl _) _).setCell (by exact Nat.le_refl _) _

def DmBad (e : Ending) : Prop := ∃ (a : Int) (s : ByteArray) (b : Int) (A : Option Addr) (n c : Nat) (t : TypeId) (p : Value), e = .returned (.tuple #[.agg #[.int .u64 a, .string s, .int .i64 b, .slice A n c], .iface t p])

set_option maxRecDepth 100000 in
set_option maxHeartbeats 1000000 in
theorem decode_more (A : Option Addr) (n c : Nat) (l : List UInt8) (w : World) (hs : BS w (.slice A n c) l) (hm : l.length ≤ 2147483647) (hu : UvS w) (r code : Nat) (d : List UInt8) (hd : mhRd l = some (r, code, d)) (hr : r ≠ n) :
    Calls Tryz.prog 86 #[.slice A n c] w fun e w' => DmBad e ∧ Below w.heap.size w w' := by
  obtain ⟨hn, _⟩ := hs.slice
  obtain ⟨A', c', hs', hc⟩ := mrd_ok A n c l w hs hm hu _ _ _ hd
  have HC := Lib.hid hc
  generalize d.length = D at *
  have b3 : n ≤ 9223372036854775807 := by omega
  have b4 : ((n : Int) != r) = true := by rw [bne_iff_ne]; omega
  clear hs hn hs' hc hu hd hm hr
  go_enter Tryz.func86, Tryz.ntmps86
  go_wp2_with fail
  refine (HC.out _ ((Below.refl _ _).alloc (Nat.le_refl _) _)).mono ?_
  rintro e w1 ⟨rfl, hb1⟩
  have h0 : Below w.heap.size w (w.alloc (Obj.cells #[Value.int IntKind.u64 0, Value.string { data := #[] }, Value.int IntKind.i64 0, Value.slice none 0 0] 152)) := (Below.refl _ _).alloc (Nat.le_refl _) _
  have hb2 := below_next h0 hb1
  obtain ⟨hc, hf⟩ := bcell hb1
  have hz := hb1.size
  simp only [World.size_alloc] at hz hc hf
  go_wp2
  have hrow : w1.heap[w.heap.size]? = some (.cells #[.int .u64 0, .string ⟨#[]⟩, .int .i64 0, .slice none 0 0] 152 (0, 0)) := row_below hb1 (by simp) (heap_alloc_new _ _)
  refine bodyPost_ret (results_row_tmp rfl _ _ w.heap.size 152 #[.int .u64 code, .string ⟨#[]⟩, .int .i64 D, .slice A' D c'] (0, 0) _ ?h1 ?h2 Tryz.underlying152 rfl ?h5) ?h6 ?h7
  case h1 => rfl
  case h2 => simp [World.setCell, Array.getElem?_modify, hrow]
  case h5 => kernel_rfl
  case h6 => rfl
  refine ⟨⟨_, _, _, _, _, _, _, _, rfl⟩, ?_⟩
  exact ((((((((hb2.setCell (by exact Nat.le_refl _) _).setCell (by exact Nat.le_refl _) _).setCell (by exact Nat.le_refl _) _).setCell (by exact Nat.le_refl _) _).setCell (by exact Nat.le_refl _) _).setCell (by exact Nat.le_refl _) _).setCell (by exact Nat.le_refl _) _).setCell (by exact Nat.le_refl _) _)

set_option maxRecDepth 100000 in
set_option maxHeartbeats 1000000 in
theorem decode_no (A : Option Addr) (n c : Nat) (l : List UInt8) (w : World) (hs : BS w (.slice A n c) l) (hm : l.length ≤ 2147483647) (hu : MhS w) (hd : mhRd l = none) :
    Calls Tryz.prog 86 #[.slice A n c] w fun e w' => DmBad e ∧ Below w.heap.size w w' := by
  have h0 : Below w.heap.size w (w.alloc (Obj.cells #[Value.int IntKind.u64 0, Value.string { data := #[] }, Value.int IntKind.i64 0, Value.slice none 0 0] 152)) := (Below.refl _ _).alloc (Nat.le_refl _) _
  have HC := Lib.hid (mrd_no A n c l _ (hs.below h0) hm (hu.below h0) hd)
  clear hs hu hd hm
  go_enter Tryz.func86, Tryz.ntmps86
  go_wp2_with fail
  refine HC.out.mono ?_
  rintro e w1 ⟨t, p, rfl, hb1⟩
  have hb2 := below_next h0 hb1
  obtain ⟨hc, hf⟩ := bcell hb1
  have hz := hb1.size
  simp only [World.size_alloc] at hz hc hf
  go_wp2
  have hrow : w1.heap[w.heap.size]? = some (.cells #[.int .u64 0, .string ⟨#[]⟩, .int .i64 0, .slice none 0 0] 152 (0, 0)) := row_below hb1 (by simp) (heap_alloc_new _ _)
  refine bodyPost_ret (results_row_tmp rfl _ _ w.heap.size 152 #[.int .u64 0, .string ⟨#[]⟩, .int .i64 0, .slice none 0 0] (0, 0) _ ?h1 ?h2 Tryz.underlying152 rfl ?h5) ?h6 ?h7
  case h1 => rfl
  case h2 => simp [World.setCell, Array.getElem?_modify, hrow]
  case h5 => kernel_rfl
  case h6 => rfl
  refine ⟨⟨_, _, _, _, _, _, t, p, rfl⟩, ?_⟩
  exact ((((hb2.setCell (by exact Nat.le_refl _) _).setCell (by exact Nat.le_refl _) _).setCell (by exact Nat.le_refl _) _).setCell (by exact Nat.le_refl _) _)

/-- A pointer to a new block that holds what a multihash was taken apart to. -/
def DmPtr (w w' : World) (code : Nat) (A : Option Addr) (D c : Nat) (e : Ending) : Prop := ∃ g, e = .returned (.tuple #[.pointer (some ⟨g, 0, none⟩), .nilIface]) ∧ w.heap.size ≤ g ∧
  w'.heap[g]? = some (.cells #[.int .u64 code, .string ⟨#[]⟩, .int .i64 D, .slice A D c] 152 (0, 0))

set_option maxRecDepth 100000 in
set_option maxHeartbeats 1000000 in
theorem Decode_ok (A : Option Addr) (n c : Nat) (l : List UInt8) (w : World) (hs : BS w (.slice A n c) l) (hm : l.length ≤ 2147483647) (hu : UvS w) (code : Nat) (d : List UInt8) (hd : mhRd l = some (n, code, d)) :
    ∃ A' c', BS w (.slice A' d.length c') d ∧ ∀ w0, Below w.heap.size w w0 →
    Calls Tryz.prog 76 #[.slice A n c] w0 fun e w' => DmPtr w0 w' code A' d.length c' e ∧ Below w0.heap.size w0 w' := by
  obtain ⟨A', c', hs', hc⟩ := decode_ok A n c l w hs hm hu _ _ hd
  refine ⟨A', c', hs', ?_⟩
  intro w0 hb0
  have HC := Lib.hid (hc w0 hb0)
  generalize d.length = D at *
  clear hs hs' hc hu hd hm
  go_enter Tryz.func76, Tryz.ntmps76
  go_wp2_with fail
  refine HC.out.mono ?_
  rintro e w1 ⟨rfl, hb1⟩
  go_wp2
  go_ret2
  refine ⟨⟨_, rfl, hb1.size, ?_⟩, ?_⟩
  · exact heap_alloc_new _ _
  · exact hb1.alloc hb1.size _

/-- nil, and an error. -/
def PtrBad (e : Ending) : Prop := ∃ t p, e = .returned (.tuple #[.pointer none, .iface t p])

set_option maxRecDepth 100000 in
set_option maxHeartbeats 1000000 in
theorem Decode_bad (A : Option Addr) (n c : Nat) (l : List UInt8) (w : World) (hs : BS w (.slice A n c) l) (hm : l.length ≤ 2147483647) (hu : MhS w) (hd : ∀ code d, mhRd l ≠ some (n, code, d)) :
    Calls Tryz.prog 76 #[.slice A n c] w fun e w' => PtrBad e ∧ Below w.heap.size w w' := by
  have hc : Calls Tryz.prog 86 #[.slice A n c] w fun e w' => DmBad e ∧ Below w.heap.size w w' := by
    cases h : mhRd l with
    | none => exact decode_no A n c l w hs hm hu h
    | some x =>
      obtain ⟨r, code, d⟩ := x
      exact decode_more A n c l w hs hm hu.toUvS r code d h (fun e => hd code d (by rw [h, e]))
  have HC := Lib.hid hc
  clear hs hu hd hm hc
  go_enter Tryz.func76, Tryz.ntmps76
  go_wp2_with fail
  refine HC.out.mono ?_
  rintro e w1 ⟨⟨a, s, b, A1, n1, c1, t, p, rfl⟩, hb1⟩
  go_wp2
  go_ret2
  exact ⟨⟨t, p, rfl⟩, hb1.alloc hb1.size _⟩

set_option maxRecDepth 100000 in
set_option maxHeartbeats 1000000 in
theorem MHFrom_ok (A : Option Addr) (n c : Nat) (l : List UInt8) (w : World) (hs : BS w (.slice A n c) l) (hm : l.length ≤ 2147483647) (hu : UvS w) (r code : Nat) (d : List UInt8) (hd : mhRd l = some (r, code, d)) (hr : r ≤ n) :
    BS w (.slice A r c) (l.take r) ∧
    Calls Tryz.prog 118 #[.slice A n c] w fun e w' => e = .returned (.tuple #[.int .i64 r, .slice A r c, .nilIface]) ∧ Below w.heap.size w w' := by
  obtain ⟨A', c', _, hc⟩ := mrd_ok A n c l w hs hm hu _ _ _ hd
  obtain ⟨hrun, _, hs2⟩ := hs.to_ (P := Tryz.prog) Tryz.underlying58 info_u8 r hr
  refine ⟨hs2, ?_⟩
  have HC := Lib.hid (hc w (Below.refl _ _))
  generalize d.length = D at *
  clear hs hc hu hd hm hs2 hr
  go_enter Tryz.func118, Tryz.ntmps118
  go_wp2_with fail
  refine HC.out.mono ?_
  rintro e w1 ⟨rfl, hb1⟩
  go_wp2
  go_quiet (fail)
  go_wp2
  go_ret3
  exact ⟨rfl, hb1.drewN _⟩

set_option maxRecDepth 100000 in
set_option maxHeartbeats 1000000 in
theorem MHFrom_no (A : Option Addr) (n c : Nat) (l : List UInt8) (w : World) (hs : BS w (.slice A n c) l) (hm : l.length ≤ 2147483647) (hu : MhS w) (hd : mhRd l = none) :
    Calls Tryz.prog 118 #[.slice A n c] w fun e w' => ∃ t p, e = .returned (.tuple #[.int .i64 0, .slice none 0 0, .iface t p]) ∧ Below w.heap.size w w' := by
  have HC := Lib.hid (mrd_no A n c l w hs hm hu hd)
  clear hs hu hd hm
  go_enter Tryz.func118, Tryz.ntmps118
  go_wp2_with fail
  refine HC.out.mono ?_
  rintro e w1 ⟨t, p, rfl, hb1⟩
  go_wp2
  go_ret3
  exact ⟨t, p, rfl, hb1⟩

/-- A string made to bytes: where the contracts begin. -/
theorem conv_in (w : World) (s : ByteArray) : ∃ c w1, (convert 9 58 (.string s)).run Tryz.prog w = .ok (.slice (some ⟨w.heap.size, 0, none⟩) s.size c) w1 ∧ Below w.heap.size w w1 ∧ BS w1 (.slice (some ⟨w.heap.size, 0, none⟩) s.size c) s.data.toList := by
  obtain ⟨c, w1, hconv, hc, hb, hsz, _, hcells⟩ := conv_bytes (P := Tryz.prog) Tryz.underlying9 Tryz.underlying58 Tryz.underlying5 w s
  have hlen : s.data.toList.length = s.size := by rw [Array.length_toList]; rfl
  have HS := BS.of_cells (w := w1) (b := w.heap.size) (o := 0) (c := c) (l := s.data.toList) (by omega) hcells
  rw [hlen] at HS
  exact ⟨c, w1, hconv, hb, HS⟩



end Go.Proofs.YtglkonccinpdnaaGreatDoor
/- Contracts: the characteristics of a header of version 2, over a section. (genSr.py) -/
namespace Go.Proofs.YtglkonccinpdnaaGreatDoor
open Go.RowKit

/-- Uint64 of a slice's first 8 bytes. -/
theorem u64LE (g o n c : Nat) (l : List UInt8) (w : World) (hn : 8 ≤ n) (hl : l.length = 8) (hc : ∀ j (h : j < l.length), w.cell? ⟨g, o + j, none⟩ = some (.int .u8 l[j].toNat)) :
    Calls Tryz.prog 90 #[.agg #[], .slice (some ⟨g, o, none⟩) n c] w fun e w' => e = .returned (.int .u64 (Lib.leNat l)) ∧ Below w.heap.size w w' := by
  match l, hl, hc with
  | [b0, b1, b2, b3, b4, b5, b6, b7], _, hc =>
    exact Tryz.binary_LE_Uint64 g o n c b0 b1 b2 b3 b4 b5 b6 b7 w hn (hc 0 (by simp)) (hc 1 (by simp)) (hc 2 (by simp)) (hc 3 (by simp)) (hc 4 (by simp)) (hc 5 (by simp)) (hc 6 (by simp)) (hc 7 (by simp))
theorem u64LE' (g o c : Nat) (l : List UInt8) (w : World) (hb : BS w (.slice (some ⟨g, o, none⟩) 8 c) l) :
    Calls Tryz.prog 90 #[.agg #[], .slice (some ⟨g, o, none⟩) 8 c] w fun e w' => e = .returned (.int .u64 (Lib.leNat l)) ∧ Below w.heap.size w w' := by
  have hl : l.length = 8 := hb.slice.1.symm
  obtain ⟨b', o', e, hc⟩ := hb.at_ (by omega)
  injection e with e
  injection e with e1 e2
  subst e1 e2
  exact u64LE _ _ 8 c l w (by omega) hl hc

set_option maxRecDepth 100000 in
set_option maxHeartbeats 1000000 in
theorem secChar_ok (q z base lim nn p h : Nat) (v : Value) (l : List UInt8) (i : Nat) (x0 x1 x2 x3 x4 y5 y6 y7 y8 y9 y10 y11 y12 y13 y14 y15 y16 y17 y18 y19 y20 y21 : Value) (t : TypeId) (w : World) (hr : Sec w q p v l z base lim nn i) (e0 : Addr) (he : ErrAt p w 0 e0) (hh : w.heap[h]? = some (.cells #[x0, x1, x2, x3, x4, y5, y6, y7, y8, y9, y10, y11, y12, y13, y14, y15, y16, y17, y18, y19, y20, y21] t (0, 0))) (hhq : h ≠ q) (hph : p < h) (hi : i + 16 ≤ lim) :
    Calls Tryz.prog 89 #[.pointer (some ⟨h, 0, none⟩), secV q] w fun e w' => e = .returned (.tuple #[.int .i64 16, .nilIface]) ∧ Sec w' q p v l z base lim nn (i + 16) ∧
      w'.heap[h]? = some (.cells #[.int .u64 (leAt l i 0), .int .u64 (leAt l i 1), x2, x3, x4, y5, y6, y7, y8, y9, y10, y11, y12, y13, y14, y15, y16, y17, y18, y19, y20, y21] t (0, 0)) ∧ Keep (fun k => k = q ∨ k = h) w w' := by
  have hqw := block_of_row hr.row
  have hpw : p < w.heap.size := by have := hr.lt; omega
  have hhw := block_of_row hh
  obtain ⟨f1, f2, f3⟩ := hr.fits
  have HE := Lib.hid he
  clear he
  obtain ⟨w1, hmk, hb1, hs1, hrow⟩ := make_bytes (P := Tryz.prog) Tryz.underlying58 info_u8 w 16 (by omega)
  rw [show ((16 : Nat) : Int) = 16 from rfl] at hmk
  have HR := Lib.hid (secFull_ok q z base lim nn p w.heap.size 16 16 v l i _ _ w1 (hr.below hb1) hpw (by omega) e0 (HE.out.below hb1) hrow (by omega) (by rw [List.length_replicate]) hi)
  have HHH := Lib.hid hh
  clear hr hrow hh
  go_enter Tryz.func89, Tryz.ntmps89
  go_wp2_with fail
  refine HR.out.mono ?_
  rintro e w2 ⟨rfl, hr2, hg2, hk2⟩
  go_wp2_with fail
  have hh2 : w2.heap[h]? = some (.cells #[x0, x1, x2, x3, x4, y5, y6, y7, y8, y9, y10, y11, y12, y13, y14, y15, y16, y17, y18, y19, y20, y21] t (0, 0)) := hk2.row (row_below hb1 (block_of_row HHH.out) HHH.out) (fun e => by omega)
  have hlen : ((l.drop i).take 16).length = 16 := by rw [List.length_take, List.length_drop]; omega
  have hbs2 : BS w2 (.slice (some ⟨w.heap.size, 0, none⟩) 16 16) ((l.drop i).take 16) := by have := BS.of_row (c := 16) hg2.out (by omega); rwa [hlen] at this
  have e1 : ((l.drop i).take 16).take 8 = (l.drop (i + 8 * 0)).take 8 := by rw [List.take_take]; rfl
  have e2 : ((l.drop i).take 16).drop 8 = (l.drop (i + 8 * 1)).take 8 := by rw [List.drop_take, List.drop_drop]
  obtain ⟨s1, _, hs1'⟩ := hbs2.to_ (P := Tryz.prog) Tryz.underlying58 info_u8 8 (by omega)
  obtain ⟨s2, hs2'⟩ := hbs2.from_ (P := Tryz.prog) Tryz.underlying58 info_u8 8 (by omega)
  have e3 : cutA (some ⟨w.heap.size, 0, none⟩) 16 8 = some ⟨w.heap.size, 8, none⟩ := by rw [cutA_own _ _ _ _ (by omega)]
  rw [e3] at s2 hs2'
  rw [e1] at hs1'
  rw [e2] at hs2'
  rw [show ((8 : Nat) : Int) = 8 from rfl] at s1 s2
  have hU1 : Hid (Calls Tryz.prog 90 #[.agg #[], .slice (some ⟨w.heap.size, 0, none⟩) 8 16] w2.drew fun e w' => e = .returned (.int .u64 (leAt l i 0)) ∧ Below w2.drew.heap.size w2.drew w') := Lib.hid (u64LE' _ _ 16 _ w2.drew hs1')
  have hh2' : w2.drew.heap[h]? = some (.cells #[x0, x1, x2, x3, x4, y5, y6, y7, y8, y9, y10, y11, y12, y13, y14, y15, y16, y17, y18, y19, y20, y21] t (0, 0)) := hh2
  generalize hN0 : leAt l i 0 = N0 at hU1 ⊢
  clear hbs2 hs1' e1 e3 hlen hg2
  go_region_with (go_at_call 90; refine hU1.out.mono ?_; rintro e w3 ⟨rfl, hb3⟩; have hh3 := row_below hb3 (block_of_row hh2') hh2'; have c0 := (cell_of_row' (cur := [_, _, _, _, _, _, _, _, _, _, _, _, _, _, _, _, _, _, _, _, _, _]) hh3 0); have f0 := (frozen_of_row' (cur := [_, _, _, _, _, _, _, _, _, _, _, _, _, _, _, _, _, _, _, _, _, _]) hh3 0))
  have hlh := block_of_row HHH.out
  have hk3 : Keep (fun k => k = h) w2 (w3.setCell ⟨h, 0, none⟩ (.int .u64 N0)) := Keep.setCell (S := fun k => k = h) ((keep_drew _ w2).trans hb3.keep) (show h = h from rfl) _ _
  have hh4 : (w3.setCell ⟨h, 0, none⟩ (.int .u64 N0)).heap[h]? = some (.cells #[.int .u64 N0, x1, x2, x3, x4, y5, y6, y7, y8, y9, y10, y11, y12, y13, y14, y15, y16, y17, y18, y19, y20, y21] t (0, 0)) := Lib.heap_setCell_same (i := 0) hh3 _
  clear hU1 s1 hh3 c0 f0 hb3 hh2 hh2'
  generalize w3.setCell ⟨h, 0, none⟩ (.int .u64 N0) = w4 at hk3 hh4 ⊢
  have hs4 : BS w4 (.slice (some ⟨w.heap.size, 8, none⟩) (16 - 8) (16 - 8)) ((l.drop (i + 8 * 1)).take 8) :=
    (BSo.keep (S := fun k => k = h) ⟨hs2', fun _ A n c a ea eb => by injection ea with ea; rw [← ea] at eb; injection eb with eb; subst eb; exact fun hh => by have : w.heap.size = h := hh; omega⟩ hk3).bs
  have hU2 : Hid (Calls Tryz.prog 90 #[.agg #[], .slice (some ⟨w.heap.size, 8, none⟩) 8 8] w4.drew fun e w' => e = .returned (.int .u64 (leAt l i 1)) ∧ Below w4.drew.heap.size w4.drew w') := Lib.hid (u64LE' _ _ 8 _ w4.drew hs4)
  have hh4' : w4.drew.heap[h]? = some (.cells #[.int .u64 N0, x1, x2, x3, x4, y5, y6, y7, y8, y9, y10, y11, y12, y13, y14, y15, y16, y17, y18, y19, y20, y21] t (0, 0)) := hh4
  generalize hN1 : leAt l i 1 = N1 at hU2
  clear hs4 hs2' e2
  go_wp2_with fail
  go_region_with (go_at_call 90; refine hU2.out.mono ?_; rintro e w5 ⟨rfl, hb5⟩; have hh5 := row_below hb5 (block_of_row hh4') hh4'; have c0 := (cell_of_row' (cur := [_, _, _, _, _, _, _, _, _, _, _, _, _, _, _, _, _, _, _, _, _, _]) hh5 1); have f0 := (frozen_of_row' (cur := [_, _, _, _, _, _, _, _, _, _, _, _, _, _, _, _, _, _, _, _, _, _]) hh5 1))
  have hk5 : Keep (fun k => k = h) w4 (w5.setCell ⟨h, 1, none⟩ (.int .u64 N1)) := Keep.setCell (S := fun k => k = h) ((keep_drew _ w4).trans hb5.keep) (show h = h from rfl) _ _
  have hh6 : (w5.setCell ⟨h, 1, none⟩ (.int .u64 N1)).heap[h]? = some (.cells #[.int .u64 N0, .int .u64 N1, x2, x3, x4, y5, y6, y7, y8, y9, y10, y11, y12, y13, y14, y15, y16, y17, y18, y19, y20, y21] t (0, 0)) := Lib.heap_setCell_same (i := 1) hh5 _
  generalize w5.setCell ⟨h, 1, none⟩ (.int .u64 N1) = w6 at hk5 hh6 ⊢
  have hk6 := hk3.trans hk5
  go_wp2
  go_ret2
  refine ⟨rfl, hr2.keep hk6 (fun k hk => by omega), ?_, ?_⟩
  · rw [hN0, hN1]; exact hh6
  · exact (hb1.keep.trans2 (T := fun k => k = w.heap.size ∨ k = q) (S := fun k => k = q ∨ k = h) hk2 (fun k hk h => by omega)).trans (hk6.mono fun _ _ h => Or.inr h)

end Go.Proofs.YtglkonccinpdnaaGreatDoor
/- Contracts: a sound header of version 2 is read over a section. (genSr.py) -/
namespace Go.Proofs.YtglkonccinpdnaaGreatDoor
open Go.RowKit

theorem i64_below (n : Nat) (h : n < 9223372036854775808) : wrap64 (n : Int) = n := by unfold wrap64; omega

set_option maxRecDepth 100000 in
set_option maxHeartbeats 1000000 in
theorem secHead_ok (q z base lim nn p h : Nat) (v : Value) (l : List UInt8) (i : Nat) (x0 x1 x2 x3 x4 y5 y6 y7 y8 y9 y10 y11 y12 y13 y14 y15 y16 y17 y18 y19 y20 y21 : Value) (t : TypeId) (w : World) (hr : Sec w q p v l z base lim nn i) (e0 : Addr) (he : ErrAt p w 0 e0) (hh : w.heap[h]? = some (.cells #[x0, x1, x2, x3, x4, y5, y6, y7, y8, y9, y10, y11, y12, y13, y14, y15, y16, y17, y18, y19, y20, y21] t (0, 0))) (hhq : h ≠ q) (hph : p < h) (hok : hdOk l i) (hi : i + 40 ≤ lim) :
    Calls Tryz.prog 78 #[.pointer (some ⟨h, 0, none⟩), secV q] w fun e w' => e = .returned (.tuple #[.int .i64 40, .nilIface]) ∧ Sec w' q p v l z base lim nn (i + 40) ∧
      w'.heap[h]? = some (.cells #[.int .u64 (leAt l i 0), .int .u64 (leAt l i 1), .int .u64 (leAt l i 2), .int .u64 (leAt l i 3), .int .u64 (leAt l i 4), y5, y6, y7, y8, y9, y10, y11, y12, y13, y14, y15, y16, y17, y18, y19, y20, y21] t (0, 0)) ∧ Keep (fun k => k = q ∨ k = h) w w' := by
  have hlh := block_of_row hh
  have hqw := block_of_row hr.row
  have hpq := hr.lt
  obtain ⟨f1, f2, f3⟩ := hr.fits
  have HE := Lib.hid he
  obtain ⟨q0, q1, q2, q3, q4, q5⟩ := hok
  have HR := Lib.hid (secChar_ok q z base lim nn p h v l i x0 x1 x2 x3 x4 y5 y6 y7 y8 y9 y10 y11 y12 y13 y14 y15 y16 y17 y18 y19 y20 y21 t w hr e0 he hh hhq hph (by omega))
  clear hr hh he
  go_enter Tryz.func78, Tryz.ntmps78
  go_wp2_with fail
  refine HR.out.mono ?_
  rintro e w2 ⟨rfl, hr2, hh2, hk2⟩
  obtain ⟨w3, hmk, hb3, hs3, hrow⟩ := make_bytes (P := Tryz.prog) Tryz.underlying58 info_u8 w2 24 (by omega)
  rw [show ((24 : Nat) : Int) = 24 from rfl] at hmk
  have hlp2 := Nat.lt_of_lt_of_le hqw hk2.size
  have hlh2 := Nat.lt_of_lt_of_le hlh hk2.size
  have HR2 := Lib.hid (secFull_ok q z base lim nn p w2.heap.size 24 24 v l (i + 16) _ _ w3 (hr2.below hb3) (by omega) (by omega) e0 ((HE.out.keep hk2 (fun k hk => by omega)).below hb3) hrow (by omega) (by rw [List.length_replicate]) (by omega))
  have HH3 := Lib.hid (row_below hb3 hlh2 hh2)
  clear hr2 hrow HR hh2
  go_wp2_with fail
  refine HR2.out.mono ?_
  rintro e w4 ⟨rfl, hr4, hg4, hk4⟩
  have hh4 : w4.heap[h]? = _ := hk4.row HH3.out (by omega)
  have hlen : ((l.drop (i + 16)).take 24).length = 24 := by rw [List.length_take, List.length_drop]; omega
  have hbs : BS w4 (.slice (some ⟨w2.heap.size, 0, none⟩) 24 24) ((l.drop (i + 16)).take 24) := by have := BS.of_row (c := 24) hg4.out (by omega); rwa [hlen] at this
  have e1 : ((l.drop (i + 16)).take 24).take 8 = (l.drop (i + 8 * 2)).take 8 := by rw [List.take_take]; rfl
  have e2 : ((((l.drop (i + 16)).take 24)).drop 8).take 8 = (l.drop (i + 8 * 3)).take 8 := by rw [List.drop_take, List.drop_drop, List.take_take]; rfl
  have e3 : ((l.drop (i + 16)).take 24).drop 16 = (l.drop (i + 8 * 4)).take 8 := by rw [List.drop_take, List.drop_drop]
  have b1 := (hbs.to_ (P := Tryz.prog) Tryz.underlying58 info_u8 8 (by omega)).2.2
  have b2 := ((hbs.to_ (P := Tryz.prog) Tryz.underlying58 info_u8 16 (by omega)).2.2.from_ (P := Tryz.prog) Tryz.underlying58 info_u8 8 (by omega)).2
  have b3 := (hbs.from_ (P := Tryz.prog) Tryz.underlying58 info_u8 16 (by omega)).2
  rw [cutA_own _ _ _ _ (by omega)] at b2 b3
  have e2' : (((l.drop (i + 16)).take 24).take 16).drop 8 = (l.drop (i + 8 * 3)).take 8 := by rw [List.take_take, List.drop_take, List.drop_drop]; rfl
  rw [e1] at b1
  rw [e2'] at b2
  rw [e3] at b3
  have U1 : ∀ W, Below w4.heap.size w4 W → Hid (Calls Tryz.prog 90 #[.agg #[], .slice (some ⟨w2.heap.size, 0, none⟩) 8 24] W fun e w' => e = .returned (.int .u64 (leAt l i 2)) ∧ Below W.heap.size W w') := fun W hb => Lib.hid (u64LE' _ _ 24 _ W (b1.below hb))
  have U2 : ∀ W, Below w4.heap.size w4 W → Hid (Calls Tryz.prog 90 #[.agg #[], .slice (some ⟨w2.heap.size, 8, none⟩) 8 16] W fun e w' => e = .returned (.int .u64 (leAt l i 3)) ∧ Below W.heap.size W w') := fun W hb => Lib.hid (u64LE' _ _ 16 _ W (b2.below hb))
  have U3 : ∀ W, Below w4.heap.size w4 W → Hid (Calls Tryz.prog 90 #[.agg #[], .slice (some ⟨w2.heap.size, 16, none⟩) 8 8] W fun e w' => e = .returned (.int .u64 (leAt l i 4)) ∧ Below W.heap.size W w') := fun W hb => Lib.hid (u64LE' _ _ 8 _ W (b3.below hb))
  generalize hM2 : leAt l i 2 = M2 at U1 q1 q2
  generalize hM3 : leAt l i 3 = M3 at U2 q3 q4
  generalize hM4 : leAt l i 4 = M4 at U3 q5
  have G2 := Lib.hid hM2
  have G3 := Lib.hid hM3
  have G4 := Lib.hid hM4
  clear hM2 hM3 hM4 q0
  have p2 : (51 : Int) ≤ (M2 : Int) := by omega
  have p3 : (0 : Int) < (M3 : Int) := by omega
  have p4 : (0 : Int) ≤ (M4 : Int) := by omega
  have z2 := i64_below M2 q2
  have z3 := i64_below M3 q4
  have z4 := i64_below M4 q5
  generalize hN2 : (M2 : Int) = N2 at U1 z2 p2
  generalize hN3 : (M3 : Int) = N3 at U2 z3 p3
  generalize hN4 : (M4 : Int) = N4 at U3 z4 p4
  have H2 := Lib.hid hN2
  have H3 := Lib.hid hN3
  have H4 := Lib.hid hN4
  clear hN2 hN3 hN4 q1 q2 q3 q4 q5
  have f0 : Below w4.heap.size w4 w4.drew := below_drewN _ _ 1
  clear b1 b2 b3 hbs hlen e1 e2 e2' e3 hg4 HR2
  go_wp2_with fail
  go_region_with (go_at_call 90; refine (U1 _ f0).out.mono ?_; rintro e w5 ⟨rfl, hb5⟩)
  have f1 : Below w4.heap.size w4 w5 := below_next f0 hb5
  have f2 : Below w4.heap.size w4 w5.drew := f1.drewN 1
  go_wp2_with fail
  go_region_with (go_at_call 90; refine (U2 _ f2).out.mono ?_; rintro e w6 ⟨rfl, hb6⟩)
  have f3 : Below w4.heap.size w4 w6 := below_next f2 hb6
  have f4 : Below w4.heap.size w4 w6.drew := f3.drewN 1
  go_wp2_with fail
  go_region_with (go_at_call 90; refine (U3 _ f4).out.mono ?_; rintro e w7 ⟨rfl, hb7⟩)
  have f5 : Below w4.heap.size w4 w7 := below_next f4 hb7
  have hk7 : Keep (fun k => k = q ∨ k = h) w w7 := hk2.trans2 ((hb3.keep.trans hk4).trans f5.keep) (fun k hk h => by have := hk2.size; omega)
  have hr7 : Sec w7 q p v l z base lim nn (i + 16 + 24) := hr4.below f5
  have hh7 := row_below f5 (block_of_row hh4) hh4
  clear hb5 hb6 hb7 f0 f1 f2 f3 f4 f5 U1 U2 U3 hk4 hr4 hh4 HH3
  have c2 := cell_of_row' (cur := [_, _, _, _, _, _, _, _, _, _, _, _, _, _, _, _, _, _, _, _, _, _]) hh7 2
  have c3 := cell_of_row' (cur := [_, _, _, _, _, _, _, _, _, _, _, _, _, _, _, _, _, _, _, _, _, _]) hh7 3
  have c4 := cell_of_row' (cur := [_, _, _, _, _, _, _, _, _, _, _, _, _, _, _, _, _, _, _, _, _, _]) hh7 4
  have g2 := frozen_of_row' (cur := [_, _, _, _, _, _, _, _, _, _, _, _, _, _, _, _, _, _, _, _, _, _]) hh7 2
  have g3 := frozen_of_row' (cur := [_, _, _, _, _, _, _, _, _, _, _, _, _, _, _, _, _, _, _, _, _, _]) hh7 3
  have g4 := frozen_of_row' (cur := [_, _, _, _, _, _, _, _, _, _, _, _, _, _, _, _, _, _, _, _, _, _]) hh7 4
  have HH7 := Lib.hid hh7
  clear hh7
  go_wp2
  go_ret2
  refine ⟨rfl, ?_, ?_, ?_⟩
  · exact ((hr7.keep (Keep.setCell (S := fun k => k = h) (Keep.setCell (S := fun k => k = h) (Keep.setCell (S := fun k => k = h) (Keep.refl _ w7) (show h = h from rfl) _ _) (show h = h from rfl) _ _) (show h = h from rfl) _ _) (fun k hk => by omega)) :)
  · rw [Lib.heap_setCell_same (i := 4) (Lib.heap_setCell_same (i := 3) (Lib.heap_setCell_same (i := 2) HH7.out _) _) _, G2.out, G3.out, G4.out, H2.out, H3.out, H4.out]; rfl
  · exact ((hk7.setCell (Or.inr rfl) _ _).setCell (Or.inr rfl) _ _).setCell (Or.inr rfl) _ _
end Go.Proofs.YtglkonccinpdnaaGreatDoor
/- Contracts: NewOffsetReadSeeker, NewSectionReader; carv1.ReadHeader and car.ReadVersion of a file that begins with the pragma. -/
namespace Go.Proofs.YtglkonccinpdnaaGreatDoor
open Go.RowKit

set_option maxRecDepth 100000 in
set_option maxHeartbeats 1000000 in
theorem newOrs (p off : Nat) (w : World) :
    Calls Tryz.prog 35 #[rdV p, .int .i64 off] w fun e w' => e = .returned (.tuple #[orsV w.heap.size, .nilIface]) ∧ w' = w.alloc (orsO p off off 0) := by
  have hta : ∀ W, (Instr.typeAssert (rdV p) 81 134 true).run Tryz.prog W = .ok (.tuple #[.pointer none, .bool false]) W := fun W => by kernel_rfl
  go_enter Tryz.func35, Tryz.ntmps35
  go_wp2
  go_ret2
  exact ⟨rfl, rfl⟩

theorem Ors.start {w : World} {p : Nat} {v : Value} {l : List UInt8} {z off : Nat} (h : Rdr w p v l z) (hoff : off ≤ 4611686018427387904) (hl : l.length ≤ 4611686018427387904) : Ors (w.alloc (orsO p off off 0)) w.heap.size p v l z off off := by
  obtain ⟨r, hr⟩ := h.row
  exact ⟨⟨0, heap_alloc_new w _⟩, h.below ((Below.refl _ _).alloc (Nat.le_refl _) _), block_of_row hr, hoff, hl⟩

set_option maxRecDepth 100000 in
set_option maxHeartbeats 1000000 in
theorem newSec (p : Nat) (w : World) :
    Calls Tryz.prog 57 #[rdV p, .int .i64 11, .int .i64 40] w fun e w' => e = .returned (.pointer (some ⟨w.heap.size, 0, none⟩)) ∧ w' = w.alloc (secO p 11 11 51 40) := by
  go_enter Tryz.func57, Tryz.ntmps57
  go_wp2
  go_ret
  exact ⟨rfl, rfl⟩

theorem prag_uv {l : List UInt8} (h : l.take 11 = 10 :: pragB) : uvDec (l.drop 0) = .ok 10 1 := by
  rw [List.drop_zero, ← List.take_append_drop 11 l, h]
  rfl
theorem prag_body {l : List UInt8} (h : l.take 11 = 10 :: pragB) : (l.drop (0 + 1)).take 10 = pragB := by
  rw [← List.take_append_drop 11 l, h]
  rfl
theorem prag_len {l : List UInt8} (h : l.take 11 = 10 :: pragB) : 11 ≤ l.length := by
  have := congrArg List.length h
  rw [List.length_take] at this
  simp at this
  omega

set_option maxRecDepth 100000 in
set_option maxHeartbeats 2000000 in
theorem readHeader_prag (q p : Nat) (v : Value) (l : List UInt8) (z base : Nat) (w : World) (hr : Ors w q p v l z base 0) (hp : l.take 11 = 10 :: pragB) (hl : l.length ≤ 4294967296) (most : Nat) (hm : 10 ≤ most) (e0 e1 : Addr) (t2 t3 : TypeId) (p2 p3 : Value) (he : UvErrs p w e0 e1 (.iface t2 p2) (.iface t3 p3)) :
    Calls Tryz.prog 43 #[orsV q, .int .u64 most] w fun e w' => ∃ (ch : Nat) (rv : Value), e = .returned (.tuple #[.pointer (some ⟨ch, 0, none⟩), .nilIface]) ∧ w.heap.size ≤ ch ∧ w'.heap[ch]? = some (.cells #[rv, .int .u64 2] 119 (0, 0)) ∧ Ors w' q p v l z base 11 ∧ Keep (fun k => k = q) w w' := by
  have hpl := prag_len hp
  have HL := Lib.hid (orsLdRead_ok q z base p v l 0 w hr (Nat.zero_le _) e0 e1 t2 t3 p2 p3 he 10 1 (prag_uv hp) false most hm (by decide) (by omega) (by omega))
  rw [prag_body hp] at HL
  have hqw : q < w.heap.size := by obtain ⟨b, h⟩ := hr.row; exact block_of_row h
  have hpq := hr.lt
  have HE := Lib.hid he
  clear hr he hp
  go_enter Tryz.func43, Tryz.ntmps43
  go_wp2_with fail
  refine HL.out.mono ?_
  rintro e w1 ⟨⟨A, c, rfl, hbs⟩, hr1, hk1⟩
  have hw1 := hk1.size
  have hB2 : Below w1.heap.size w1 (w1.alloc (.cells #[.slice none 0 0, .int .u64 0] 119)) := (Below.refl _ _).alloc (Nat.le_refl _) _
  have hoff : OffBlock (.slice A 10 c) pragB w1.heap.size := by
    intro h0 A' n c' a e1 e2
    injection e1 with e1
    subst e2
    obtain ⟨A2, c2, e3, _, h3⟩ := hbs
    injection e3 with e3
    obtain ⟨b, o, e4, h4⟩ := h3 h0
    have := block_of_cell (h4 0 h0)
    rw [← e3, e1] at e4
    injection e4 with e4
    subst e4
    exact Nat.ne_of_lt this
  have hz := World.size_alloc w1 (.cells #[.slice none 0 0, .int .u64 0] 119)
  have HZ := Lib.hid (zzPragma A c w1.heap.size (.slice none 0 0) 0 (w1.alloc (.cells #[.slice none 0 0, .int .u64 0] 119)) (hbs.below hB2) (heap_alloc_new w1 _) hoff e0 (((HE.out.eof.keep hk1 (fun k hk => by omega)).below hB2).mono (by omega)))
  have HR1 := Lib.hid hr1
  have HK1 := Lib.hid hk1
  have HB2 := Lib.hid hB2
  clear hbs hr1 hk1 hoff HL hB2 hz
  go_wp2_with fail
  refine HZ.out.mono ?_
  rintro e w2 ⟨rfl, hh2, hk2⟩
  have hk : Keep (fun k => k = q) w1 w2 := (HB2.out.keep (S := fun k => k = q)).trans2 (T := fun k => k = w1.heap.size) hk2 (fun i hi e => by omega)
  have hr2 := (HR1.out.below HB2.out).keep hk2 (fun k hk => by omega)
  have HH := Lib.hid hh2
  have HKK := Lib.hid (HK1.out.trans hk)
  have HRR := Lib.hid hr2
  clear hh2 hk2 hk hr2 HZ
  go_wp2
  go_ret2
  exact ⟨_, _, rfl, hw1, HH.out, HRR.out, HKK.out⟩

set_option maxRecDepth 100000 in
set_option maxHeartbeats 2000000 in
theorem readVersion_prag (q p : Nat) (v : Value) (l : List UInt8) (z base : Nat) (vo : Value) (w : World) (ho : OptsAt w w.heap.size vo) (hr : Ors w q p v l z base 0) (hp : l.take 11 = 10 :: pragB) (hl : l.length ≤ 4294967296) (e0 e1 : Addr) (t2 t3 : TypeId) (p2 p3 : Value) (he : UvErrs p w e0 e1 (.iface t2 p2) (.iface t3 p3)) :
    Calls Tryz.prog 26 #[orsV q, vo] w fun e w' => e = .returned (.tuple #[.int .u64 2, .nilIface]) ∧ Ors w' q p v l z base 11 ∧ Keep (fun k => k = q) w w' := by
  have HA := Lib.hid (applyOpts vo w ho)
  have hqw : q < w.heap.size := by obtain ⟨b, h⟩ := hr.row; exact block_of_row h
  have HE := Lib.hid he
  have HR := Lib.hid hr
  have HP := Lib.hid hp
  clear hr he hp ho
  go_enter Tryz.func26, Tryz.ntmps26
  go_wp2_with fail
  refine HA.out.mono ?_
  rintro e w1 ⟨rfl, hb1⟩
  have hB2 := below_next hb1 ((Below.refl _ w1).alloc (Nat.le_refl _) (.cells (optsC 1025 2048) 85))
  have hr2 := heap_alloc_new w1 (.cells (optsC 1025 2048) 85)
  have HC := Lib.hid (readHeader_prag q p v l z base (w1.alloc (.cells (optsC 1025 2048) 85)) (HR.out.below hB2) HP.out hl 33554432 (by omega) e0 e1 t2 t3 p2 p3 (HE.out.keep (S := fun _ => False) hB2.keep (fun _ h => h.elim)))
  have HB := Lib.hid hB2
  clear hb1 hB2 hr2 HA
  go_wp2_with fail
  refine HC.out.mono ?_
  rintro e w2 ⟨ch, rv, rfl, hch, hh2, hr3, hk3⟩
  have c1 := cell_of_row' (cur := [_, _]) hh2 1
  have HR3 := Lib.hid hr3
  have HK3 := Lib.hid (HB.out.keep.trans hk3)
  clear hch hh2 hr3 hk3 HC
  go_wp2
  go_ret2
  exact ⟨rfl, HR3.out, HK3.out⟩
end Go.Proofs.YtglkonccinpdnaaGreatDoor
