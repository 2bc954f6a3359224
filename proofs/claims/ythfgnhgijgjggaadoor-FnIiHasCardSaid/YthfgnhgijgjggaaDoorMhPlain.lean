/- The plain law of multihashes: how one is read of bytes, how it is written. No program in sight. -/
import Derived.Test.YthfgnhgijgjggaaDoorUvPlain
namespace Go.Proofs.YthfgnhgijgjggaaDoor
open Go.RowKit

/-- Reading a multihash of the beginning of bytes: how many bytes it has, its code, its digest. -/
def mhRd (l : List UInt8) : Option (Nat × Nat × List UInt8) :=
  if l.length < 2 then none else
  match uvDec l with
  | .ok code n =>
    match uvDec (l.drop n) with
    | .ok len m => if 2147483647 < len ∨ ((l.drop n).drop m).length < len then none else some (n + m + len, code, ((l.drop n).drop m).take len)
    | _ => none
  | _ => none

/-- How a multihash is written. -/
def mhEnc (code : Nat) (d : List UInt8) : List UInt8 := Lib.uvarint code ++ (Lib.uvarint d.length ++ d)

/-- A number below 2^63 that is written is read, whatever stands behind it. -/
theorem uvGo_back : ∀ (f k X y : Nat) (more : List UInt8), k + f = 9 → X < 2 ^ (7 * k) → y < 2 ^ (7 * f) → (0 < k → 0 < y) → 0 < f →
    uvGo k X (Lib.uvarint y ++ more) = .ok (X + y * 2 ^ (7 * k)) (k + (Lib.uvarint y).length)
  | 0, _, _, _, _, _, _, _, _, h => by omega
  | f + 1, k, X, y, more, hkf, hX, hy, hpos, _ => by
    by_cases h : y < 128
    · have hb : y.toUInt8.toNat = y := by simp; omega
      rw [Lib.uvarint_small h]
      show uvGo k X (y.toUInt8 :: more) = _
      unfold uvGo
      rw [hb, if_neg (by omega), if_pos h, if_neg (by intro ⟨h1, h2⟩; have := hpos h2; omega)]
      simp
    · have hb : (y % 128 + 128).toUInt8.toNat = y % 128 + 128 := by simp; omega
      rw [Lib.uvarint_big (by omega), List.cons_append]
      have hf : 0 < f := by
        rcases Nat.eq_zero_or_pos f with h0 | h0
        · subst h0; simp at hy; omega
        · exact h0
      unfold uvGo
      rw [hb, if_neg (by omega), if_neg (by omega)]
      have hlt := uv_step_lt k X ((y % 128 + 128) % 128) hX (by omega)
      have e1 : (y % 128 + 128) % 128 = y % 128 := by omega
      have hp : 2 ^ (7 * (f + 1)) = 2 ^ (7 * f) * 128 := by rw [Nat.mul_add, Nat.pow_add]
      have hpk : 2 ^ (7 * (k + 1)) = 2 ^ (7 * k) * 128 := by rw [Nat.mul_add, Nat.pow_add]
      rw [uvGo_back f (k + 1) _ (y / 128) more (by omega) hlt (by rw [hp] at hy; omega) (by omega) hf, e1, hpk]
      congr 1
      · have : y = y / 128 * 128 + y % 128 := by omega
        have e2 : y * 2 ^ (7 * k) = y / 128 * (2 ^ (7 * k) * 128) + y % 128 * 2 ^ (7 * k) := by
          conv => lhs; rw [this]
          rw [Nat.add_mul, Nat.mul_assoc, Nat.mul_comm 128]
        omega
      · simp; omega

theorem uvDec_back (x : Nat) (hx : x < 9223372036854775808) (more : List UInt8) : uvDec (Lib.uvarint x ++ more) = .ok x (Lib.uvarint x).length := by
  have := uvGo_back 9 0 0 x more rfl (by decide) (by simpa using hx) (by omega) (by decide)
  simpa [uvDec] using this

theorem mhRd_enc (code : Nat) (d more : List UInt8) (hc : code < 9223372036854775808) (hd : d.length ≤ 2147483647) :
    mhRd (mhEnc code d ++ more) = some ((mhEnc code d).length, code, d) := by
  have h1 := Lib.uvarint_pos code
  have h2 := Lib.uvarint_pos d.length
  unfold mhRd mhEnc
  have e0 : Lib.uvarint code ++ (Lib.uvarint d.length ++ d) ++ more = Lib.uvarint code ++ (Lib.uvarint d.length ++ (d ++ more)) := by simp
  rw [e0, uvDec_back code hc]
  simp only [List.drop_left]
  rw [uvDec_back d.length (by omega)]
  simp only [List.drop_left, List.take_left]
  rw [if_neg (by simp; omega), if_neg (by simp; omega)]
  simp [Nat.add_assoc]

theorem uvR_cases (r : UvR) : (∃ x m, r = .ok x m) ∨ r.no := by
  cases r with
  | ok x m => exact .inl ⟨x, m, rfl⟩
  | _ => exact .inr trivial

theorem mhRd_some {l : List UInt8} {r code : Nat} {d : List UInt8} (h : mhRd l = some (r, code, d)) :
    2 ≤ l.length ∧ ∃ m1 x2 m2, uvDec l = .ok code m1 ∧ uvDec (l.drop m1) = .ok x2 m2 ∧ x2 ≤ 2147483647 ∧ x2 ≤ ((l.drop m1).drop m2).length ∧ r = m1 + m2 + x2 ∧ d = ((l.drop m1).drop m2).take x2 := by
  unfold mhRd at h
  by_cases h2 : l.length < 2
  · rw [if_pos h2] at h; cases h
  rw [if_neg h2] at h
  refine ⟨by omega, ?_⟩
  rcases uvR_cases (uvDec l) with ⟨x1, m1, e1⟩ | hno
  · rw [e1] at h
    dsimp only at h
    rcases uvR_cases (uvDec (l.drop m1)) with ⟨x2, m2, e2⟩ | hno
    · rw [e2] at h
      dsimp only at h
      by_cases h3 : 2147483647 < x2 ∨ ((l.drop m1).drop m2).length < x2
      · rw [if_pos h3] at h; cases h
      rw [if_neg h3] at h
      simp only [Option.some.injEq, Prod.mk.injEq] at h
      obtain ⟨rfl, rfl, rfl⟩ := h
      exact ⟨m1, x2, m2, e1, e2, by omega, by omega, rfl, rfl⟩
    · cases hh : uvDec (l.drop m1) with
      | ok => rw [hh] at hno; exact False.elim hno
      | _ => rw [hh] at h; cases h
  · cases hh : uvDec l with
    | ok => rw [hh] at hno; exact False.elim hno
    | _ => rw [hh] at h; cases h

theorem mhRd_none {l : List UInt8} (h : mhRd l = none) : l.length < 2 ∨ (2 ≤ l.length ∧ ((uvDec l).no ∨ ∃ x1 m1, uvDec l = .ok x1 m1 ∧
    ((uvDec (l.drop m1)).no ∨ ∃ x2 m2, uvDec (l.drop m1) = .ok x2 m2 ∧ (2147483647 < x2 ∨ (x2 ≤ 2147483647 ∧ ((l.drop m1).drop m2).length < x2))))) := by
  by_cases h2 : l.length < 2
  · exact .inl h2
  refine .inr ⟨by omega, ?_⟩
  unfold mhRd at h
  rw [if_neg h2] at h
  rcases uvR_cases (uvDec l) with ⟨x1, m1, e1⟩ | hno
  · refine .inr ⟨x1, m1, e1, ?_⟩
    rw [e1] at h
    dsimp only at h
    rcases uvR_cases (uvDec (l.drop m1)) with ⟨x2, m2, e2⟩ | hno
    · refine .inr ⟨x2, m2, e2, ?_⟩
      rw [e2] at h
      dsimp only at h
      by_cases h3 : 2147483647 < x2 ∨ ((l.drop m1).drop m2).length < x2
      · omega
      · rw [if_neg h3] at h; cases h
    · exact .inl hno
  · exact .inl hno
end Go.Proofs.YthfgnhgijgjggaaDoor
