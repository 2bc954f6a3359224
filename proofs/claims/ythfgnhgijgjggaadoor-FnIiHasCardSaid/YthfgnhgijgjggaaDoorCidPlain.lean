/- The plain law of identifiers: how one is written, how it is read of bytes. No program in sight. -/
import Derived.Test.YthfgnhgijgjggaaDoorMhPlain
namespace Go.Proofs.YthfgnhgijgjggaaDoor
open Go.RowKit

/-- An identifier: version, codec, code, digest. -/
structure CidD where
  ver : Nat
  codec : Nat
  code : Nat
  dig : List UInt8

/-- Its bytes. -/
def cidEnc (c : CidD) : List UInt8 := if c.ver = 0 then mhEnc c.code c.dig else 1 :: (Lib.uvarint c.codec ++ mhEnc c.code c.dig)

/-- spec.Tidy. -/
def CidD.tidy (c : CidD) : Prop := (c.ver = 0 ∧ c.codec = 112 ∧ c.code = 18 ∧ c.dig.length = 32) ∨ (c.ver = 1 ∧ c.codec < 9223372036854775808 ∧ c.code < 9223372036854775808)

/-- Do the bytes begin as those of version 0? -/
def cidZero (l : List UInt8) : Prop := 2 < l.length ∧ l[0]? = some 18 ∧ l[1]? = some 32
instance (l : List UInt8) : Decidable (cidZero l) := by unfold cidZero; exact inferInstance

/-- Reading an identifier of the beginning of bytes, and how many bytes it has. -/
def cidRd (l : List UInt8) : Option (CidD × Nat) :=
  if cidZero l then (if l.length < 34 then none else some (⟨0, 112, 18, (l.drop 2).take 32⟩, 34)) else
  match uvDec l with
  | .ok v n => if v = 1 then
      (match uvDec (l.drop n) with
      | .ok codec m =>
        (match mhRd ((l.drop n).drop m) with
        | some (r, code, d) => some (⟨1, codec, code, d⟩, n + m + r)
        | none => none)
      | _ => none) else none
  | _ => none

theorem uvarint18 : Lib.uvarint 18 = [18] := Lib.uvarint_small (by omega)
theorem uvarint32 : Lib.uvarint 32 = [32] := Lib.uvarint_small (by omega)
theorem uvarint1 : Lib.uvarint 1 = [1] := Lib.uvarint_small (by omega)

theorem uvDec_not_ok {l : List UInt8} (h : (uvDec l).no) (x m : Nat) : uvDec l ≠ .ok x m := by
  intro e; rw [e] at h; exact h

theorem uvDec_one (l : List UInt8) : uvDec (1 :: l) = .ok 1 1 := by
  have := uvDec_back 1 (by omega) l
  rw [uvarint1] at this
  exact this

theorem not_zero_one (l : List UInt8) : ¬ cidZero (1 :: l) := by
  intro ⟨_, h, _⟩
  simp at h

theorem mhEnc_18 (d : List UInt8) (hd : d.length = 32) : mhEnc 18 d = 18 :: 32 :: d := by
  unfold mhEnc; rw [hd, uvarint18, uvarint32]; rfl

/-- What is written is read, whatever stands behind it. -/
theorem cidRd_enc (c : CidD) (more : List UInt8) (ht : c.tidy) (hd : c.dig.length ≤ 2147483647) : cidRd (cidEnc c ++ more) = some (c, (cidEnc c).length) := by
  obtain ⟨v, codec, code, d⟩ := c
  rcases ht with ⟨h0, h1, h2, h3⟩ | ⟨h0, h1, h2⟩
  · simp only at h0 h1 h2 h3 hd
    subst h0 h1 h2
    have e : cidEnc ⟨0, 112, 18, d⟩ = 18 :: 32 :: d := by unfold cidEnc; rw [if_pos rfl]; exact mhEnc_18 d h3
    rw [e]
    unfold cidRd
    have hz : cidZero (18 :: 32 :: d ++ more) := ⟨by simp [h3]; omega, rfl, rfl⟩
    rw [if_pos hz, if_neg (by simp [h3])]
    simp [h3, List.take_left']
  · simp only at h0 h1 h2 hd
    subst h0
    have e : cidEnc ⟨1, codec, code, d⟩ = 1 :: (Lib.uvarint codec ++ mhEnc code d) := by unfold cidEnc; rw [if_neg (show ¬ (1 : Nat) = 0 by decide)]
    rw [e]
    unfold cidRd
    rw [List.cons_append, if_neg (not_zero_one _), uvDec_one]
    dsimp only
    rw [if_pos rfl, List.drop_succ_cons, List.drop_zero, List.append_assoc, uvDec_back codec h1]
    dsimp only
    rw [List.drop_left, mhRd_enc code d more h2 hd]
    simp [Nat.add_comm, Nat.add_assoc]

theorem cidRd_enc0 (c : CidD) (ht : c.tidy) (hd : c.dig.length ≤ 2147483647) : cidRd (cidEnc c) = some (c, (cidEnc c).length) := by
  have := cidRd_enc c [] ht hd
  rwa [List.append_nil] at this

/-- The bytes of which a multihash is read are those with which it is written. -/
theorem mhRd_take {l : List UInt8} {r code : Nat} {d : List UInt8} (h : mhRd l = some (r, code, d)) : r ≤ l.length ∧ l.take r = mhEnc code d ∧ d.length ≤ 2147483647 ∧ code < 9223372036854775808 := by
  obtain ⟨h2, m1, x2, m2, e1, e2, hx, hx2, rfl, rfl⟩ := mhRd_some h
  obtain ⟨g1, g2, g3, _, g5⟩ := uvDec_ok e1
  obtain ⟨k1, k2, k3, _, k5⟩ := uvDec_ok e2
  have hc := uvDec_lt63 e1
  have hl2 : ((l.drop m1).drop m2).length = l.length - m1 - m2 := by rw [List.length_drop, List.length_drop]
  have hlen : (((l.drop m1).drop m2).take x2).length = x2 := by rw [List.length_take]; omega
  have hl1 : (l.drop m1).length = l.length - m1 := by simp
  refine ⟨by omega, ?_, by omega, hc⟩
  unfold mhEnc
  rw [hlen, ← g5, ← k5]
  rw [show m1 + m2 + x2 = m1 + (m2 + x2) by omega, List.take_add, List.take_add]

theorem cidRd_some {l : List UInt8} {c : CidD} {n : Nat} (h : cidRd l = some (c, n)) :
    (cidZero l ∧ 34 ≤ l.length ∧ n = 34 ∧ c = ⟨0, 112, 18, (l.drop 2).take 32⟩) ∨
    (¬ cidZero l ∧ uvDec l = .ok 1 1 ∧ ∃ m r, uvDec (l.drop 1) = .ok c.codec m ∧ mhRd ((l.drop 1).drop m) = some (r, c.code, c.dig) ∧ n = 1 + m + r ∧ c.ver = 1) := by
  unfold cidRd at h
  by_cases hz : cidZero l
  · rw [if_pos hz] at h
    by_cases h34 : l.length < 34
    · rw [if_pos h34] at h; cases h
    · rw [if_neg h34] at h
      injection h with h
      injection h with h1 h2
      exact .inl ⟨hz, by omega, h2.symm, h1.symm⟩
  · rw [if_neg hz] at h
    refine .inr ⟨hz, ?_⟩
    rcases uvR_cases (uvDec l) with ⟨v, k, e1⟩ | hno
    · rw [e1] at h
      dsimp only at h
      by_cases hv : v = 1
      · subst hv
        rw [if_pos rfl] at h
        have hk : k = 1 := by
          obtain ⟨g1, g2, _, _, g5⟩ := uvDec_ok e1
          have := congrArg List.length g5
          rw [uvarint1, List.length_take] at this
          simp at this
          omega
        subst hk
        refine ⟨e1, ?_⟩
        rcases uvR_cases (uvDec (l.drop 1)) with ⟨codec, m, e2⟩ | hno
        · rw [e2] at h
          dsimp only at h
          cases e3 : mhRd ((l.drop 1).drop m) with
          | none => rw [e3] at h; cases h
          | some x =>
            obtain ⟨r, code, d⟩ := x
            rw [e3] at h
            dsimp only at h
            injection h with h
            injection h with h1 h2
            subst h1
            exact ⟨m, r, e2, e3, h2.symm, rfl⟩
        · exfalso
          cases hh : uvDec (l.drop 1) with
          | ok => rw [hh] at hno; exact hno
          | _ => rw [hh] at h; cases h
      · rw [if_neg hv] at h; cases h
    · exfalso
      cases hh : uvDec l with
      | ok => rw [hh] at hno; exact hno
      | _ => rw [hh] at h; cases h

theorem cidRd_none {l : List UInt8} (h : cidRd l = none) :
    (cidZero l ∧ l.length < 34) ∨ (¬ cidZero l ∧ ((uvDec l).no ∨ (∃ v n, uvDec l = .ok v n ∧ v ≠ 1) ∨ (uvDec l = .ok 1 1 ∧ ((uvDec (l.drop 1)).no ∨ ∃ codec m, uvDec (l.drop 1) = .ok codec m ∧ mhRd ((l.drop 1).drop m) = none)))) := by
  unfold cidRd at h
  by_cases hz : cidZero l
  · rw [if_pos hz] at h
    by_cases h34 : l.length < 34
    · exact .inl ⟨hz, h34⟩
    · rw [if_neg h34] at h; cases h
  · rw [if_neg hz] at h
    refine .inr ⟨hz, ?_⟩
    rcases uvR_cases (uvDec l) with ⟨v, k, e1⟩ | hno
    · rw [e1] at h
      dsimp only at h
      by_cases hv : v = 1
      · subst hv
        rw [if_pos rfl] at h
        have hk : k = 1 := by
          obtain ⟨g1, g2, _, _, g5⟩ := uvDec_ok e1
          have := congrArg List.length g5
          rw [uvarint1, List.length_take] at this
          simp at this
          omega
        subst hk
        refine .inr (.inr ⟨e1, ?_⟩)
        rcases uvR_cases (uvDec (l.drop 1)) with ⟨codec, m, e2⟩ | hno
        · rw [e2] at h
          dsimp only at h
          cases e3 : mhRd ((l.drop 1).drop m) with
          | none => exact .inr ⟨codec, m, e2, e3⟩
          | some x =>
            obtain ⟨r, code, d⟩ := x
            rw [e3] at h
            cases h
        · exact .inl hno
      · exact .inr (.inl ⟨v, k, e1, hv⟩)
    · exact .inl hno

/-- The bytes of which an identifier is read are those with which it is written; it is tidy. -/
theorem cidRd_take {l : List UInt8} {c : CidD} {n : Nat} (h : cidRd l = some (c, n)) : n ≤ l.length ∧ l.take n = cidEnc c ∧ c.tidy ∧ c.dig.length ≤ 2147483647 := by
  rcases cidRd_some h with ⟨⟨hz, z0, z1⟩, h34, rfl, rfl⟩ | ⟨hz, e1, m, r, e2, e3, rfl, hv⟩
  · have hd : ((l.drop 2).take 32).length = 32 := by rw [List.length_take, List.length_drop]; omega
    refine ⟨h34, ?_, .inl ⟨rfl, rfl, rfl, hd⟩, by show ((l.drop 2).take 32).length ≤ _; omega⟩
    show _ = mhEnc 18 _
    rw [mhEnc_18 _ hd]
    match l, z0, z1 with
    | a :: b :: t, z0, z1 =>
      simp only [List.getElem?_cons_zero, Option.some.injEq] at z0
      simp only [List.getElem?_cons_succ, List.getElem?_cons_zero, Option.some.injEq] at z1
      subst z0 z1
      rfl
  · obtain ⟨v, codec, code, d⟩ := c
    simp only at hv e2 e3 ⊢
    subst hv
    obtain ⟨q1, q2, q3, q4⟩ := mhRd_take e3
    obtain ⟨g1, g2, g3, _, g5⟩ := uvDec_ok e1
    obtain ⟨k1, k2, k3, _, k5⟩ := uvDec_ok e2
    have hc := uvDec_lt63 e2
    have l1 : (l.drop 1).length = l.length - 1 := by simp
    have l2 : ((l.drop 1).drop m).length = l.length - 1 - m := by rw [List.length_drop, List.length_drop]
    refine ⟨by omega, ?_, .inr ⟨rfl, hc, q4⟩, q3⟩
    unfold cidEnc
    rw [if_neg (show ¬ (1 : Nat) = 0 by decide)]
    simp only
    rw [← q2, ← k5, show 1 + m + r = 1 + (m + r) by omega, List.take_add, List.take_add, g5, uvarint1]
    rfl

/-- Two tidy identifiers with the same bytes are one. -/
theorem cidEnc_inj {a b : CidD} (ha : a.tidy) (hb : b.tidy) (la : a.dig.length ≤ 2147483647) (lb : b.dig.length ≤ 2147483647) (h : cidEnc a = cidEnc b) : a = b := by
  have h1 := cidRd_enc0 a ha la
  have h2 := cidRd_enc0 b hb lb
  rw [h, h2] at h1
  injection h1 with h1
  injection h1 with h1 _
  exact h1.symm

theorem mhEnc_len_le (code : Nat) (d : List UInt8) (hc : code < 18446744073709551616) (hd : d.length < 18446744073709551616) : 2 ≤ (mhEnc code d).length ∧ (mhEnc code d).length ≤ 20 + d.length := by
  unfold mhEnc
  have h1 := Lib.uvarint_length64 hc
  have h2 := Lib.uvarint_length64 hd
  have h3 := Lib.uvarint_pos code
  have h4 := Lib.uvarint_pos d.length
  simp only [List.length_append]
  omega

theorem cidEnc_length_le (c : CidD) (ht : c.tidy) (hd : c.dig.length ≤ 2147483647) : 2 ≤ (cidEnc c).length ∧ (cidEnc c).length ≤ 31 + c.dig.length := by
  obtain ⟨v, codec, code, d⟩ := c
  have hcode : code < 18446744073709551616 := by rcases ht with ⟨_, _, h, _⟩ | ⟨_, _, h⟩ <;> simp only at h <;> omega
  have hcodec : codec < 18446744073709551616 := by rcases ht with ⟨_, h, _, _⟩ | ⟨_, h, _⟩ <;> simp only at h <;> omega
  simp only at hd ⊢
  obtain ⟨h1, h2⟩ := mhEnc_len_le code d hcode (by omega)
  have h3 := Lib.uvarint_length64 hcodec
  unfold cidEnc
  simp only
  by_cases h : v = 0
  · rw [if_pos h]; omega
  · rw [if_neg h]; simp only [List.length_cons, List.length_append]; omega

theorem mhEnc_len (code : Nat) (d : List UInt8) : d.length ≤ (mhEnc code d).length := by
  unfold mhEnc; simp only [List.length_append]; omega
theorem cidRd_dig {l : List UInt8} {x : CidD} {k : Nat} (h : cidRd l = some (x, k)) : x.dig.length ≤ k ∧ k ≤ l.length := by
  obtain ⟨h1, h2, _, _⟩ := cidRd_take h
  have := congrArg List.length h2
  rw [List.length_take, Nat.min_eq_left h1] at this
  have hm := mhEnc_len x.code x.dig
  refine ⟨?_, h1⟩
  rw [this]
  unfold cidEnc
  by_cases hz : x.ver = 0
  · rw [if_pos hz]; exact hm
  · rw [if_neg hz]; simp only [List.length_cons, List.length_append]; omega
end Go.Proofs.YthfgnhgijgjggaaDoor
