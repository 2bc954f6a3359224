/- Contracts, joined (CidPlain MhC CdC CdD CdE CdF CdG CdH CdA). -/
import Derived.Test.YthfgnhgijgjggaaDoorJSh1
import Derived.Test.YthfgnhgijgjggaaDoorJSh2
import Derived.Lib.BufferWrite
import Derived.WalkLawsBesides
import Derived.Defers
import Derived.Recover
import Derived.Deep.RegionHeld3
/- The plain law of identifiers: how one is written, how it is read of bytes. No program in sight. -/
namespace Go.Proofs.YthfgnhgijgjggaaDoor
open Go.RowKit

/-- An identifier: version, codec, code, digest. -/
structure CidD where
  ver : Nat
  codec : Nat
  code : Nat
  dig : List UInt8

/-- Its bytes. -/
def cidEnc (c : CidD) : List UInt8 := if c.ver = 0 then mhEnc c.code c.dig else 1 :: (Lib.uvarint c.codec ++ mhEnc c.code c.dig)

/-- spec.Tidy. -/
def CidD.tidy (c : CidD) : Prop := (c.ver = 0 ∧ c.codec = 112 ∧ c.code = 18 ∧ c.dig.length = 32) ∨ (c.ver = 1 ∧ c.codec < 9223372036854775808 ∧ c.code < 9223372036854775808)

/-- Do the bytes begin as those of version 0? -/
def cidZero (l : List UInt8) : Prop := 2 < l.length ∧ l[0]? = some 18 ∧ l[1]? = some 32
instance (l : List UInt8) : Decidable (cidZero l) := by unfold cidZero; exact inferInstance

/-- Reading an identifier of the beginning of bytes, and how many bytes it has. -/
def cidRd (l : List UInt8) : Option (CidD × Nat) :=
  if cidZero l then (if l.length < 34 then none else some (⟨0, 112, 18, (l.drop 2).take 32⟩, 34)) else
  match uvDec l with
  | .ok v n => if v = 1 then
      (match uvDec (l.drop n) with
      | .ok codec m =>
        (match mhRd ((l.drop n).drop m) with
        | some (r, code, d) => some (⟨1, codec, code, d⟩, n + m + r)
        | none => none)
      | _ => none) else none
  | _ => none

theorem uvarint18 : Lib.uvarint 18 = [18] := Lib.uvarint_small (by omega)
theorem uvarint32 : Lib.uvarint 32 = [32] := Lib.uvarint_small (by omega)
theorem uvarint1 : Lib.uvarint 1 = [1] := Lib.uvarint_small (by omega)

theorem uvDec_not_ok {l : List UInt8} (h : (uvDec l).no) (x m : Nat) : uvDec l ≠ .ok x m := by
  intro e; rw [e] at h; exact h

theorem uvDec_one (l : List UInt8) : uvDec (1 :: l) = .ok 1 1 := by
  have := uvDec_back 1 (by omega) l
  rw [uvarint1] at this
  exact this

theorem not_zero_one (l : List UInt8) : ¬ cidZero (1 :: l) := by
  intro ⟨_, h, _⟩
  simp at h

theorem mhEnc_18 (d : List UInt8) (hd : d.length = 32) : mhEnc 18 d = 18 :: 32 :: d := by
  unfold mhEnc; rw [hd, uvarint18, uvarint32]; rfl

/-- What is written is read, whatever stands behind it. -/
theorem cidRd_enc (c : CidD) (more : List UInt8) (ht : c.tidy) (hd : c.dig.length ≤ 2147483647) : cidRd (cidEnc c ++ more) = some (c, (cidEnc c).length) := by
  obtain ⟨v, codec, code, d⟩ := c
  rcases ht with ⟨h0, h1, h2, h3⟩ | ⟨h0, h1, h2⟩
  · simp only at h0 h1 h2 h3 hd
    subst h0 h1 h2
    have e : cidEnc ⟨0, 112, 18, d⟩ = 18 :: 32 :: d := by unfold cidEnc; rw [if_pos rfl]; exact mhEnc_18 d h3
    rw [e]
    unfold cidRd
    have hz : cidZero (18 :: 32 :: d ++ more) := ⟨by simp [h3]; omega, rfl, rfl⟩
    rw [if_pos hz, if_neg (by simp [h3])]
    simp [h3, List.take_left']
  · simp only at h0 h1 h2 hd
    subst h0
    have e : cidEnc ⟨1, codec, code, d⟩ = 1 :: (Lib.uvarint codec ++ mhEnc code d) := by unfold cidEnc; rw [if_neg (show ¬ (1 : Nat) = 0 by decide)]
    rw [e]
    unfold cidRd
    rw [List.cons_append, if_neg (not_zero_one _), uvDec_one]
    dsimp only
    rw [if_pos rfl, List.drop_succ_cons, List.drop_zero, List.append_assoc, uvDec_back codec h1]
    dsimp only
    rw [List.drop_left, mhRd_enc code d more h2 hd]
    simp [Nat.add_comm, Nat.add_assoc]

theorem cidRd_enc0 (c : CidD) (ht : c.tidy) (hd : c.dig.length ≤ 2147483647) : cidRd (cidEnc c) = some (c, (cidEnc c).length) := by
  have := cidRd_enc c [] ht hd
  rwa [List.append_nil] at this

/-- The bytes of which a multihash is read are those with which it is written. -/
theorem mhRd_take {l : List UInt8} {r code : Nat} {d : List UInt8} (h : mhRd l = some (r, code, d)) : r ≤ l.length ∧ l.take r = mhEnc code d ∧ d.length ≤ 2147483647 ∧ code < 9223372036854775808 := by
  obtain ⟨h2, m1, x2, m2, e1, e2, hx, hx2, rfl, rfl⟩ := mhRd_some h
  obtain ⟨g1, g2, g3, _, g5⟩ := uvDec_ok e1
  obtain ⟨k1, k2, k3, _, k5⟩ := uvDec_ok e2
  have hc := uvDec_lt63 e1
  have hl2 : ((l.drop m1).drop m2).length = l.length - m1 - m2 := by rw [List.length_drop, List.length_drop]
  have hlen : (((l.drop m1).drop m2).take x2).length = x2 := by rw [List.length_take]; omega
  have hl1 : (l.drop m1).length = l.length - m1 := by simp
  refine ⟨by omega, ?_, by omega, hc⟩
  unfold mhEnc
  rw [hlen, ← g5, ← k5]
  rw [show m1 + m2 + x2 = m1 + (m2 + x2) by omega, List.take_add, List.take_add]

theorem cidRd_some {l : List UInt8} {c : CidD} {n : Nat} (h : cidRd l = some (c, n)) :
    (cidZero l ∧ 34 ≤ l.length ∧ n = 34 ∧ c = ⟨0, 112, 18, (l.drop 2).take 32⟩) ∨
    (¬ cidZero l ∧ uvDec l = .ok 1 1 ∧ ∃ m r, uvDec (l.drop 1) = .ok c.codec m ∧ mhRd ((l.drop 1).drop m) = some (r, c.code, c.dig) ∧ n = 1 + m + r ∧ c.ver = 1) := by
  unfold cidRd at h
  by_cases hz : cidZero l
  · rw [if_pos hz] at h
    by_cases h34 : l.length < 34
    · rw [if_pos h34] at h; cases h
    · rw [if_neg h34] at h
      injection h with h
      injection h with h1 h2
      exact .inl ⟨hz, by omega, h2.symm, h1.symm⟩
  · rw [if_neg hz] at h
    refine .inr ⟨hz, ?_⟩
    rcases uvR_cases (uvDec l) with ⟨v, k, e1⟩ | hno
    · rw [e1] at h
      dsimp only at h
      by_cases hv : v = 1
      · subst hv
        rw [if_pos rfl] at h
        have hk : k = 1 := by
          obtain ⟨g1, g2, _, _, g5⟩ := uvDec_ok e1
          have := congrArg List.length g5
          rw [uvarint1, List.length_take] at this
          simp at this
          omega
        subst hk
        refine ⟨e1, ?_⟩
        rcases uvR_cases (uvDec (l.drop 1)) with ⟨codec, m, e2⟩ | hno
        · rw [e2] at h
          dsimp only at h
          cases e3 : mhRd ((l.drop 1).drop m) with
          | none => rw [e3] at h; cases h
          | some x =>
            obtain ⟨r, code, d⟩ := x
            rw [e3] at h
            dsimp only at h
            injection h with h
            injection h with h1 h2
            subst h1
            exact ⟨m, r, e2, e3, h2.symm, rfl⟩
        · exfalso
          cases hh : uvDec (l.drop 1) with
          | ok => rw [hh] at hno; exact hno
          | _ => rw [hh] at h; cases h
      · rw [if_neg hv] at h; cases h
    · exfalso
      cases hh : uvDec l with
      | ok => rw [hh] at hno; exact hno
      | _ => rw [hh] at h; cases h

theorem cidRd_none {l : List UInt8} (h : cidRd l = none) :
    (cidZero l ∧ l.length < 34) ∨ (¬ cidZero l ∧ ((uvDec l).no ∨ (∃ v n, uvDec l = .ok v n ∧ v ≠ 1) ∨ (uvDec l = .ok 1 1 ∧ ((uvDec (l.drop 1)).no ∨ ∃ codec m, uvDec (l.drop 1) = .ok codec m ∧ mhRd ((l.drop 1).drop m) = none)))) := by
  unfold cidRd at h
  by_cases hz : cidZero l
  · rw [if_pos hz] at h
    by_cases h34 : l.length < 34
    · exact .inl ⟨hz, h34⟩
    · rw [if_neg h34] at h; cases h
  · rw [if_neg hz] at h
    refine .inr ⟨hz, ?_⟩
    rcases uvR_cases (uvDec l) with ⟨v, k, e1⟩ | hno
    · rw [e1] at h
      dsimp only at h
      by_cases hv : v = 1
      · subst hv
        rw [if_pos rfl] at h
        have hk : k = 1 := by
          obtain ⟨g1, g2, _, _, g5⟩ := uvDec_ok e1
          have := congrArg List.length g5
          rw [uvarint1, List.length_take] at this
          simp at this
          omega
        subst hk
        refine .inr (.inr ⟨e1, ?_⟩)
        rcases uvR_cases (uvDec (l.drop 1)) with ⟨codec, m, e2⟩ | hno
        · rw [e2] at h
          dsimp only at h
          cases e3 : mhRd ((l.drop 1).drop m) with
          | none => exact .inr ⟨codec, m, e2, e3⟩
          | some x =>
            obtain ⟨r, code, d⟩ := x
            rw [e3] at h
            cases h
        · exact .inl hno
      · exact .inr (.inl ⟨v, k, e1, hv⟩)
    · exact .inl hno

/-- The bytes of which an identifier is read are those with which it is written; it is tidy. -/
theorem cidRd_take {l : List UInt8} {c : CidD} {n : Nat} (h : cidRd l = some (c, n)) : n ≤ l.length ∧ l.take n = cidEnc c ∧ c.tidy ∧ c.dig.length ≤ 2147483647 := by
  rcases cidRd_some h with ⟨⟨hz, z0, z1⟩, h34, rfl, rfl⟩ | ⟨hz, e1, m, r, e2, e3, rfl, hv⟩
  · have hd : ((l.drop 2).take 32).length = 32 := by rw [List.length_take, List.length_drop]; omega
    refine ⟨h34, ?_, .inl ⟨rfl, rfl, rfl, hd⟩, by show ((l.drop 2).take 32).length ≤ _; omega⟩
    show _ = mhEnc 18 _
    rw [mhEnc_18 _ hd]
    match l, z0, z1 with
    | a :: b :: t, z0, z1 =>
      simp only [List.getElem?_cons_zero, Option.some.injEq] at z0
      simp only [List.getElem?_cons_succ, List.getElem?_cons_zero, Option.some.injEq] at z1
      subst z0 z1
      rfl
  · obtain ⟨v, codec, code, d⟩ := c
    simp only at hv e2 e3 ⊢
    subst hv
    obtain ⟨q1, q2, q3, q4⟩ := mhRd_take e3
    obtain ⟨g1, g2, g3, _, g5⟩ := uvDec_ok e1
    obtain ⟨k1, k2, k3, _, k5⟩ := uvDec_ok e2
    have hc := uvDec_lt63 e2
    have l1 : (l.drop 1).length = l.length - 1 := by simp
    have l2 : ((l.drop 1).drop m).length = l.length - 1 - m := by rw [List.length_drop, List.length_drop]
    refine ⟨by omega, ?_, .inr ⟨rfl, hc, q4⟩, q3⟩
    unfold cidEnc
    rw [if_neg (show ¬ (1 : Nat) = 0 by decide)]
    simp only
    rw [← q2, ← k5, show 1 + m + r = 1 + (m + r) by omega, List.take_add, List.take_add, g5, uvarint1]
    rfl

/-- Two tidy identifiers with the same bytes are one. -/
theorem cidEnc_inj {a b : CidD} (ha : a.tidy) (hb : b.tidy) (la : a.dig.length ≤ 2147483647) (lb : b.dig.length ≤ 2147483647) (h : cidEnc a = cidEnc b) : a = b := by
  have h1 := cidRd_enc0 a ha la
  have h2 := cidRd_enc0 b hb lb
  rw [h, h2] at h1
  injection h1 with h1
  injection h1 with h1 _
  exact h1.symm

theorem mhEnc_len_le (code : Nat) (d : List UInt8) (hc : code < 18446744073709551616) (hd : d.length < 18446744073709551616) : 2 ≤ (mhEnc code d).length ∧ (mhEnc code d).length ≤ 20 + d.length := by
  unfold mhEnc
  have h1 := Lib.uvarint_length64 hc
  have h2 := Lib.uvarint_length64 hd
  have h3 := Lib.uvarint_pos code
  have h4 := Lib.uvarint_pos d.length
  simp only [List.length_append]
  omega

theorem cidEnc_length_le (c : CidD) (ht : c.tidy) (hd : c.dig.length ≤ 2147483647) : 2 ≤ (cidEnc c).length ∧ (cidEnc c).length ≤ 31 + c.dig.length := by
  obtain ⟨v, codec, code, d⟩ := c
  have hcode : code < 18446744073709551616 := by rcases ht with ⟨_, _, h, _⟩ | ⟨_, _, h⟩ <;> simp only at h <;> omega
  have hcodec : codec < 18446744073709551616 := by rcases ht with ⟨_, h, _, _⟩ | ⟨_, h, _⟩ <;> simp only at h <;> omega
  simp only at hd ⊢
  obtain ⟨h1, h2⟩ := mhEnc_len_le code d hcode (by omega)
  have h3 := Lib.uvarint_length64 hcodec
  unfold cidEnc
  simp only
  by_cases h : v = 0
  · rw [if_pos h]; omega
  · rw [if_neg h]; simp only [List.length_cons, List.length_append]; omega

theorem mhEnc_len (code : Nat) (d : List UInt8) : d.length ≤ (mhEnc code d).length := by
  unfold mhEnc; simp only [List.length_append]; omega
theorem cidRd_dig {l : List UInt8} {x : CidD} {k : Nat} (h : cidRd l = some (x, k)) : x.dig.length ≤ k ∧ k ≤ l.length := by
  obtain ⟨h1, h2, _, _⟩ := cidRd_take h
  have := congrArg List.length h2
  rw [List.length_take, Nat.min_eq_left h1] at this
  have hm := mhEnc_len x.code x.dig
  refine ⟨?_, h1⟩
  rw [this]
  unfold cidEnc
  by_cases hz : x.ver = 0
  · rw [if_pos hz]; exact hm
  · rw [if_neg hz]; simp only [List.length_cons, List.length_append]; omega
end Go.Proofs.YthfgnhgijgjggaaDoor
/- multihash.Encode and impl.MhEncode: the code, the digest's length, the digest. -/
namespace Go.Proofs.YthfgnhgijgjggaaDoor
open Go.RowKit

theorem mhEnc_length (code : Nat) (d : List UInt8) : (mhEnc code d).length = (Lib.uvarint code).length + (Lib.uvarint d.length).length + d.length := by
  unfold mhEnc; simp [Nat.add_assoc]

theorem splice3 (z : Value) (a b d : List Value) : splice (splice (splice (List.replicate (a.length + b.length + d.length) z) 0 a) a.length b) (a.length + b.length) d = a ++ (b ++ d) := by
  have h1 : splice (List.replicate (a.length + b.length + d.length) z) 0 a = a ++ List.replicate (b.length + d.length) z := by
    simp [splice, Nat.add_assoc]
  have h2 : splice (a ++ List.replicate (b.length + d.length) z) a.length b = a ++ (b ++ List.replicate d.length z) := by
    simp [splice]
  rw [h1, h2]
  have e : a ++ (b ++ List.replicate d.length z) = (a ++ b) ++ List.replicate d.length z := by simp
  rw [e]
  unfold splice
  rw [List.take_left' (by simp), List.drop_eq_nil_of_le (by simp; omega)]
  simp

set_option maxRecDepth 100000 in
set_option maxHeartbeats 1000000 in
theorem putUvW_any (g o n c x : Nat) (cur : List Value) (t : TypeId) (w : World) (hx : x < 18446744073709551616) (hrow : w.heap[g]? = some (.cells cur.toArray t (0, 0)))
    (hfit : o + (Lib.uvarint x).length ≤ cur.length) (hn : (Lib.uvarint x).length ≤ n) :
    Calls Tryd.prog 82 #[.slice (some ⟨g, o, none⟩) n c, .int .u64 x] w fun e w' =>
      e = .returned (.int .i64 (Lib.uvarint x).length) ∧ Hid (w'.heap[g]? = some (.cells (splice cur o (Lib.byteCells (Lib.uvarint x))).toArray t (0, 0))) ∧ Turn g w w' := by
  have HC := Lib.hid (put_row g o n c x cur t w hx hrow hfit hn)
  clear hrow hfit hn
  go_enter Tryd.func82, Tryd.ntmps82
  go_wp2_with fail
  refine HC.out.mono ?_
  rintro e w1 ⟨rfl, hr, ht⟩
  go_wp2
  go_ret
  exact ⟨rfl, hr, ht⟩

set_option maxRecDepth 100000 in
set_option maxHeartbeats 1000000 in
theorem encode_any (A : Option Addr) (n c : Nat) (l : List UInt8) (w : World) (hs : BS w (.slice A n c) l) (hm : l.length ≤ 2147483647) (code : Nat) (hc : code < 18446744073709551616) :
    Calls Tryd.prog 69 #[.slice A n c, .int .u64 code] w fun e w' =>
      e = .returned (.tuple #[.slice (some ⟨w.heap.size, 0, none⟩) (mhEnc code l).length (mhEnc code l).length, .nilIface]) ∧ Hid (w'.heap[w.heap.size]? = some (.cells (Lib.byteCells (mhEnc code l)).toArray 5 (0, 0))) ∧ Below w.heap.size w w' := by
  obtain ⟨hn, hcap⟩ := hs.slice
  have la := Lib.uvarint_length64 hc
  have lb := Lib.uvarint_length64 (x := n) (by omega)
  have pa := Lib.uvarint_pos code
  have pb := Lib.uvarint_pos n
  have hlen := mhEnc_length code l
  rw [← hn] at hlen
  have hcells : Lib.byteCells (mhEnc code l) = Lib.byteCells (Lib.uvarint code) ++ (Lib.byteCells (Lib.uvarint n) ++ Lib.byteCells l) := by
    unfold mhEnc; rw [← hn, Lib.byteCells_append, Lib.byteCells_append]
  have hl3 : (Lib.byteCells l).length = n := by rw [Lib.byteCells_length]; exact hn.symm
  rw [hlen, hcells]
  obtain ⟨a, ha⟩ : ∃ a, a = (Lib.uvarint code).length := ⟨_, rfl⟩
  obtain ⟨b, hb⟩ : ∃ b, b = (Lib.uvarint n).length := ⟨_, rfl⟩
  rw [← ha] at la pa ⊢
  rw [← hb] at lb pb ⊢
  obtain ⟨N, hN⟩ : ∃ N, N = a + b + n := ⟨_, rfl⟩
  obtain ⟨w1, hmk, hb1, hs1, hrow⟩ := make_bytes (P := Tryd.prog) Tryd.underlying43 info_u8 w N (by omega)
  have eN : ((N : Nat) : Int) = (a : Int) + b + n := by omega
  rw [eN] at hmk
  have r1 := fun W => run_from (P := Tryd.prog) Tryd.underlying43 info_u8 (some ⟨w.heap.size, 0, none⟩) N N a (by omega) W
  have r2 := fun W => run_from (P := Tryd.prog) Tryd.underlying43 info_u8 (some ⟨w.heap.size, 0, none⟩) N N (a + b) (by omega) W
  have e2 : ((a + b : Nat) : Int) = (a : Int) + b := by omega
  rw [cutA_own _ _ _ _ (by omega), Nat.zero_add] at r1
  rw [e2] at r2
  have HR := Lib.hid hrow
  have HA := Lib.hid ha
  have HB := Lib.hid hb
  have HN := Lib.hid hN
  have H3 := Lib.hid hl3
  have HS := Lib.hid hs
  have Hn := Lib.hid hn
  have n2 : n ≤ 2147483647 := by omega
  have N1 : N ≤ 3000000000 := by omega
  clear hrow ha hb hN hl3 hs hn hlen hcells hcap hs1 hm eN e2
  go_enter Tryd.func69, Tryd.ntmps69
  go_wp2_with fail
  refine (uvSize_any code w hc).mono ?_
  rw [← HA.out]
  rintro e w' ⟨rfl, rfl⟩
  go_wp2_with fail
  refine (uvSize_any n w (by omega)).mono ?_
  rw [← HB.out]
  rintro e w' ⟨rfl, rfl⟩
  go_wp2_with fail
  clear hmk
  refine (putUvW_any w.heap.size 0 N N code (List.replicate N (Value.int .u8 0)) 5 w1 hc HR.out (by rw [List.length_replicate, ← HA.out]; have := HN.out; omega) (by rw [← HA.out]; have := HN.out; omega)).mono ?_
  rw [← HA.out]
  rintro e w2 ⟨rfl, h2, ht2⟩
  have h2' := h2.out
  have L1 : (splice (List.replicate N (Value.int .u8 0)) 0 (Lib.byteCells (Lib.uvarint code))).length = N := by
    rw [length_splice _ _ _ (by rw [Lib.byteCells_length, List.length_replicate, ← HA.out]; have := HN.out; omega), List.length_replicate]
  go_wp2_with fail
  refine (putUvW_any w.heap.size a (N - a) (N - a) n _ 5 w2 (by omega) h2.out (by rw [L1, ← HB.out]; have := HN.out; omega) (by rw [← HB.out]; have := HN.out; omega)).mono ?_
  rw [← HB.out]
  rintro e w3 ⟨rfl, h3, ht3⟩
  clear h2'
  have L2 : (splice (splice (List.replicate N (Value.int .u8 0)) 0 (Lib.byteCells (Lib.uvarint code))) a (Lib.byteCells (Lib.uvarint n))).length = N := by
    rw [length_splice _ _ _ (by rw [Lib.byteCells_length, L1, ← HB.out]; have := HN.out; omega), L1]
  have hb3 : Below w.heap.size w w3 := (hb1.trans (ht2.below (Nat.le_refl _))).trans (ht3.below (Nat.le_refl _))
  have hsrc : 0 < (Lib.byteCells l).length → (cutA (some ⟨w.heap.size, 0, none⟩) N (a + b)) = some ⟨w.heap.size, a + b, none⟩ ∧ ∃ ad, A = some ad ∧ ∀ j v, (Lib.byteCells l)[j]? = some v → w3.cell? (ad.add j) = some v := by
    intro h0
    rw [H3.out] at h0
    refine ⟨by rw [cutA_own _ _ _ _ (by have := HN.out; omega), Nat.zero_add], ?_⟩
    obtain ⟨b', o', e1, hcell⟩ := (HS.out.below hb3).at_ h0
    refine ⟨_, e1, fun j v hv => ?_⟩
    have hj : j < l.length := by
      rcases Nat.lt_or_ge j l.length with h | h
      · exact h
      · rw [List.getElem?_eq_none (by rw [Lib.byteCells_length]; exact h)] at hv; cases hv
    have ead : (⟨b', o', none⟩ : Addr).add j = ⟨b', o' + j, none⟩ := by by_cases h : j = 0 <;> simp [Addr.add, h]
    rw [ead, hcell j hj]
    simp [Lib.byteCells, List.getElem?_eq_getElem hj] at hv
    rw [hv]
  have HSRC := Lib.hid hsrc
  have HL2 := Lib.hid L2
  have HL1 := Lib.hid L1
  clear hsrc L2 L1
  have hsz1 : (Tryd.prog.info? 5).map (·.size) = some 1 := by kernel_rfl
  have hmin : (Lib.byteCells l).length = Nat.min n (N - (a + b)) := by
    have := HN.out
    rw [H3.out, show N - (a + b) = n by omega]; exact (Nat.min_self n).symm
  have HMIN := Lib.hid hmin
  clear hmin
  go_wp2_with (with_reducible refine wpList_copy_splice rfl (.tmp 33) (.tmp 34) 43 43 rfl 5 Tryd.underlying43 hsz1 (cutA (some ⟨w.heap.size, 0, none⟩) N (a + b)) A (N - (a + b)) (N - (a + b)) n c rfl rfl w.heap.size (a + b) _ 5 h3.out (Lib.byteCells l) HMIN.out HSRC.out (by rw [H3.out, HL2.out]; have := HN.out; omega) (Lib.byteCells_one _) w.heap.size w hb3 (Nat.le_refl _) ?_; intro w4 hg4 hb4)
  go_ret2
  refine ⟨by rw [← HN.out]; rfl, Lib.hid ?_, hb4⟩
  rw [hg4.out]
  have e1 : a = (Lib.byteCells (Lib.uvarint code)).length := by rw [Lib.byteCells_length]; exact HA.out
  have e2 : b = (Lib.byteCells (Lib.uvarint n)).length := by rw [Lib.byteCells_length]; exact HB.out
  rw [HN.out]
  rw [show a + b + n = (Lib.byteCells (Lib.uvarint code)).length + (Lib.byteCells (Lib.uvarint n)).length + (Lib.byteCells l).length by rw [← e1, ← e2, H3.out]]
  conv => lhs; rw [show a = (Lib.byteCells (Lib.uvarint code)).length from e1, show b = (Lib.byteCells (Lib.uvarint n)).length from e2]
  rw [splice3]

end Go.Proofs.YthfgnhgijgjggaaDoor
/- Contracts of package cid: NewCidV1. -/
namespace Go.Proofs.YthfgnhgijgjggaaDoor
open Go.RowKit

theorem BldAt.below {B b : Nat} {bs : List Value} {w w' : World} (h : BldAt B b bs w) (hb : Below w.heap.size w w') : BldAt B b bs w' := by
  obtain ⟨hB, v, hbk, hown, hne⟩ := h
  refine ⟨hB, v, (hb.block b (block_of_row hbk)).trans hbk, ?_, hne⟩
  obtain ⟨h1, h2⟩ := hown
  refine ⟨h1, ?_⟩
  rcases h2 with h2 | ⟨g, cap, cur, e1, e2, e3, e4⟩
  · exact .inl h2
  · exact .inr ⟨g, cap, cur, e1, e2, (hb.block g (block_of_row e3)).trans e3, e4⟩

theorem run_arr10 (g L : Nat) (h : L ≤ 10) (W : World) : (Instr.sliceAt 185 (.pointer (some ⟨g, 0, none⟩)) none (some (.int .i64 (L : Int))) none).run Tryd.prog W = .ok (.slice (some ⟨g, 0, none⟩) L 10) W := by
  have e1 : Tryd.prog.arrayLen 185 = 10 := by kernel_rfl
  have e2 : Tryd.prog.elem 185 = 5 := by kernel_rfl
  have ht : Tryd.prog.underlying 185 = some (.array (Tryd.prog.arrayLen 185) (Tryd.prog.elem 185)) := by rw [e1, e2]; exact Tryd.underlying185
  rw [run_sliceAt_array_h W _ _ ht .i64 _ (by omega) (by rw [e1]; omega), e1, e2, run_size info_u8]
  simp [Result.andThen, slicedAt, Addr.add]

theorem byteCells_one' (l : List UInt8) : ([] : List Value) ++ [Value.int .u8 1] ++ Lib.byteCells l = Lib.byteCells (1 :: l) := rfl

set_option maxRecDepth 100000 in
set_option maxHeartbeats 2000000 in
theorem newCidV1 (codec : Nat) (hc : codec < 18446744073709551616) (A : Option Addr) (n c : Nat) (l : List UInt8) (w : World) (hs : BS w (.slice A n c) l) (hn : 0 < n) (hn2 : n ≤ 4294967296) :
    Calls Tryd.prog 71 #[.int .u64 codec, .slice A n c] w fun e w' => e = .returned (.agg #[.string ⟨(1 :: (Lib.uvarint codec ++ l)).toArray⟩]) ∧ Below w.heap.size w w' := by
  have hlen := Lib.uvarint_length64 hc
  have hpos := Lib.uvarint_pos codec
  obtain ⟨hnl, _⟩ := hs.slice
  obtain ⟨L, hL⟩ : ∃ L, L = (Lib.uvarint codec).length := ⟨_, rfl⟩
  rw [← hL] at hlen hpos
  have HL := Lib.hid hL
  have HNL := Lib.hid hnl
  have HS := Lib.hid hs
  clear hL hnl hs
  have hW : Below w.heap.size w ((w.alloc (.cells #[.string ⟨#[]⟩] 80)).alloc (.cells #[.pointer none, .slice none 0 0] 182)) := ((Below.refl _ _).alloc (Nat.le_refl _) _).alloc (by simp) _
  go_enter Tryd.func71, Tryd.ntmps71
  go_wp2_with fail
  refine (uvSize_any codec _ hc).mono ?_
  rw [← HL.out]
  rintro e w' ⟨rfl, rfl⟩
  go_wp2_with fail
  have hrow0 : ((w.alloc (.cells #[.string ⟨#[]⟩] 80)).alloc (.cells #[.pointer none, .slice none 0 0] 182)).heap[w.heap.size]? = some (.cells #[.string ⟨#[]⟩] 80 (0, 0)) := heap_alloc2_old _ _ _
  have hrow1 : ((w.alloc (.cells #[.string ⟨#[]⟩] 80)).alloc (.cells #[.pointer none, .slice none 0 0] 182)).heap[w.heap.size + 1]? = some (.cells #[.pointer none, .slice none 0 0] 182 (0, 0)) := heap_alloc2_new _ _ _
  have HG := Lib.hid (Tryd.Builder_Grow_fresh (w.heap.size + 1) (w.heap.size + 1) (1 + L + n) _ (Nat.le_refl _) hrow1 (by simp) (by omega))
  generalize hw1 : (w.alloc (.cells #[.string ⟨#[]⟩] 80)).alloc (.cells #[.pointer none, .slice none 0 0] 182) = w1 at *
  have hz1 : w1.heap.size = w.heap.size + 2 := by rw [← hw1]; simp
  clear hw1
  have HZ1 := Lib.hid hz1
  clear hz1 hrow1
  have HR0 := Lib.hid hrow0
  clear hrow0
  refine HG.out.mono ?_
  rintro e w2 ⟨rfl, hB2, hb2⟩
  have hW2 : Below w.heap.size w w2 := hW.trans (hb2.mono (by omega))
  have hz2 : w.heap.size + 2 ≤ w2.heap.size := by have := hb2.size; have := HZ1.out; omega
  have hr2 : w2.heap[w.heap.size]? = some (.cells #[.string ⟨#[]⟩] 80 (0, 0)) := (hb2.block _ (by omega)).trans HR0.out
  clear HG hW hb2
  go_wp2_with fail
  refine (bldWriteByte (w.heap.size + 1) (w.heap.size + 1) [] 1 w2 hB2 (by simp) (by omega)).mono ?_
  rintro e w3 ⟨rfl, hB3, hb3⟩
  have hW3 : Below w.heap.size w w3 := hW2.trans (hb3.mono (by omega))
  have hz3 : w.heap.size + 2 ≤ w3.heap.size := by have := hb3.size; omega
  have hr3 := (hb3.block _ (by omega)).trans hr2
  clear hW2 hr2 hb3 hB2
  have hrow4 := heap_alloc_new w3 (.cells #[.int .u8 0, .int .u8 0, .int .u8 0, .int .u8 0, .int .u8 0, .int .u8 0, .int .u8 0, .int .u8 0, .int .u8 0, .int .u8 0] 185)
  have HP := Lib.hid (putUvW_any w3.heap.size 0 10 10 codec (List.replicate 10 (Value.int .u8 0)) 185 _ hc hrow4 (by simp [← HL.out]; omega) (by rw [← HL.out]; omega))
  rw [← HL.out] at HP
  have hb4 : Below w3.heap.size w3 (w3.alloc (.cells #[.int .u8 0, .int .u8 0, .int .u8 0, .int .u8 0, .int .u8 0, .int .u8 0, .int .u8 0, .int .u8 0, .int .u8 0, .int .u8 0] 185)) := (Below.refl _ _).alloc (Nat.le_refl _) _
  clear hrow4
  go_wp2_with fail
  refine HP.out.mono ?_
  rintro e w4 ⟨rfl, hr4, ht4⟩
  have hb5 : Below w3.heap.size w3 w4 := hb4.trans (ht4.below (Nat.le_refl _))
  have hz4 : w4.heap.size = w3.heap.size + 1 := by rw [ht4.size]; simp
  have hW4 : Below w.heap.size w w4 := below_next hW3 hb5
  have hB4 := hB3.below hb5
  have hr4' := (hb5.block _ (by omega)).trans hr3
  have hbs4 : BS w4 (.slice (some ⟨w3.heap.size, 0, none⟩) L 10) (Lib.uvarint codec) := by
    have hh := BS.of_cells (w := w4) (b := w3.heap.size) (o := 0) (c := 10) (l := Lib.uvarint codec) (by rw [← HL.out]; omega) (fun j hj => by
      rw [← HL.out] at hj
      rw [Nat.zero_add, cell_of_row' hr4.out, splice_get _ _ _ (by rw [Lib.byteCells_length, List.length_replicate, ← HL.out]; omega), if_pos (by rw [Lib.byteCells_length, ← HL.out]; omega)]
      simp [Lib.byteCells, List.getElem?_eq_getElem (by rw [← HL.out]; exact hj : j < (Lib.uvarint codec).length)])
    rw [← HL.out] at hh
    exact hh
  have HBS4 := Lib.hid hbs4
  have HZ4 := Lib.hid hz4
  clear hbs4 hz4 ht4 hr4 hb4 HP hB3 hr3
  have hz5 : w.heap.size + 2 ≤ w4.heap.size := by have := HZ4.out; omega
  have hsl := run_arr10 w3.heap.size L (by omega)
  go_wp2_with fail
  refine (bldWrite (w.heap.size + 1) (w.heap.size + 1) _ _ L 10 _ w4 hB4 HBS4.out (by omega) (by simp; omega) (by omega)).mono ?_
  rintro e w5 ⟨rfl, hB5, hb6⟩
  have hW5 : Below w.heap.size w w5 := hW4.trans (hb6.mono (by omega))
  have hr5 := (hb6.block _ (by omega)).trans hr4'
  have hz6 : w.heap.size + 2 ≤ w5.heap.size := by have := hb6.size; omega
  rw [byteCells_one'] at hB5
  have hlen5 : (Lib.byteCells (1 :: Lib.uvarint codec)).length = L + 1 := by rw [Lib.byteCells_length, List.length_cons, ← HL.out]
  have HLEN5 := Lib.hid hlen5
  clear hlen5 hr4' hB4 hb6 HBS4 hW4 hz5
  go_wp2_with fail
  refine (bldWrite (w.heap.size + 1) (w.heap.size + 1) _ A n c l w5 hB5 (HS.out.below hW5) hn (by rw [HLEN5.out]; omega) (by omega)).mono ?_
  rintro e w6 ⟨rfl, hB6, hb7⟩
  have hW6 : Below w.heap.size w w6 := hW5.trans (hb7.mono (by omega))
  have hr6 := (hb7.block _ (by omega)).trans hr5
  have hz7 : w.heap.size + 2 ≤ w6.heap.size := by have := hb7.size; omega
  rw [← Lib.byteCells_append] at hB6
  clear hb7 hr5 hB5 HLEN5 hW5 hz6
  have HC := Lib.hid (Tryd.Builder_String_any (w.heap.size + 1) (w.heap.size + 1) _ w6 (.inr hB6) (by omega))
  clear hB6
  go_wp2_with fail
  refine HC.out.mono ?_
  rintro e w7 ⟨rfl, hb8⟩
  have hW7 : Below w.heap.size w w7 := hW6.trans (hb8.mono (by omega))
  have hr7 := (hb8.block _ (by omega)).trans hr6
  have c0 := cell_of_row' (cur := [_]) hr7 0
  have f0 := frozen_of_row' (cur := [_]) hr7 0
  have HR7 := Lib.hid hr7
  clear hr7 hr6 hb8 HC hW6 HR0 HZ1 HZ4
  go_wp2
  refine bodyPost_ret (results_cell_row rfl _ _ (w.heap.size) 80 #[.string ⟨(1 :: (Lib.uvarint codec ++ l)).toArray⟩] (0, 0) _ ?h1 ?h2 Tryd.underlying80 rfl ?h5) ?h6 ?h7
  case h1 => rfl
  case h2 => simp [World.setCell, Array.getElem?_modify, HR7.out]
  case h5 => kernel_rfl
  case h6 => rfl
  exact ⟨rfl, hW7.setCell (by exact Nat.le_refl _) _⟩
end Go.Proofs.YthfgnhgijgjggaaDoor
/- Contracts of package cid: tryNewCidV0, NewCidV0. -/
namespace Go.Proofs.YthfgnhgijgjggaaDoor
open Go.RowKit

/-- The variables that package cid reads. -/
structure CdS (w : World) : Prop extends MhS w where
  undef : ∃ s : ByteArray, w.cell? ⟨1, 0, none⟩ = some (.string s)
theorem CdS.below {w w' : World} (h : CdS w) (hb : Below w.heap.size w w') : CdS w' := by
  obtain ⟨s, h2⟩ := h.undef
  exact ⟨h.toMhS.below hb, s, below_cell hb h2⟩

set_option maxRecDepth 100000 in
set_option maxHeartbeats 2000000 in
theorem tryV0_ok (A : Option Addr) (n c : Nat) (l : List UInt8) (w : World) (hs : BS w (.slice A n c) l) (hm : l.length ≤ 2147483647) (hu : UvS w) (d : List UInt8) (hd : mhRd l = some (n, 18, d)) (h32 : d.length = 32) :
    Calls Tryd.prog 93 #[.slice A n c] w fun e w' => e = .returned (.tuple #[.agg #[.string ⟨l.toArray⟩], .nilIface]) ∧ Below w.heap.size w w' := by
  have hA : Below w.heap.size w (w.alloc (.cells #[.string ⟨#[]⟩] 80)) := (Below.refl _ _).alloc (Nat.le_refl _) _
  obtain ⟨A', c', hs', hc⟩ := Decode_ok A n c l _ (hs.below hA) hm (hu.below hA) 18 d hd
  rw [h32] at hc
  have HC := Lib.hid (hc _ (Below.refl _ _))
  have HS := Lib.hid (hs.below hA)
  have hr0 := heap_alloc_new w (.cells #[.string ⟨#[]⟩] 80)
  clear hs hs' hc hu hd h32 hm
  go_enter Tryd.func93, Tryd.ntmps93
  go_wp2_with fail
  generalize hw1 : w.alloc (.cells #[.string ⟨#[]⟩] 80) = w1 at *
  have hz1 : w1.heap.size = w.heap.size + 1 := by rw [← hw1]; simp
  clear hw1
  refine HC.out.mono ?_
  rintro e w2 ⟨⟨g, rfl, hg, hrow⟩, hb2⟩
  have hr2 := (hb2.block _ (by omega)).trans hr0
  have c0 : w2.cell? ⟨g, 0, none⟩ = some (.int .u64 18) := by simp [World.cell?, hrow]
  have c2 : w2.cell? ⟨g, 2, none⟩ = some (.int .i64 32) := by simp [World.cell?, hrow]
  have k0 := cell_of_row' (cur := [_]) hr2 0
  have f0 := frozen_of_row' (cur := [_]) hr2 0
  have hcv := ((HS.out.below hb2).str (dst := 9) Tryd.underlying88 Tryd.underlying5 Tryd.underlying9)
  have hb := hA.trans (hb2.mono (by omega))
  have HR2 := Lib.hid hr2
  clear hrow hr2 hr0 hA hb2 hz1
  go_wp2
  refine bodyPost_ret (results_row_tmp rfl _ _ (w.heap.size) 80 #[.string ⟨l.toArray⟩] (0, 0) _ ?h1 ?h2 Tryd.underlying80 rfl ?h5) ?h6 ?h7
  case h1 => rfl
  case h2 => simp [World.setCell, Array.getElem?_modify, HR2.out]
  case h5 => kernel_rfl
  case h6 => rfl
  exact ⟨rfl, hb.setCell (by exact Nat.le_refl _) _⟩

/-- A struct with one string, and an error. -/
def CidBad (e : Ending) : Prop := ∃ (s : ByteArray) (t : TypeId) (p : Value), e = .returned (.tuple #[.agg #[.string s], .iface t p])

set_option maxRecDepth 100000 in
set_option maxHeartbeats 2000000 in
theorem tryV0_bad (A : Option Addr) (n c : Nat) (l : List UInt8) (w : World) (hs : BS w (.slice A n c) l) (hm : l.length ≤ 2147483647) (hu : CdS w) (code : Nat) (d : List UInt8) (hd : mhRd l = some (n, code, d)) (h32 : ¬ (code = 18 ∧ d.length = 32)) :
    Calls Tryd.prog 93 #[.slice A n c] w fun e w' => CidBad e ∧ Below w.heap.size w w' := by
  have hA : Below w.heap.size w (w.alloc (.cells #[.string ⟨#[]⟩] 80)) := (Below.refl _ _).alloc (Nat.le_refl _) _
  obtain ⟨A', c', hs', hc⟩ := Decode_ok A n c l _ (hs.below hA) hm (hu.below hA).toUvS code d hd
  have HC := Lib.hid (hc _ (Below.refl _ _))
  have hr0 := heap_alloc_new w (.cells #[.string ⟨#[]⟩] 80)
  obtain ⟨us, hus⟩ := (hu.below hA).undef
  have hlt : 1 < w.heap.size := by obtain ⟨s, h⟩ := hu.undef; exact block_of_cell h
  generalize d.length = D at *
  clear hs hs' hc hu hd hm
  go_enter Tryd.func93, Tryd.ntmps93
  go_wp2_with fail
  generalize hw1 : w.alloc (.cells #[.string ⟨#[]⟩] 80) = w1 at *
  have hz1 : w1.heap.size = w.heap.size + 1 := by rw [← hw1]; simp
  clear hw1
  refine HC.out.mono ?_
  rintro e w2 ⟨⟨g, rfl, hg, hrow⟩, hb2⟩
  have hr2 := (hb2.block _ (by omega)).trans hr0
  have c0 : w2.cell? ⟨g, 0, none⟩ = some (.int .u64 code) := by simp [World.cell?, hrow]
  have c2 : w2.cell? ⟨g, 2, none⟩ = some (.int .i64 D) := by simp [World.cell?, hrow]
  have hus2 := below_cell hb2 hus
  have hb := hA.trans (hb2.mono (by omega))
  have hz2 : w.heap.size + 1 ≤ w2.heap.size := by have := hb2.size; omega
  have HR2 := Lib.hid hr2
  clear hrow hr2 hr0 hA hb2 hz1 hus
  have hcode : ((code : Int) != 18) = true ∨ (((code : Int) != 18) = false ∧ ((D : Int) != 32) = true) := by
    by_cases h : code = 18
    · refine .inr ⟨by rw [h]; rfl, ?_⟩
      rw [bne_iff_ne]
      intro e; exact h32 ⟨h, by omega⟩
    · refine .inl ?_
      rw [bne_iff_ne]; omega
  clear h32
  rcases hcode with h1 | ⟨h1, h2⟩
  all_goals
    go_wp2_with fail
    go_region_with (go_at_call 103; refine (errorsNew _ w2.drew).mono ?_; rintro e w3 ⟨t, p, rfl, hb3⟩; have hr3 := row_below hb3 (show w.heap.size < w2.drew.heap.size by show w.heap.size < w2.heap.size; omega) (show w2.drew.heap[w.heap.size]? = _ from HR2.out); have k0 := cell_of_row' (cur := [_]) hr3 0; have f0 := frozen_of_row' (cur := [_]) hr3 0; have hus3 := below_cell hb3 hus2)
    all_goals
      go_wp2
      refine bodyPost_ret (results_row_tmp rfl _ _ (w.heap.size) 80 #[.string us] (0, 0) _ rfl (by simp [World.setCell, Array.getElem?_modify, hr3]) Tryd.underlying80 rfl (by kernel_rfl)) rfl ?_
      exact ⟨⟨_, _, _, rfl⟩, ((hb.drewN 1).trans (hb3.mono (show w.heap.size ≤ w2.heap.size by omega))).setCell (by exact Nat.le_refl _) _⟩

theorem row_alloc {w : World} {g : Nat} {o' : Obj} (h : w.heap[g]? = some o') (o : Obj) : (w.alloc o).heap[g]? = some o' := (Below.heap_alloc w o g (block_of_row h)).trans h

set_option maxRecDepth 100000 in
set_option maxHeartbeats 2000000 in
theorem newCidV0_ok (A : Option Addr) (n c : Nat) (l : List UInt8) (w : World) (hs : BS w (.slice A n c) l) (hm : l.length ≤ 2147483647) (hu : UvS w) (d : List UInt8) (hd : mhRd l = some (n, 18, d)) (h32 : d.length = 32) :
    Calls Tryd.prog 70 #[.slice A n c] w fun e w' => e = .returned (.agg #[.string ⟨l.toArray⟩]) ∧ Below w.heap.size w w' := by
  have hA : Below w.heap.size w (w.alloc (.cells #[.string ⟨#[]⟩] 80)) := (Below.refl _ _).alloc (Nat.le_refl _) _
  have HC := Lib.hid (tryV0_ok A n c l _ (hs.below hA) hm (hu.below hA) d hd h32)
  have hr0 := heap_alloc_new w (.cells #[.string ⟨#[]⟩] 80)
  clear hs hu hd h32 hm
  go_enter Tryd.func70, Tryd.ntmps70
  go_wp2_with fail
  generalize hw1 : w.alloc (.cells #[.string ⟨#[]⟩] 80) = w1 at *
  have hz1 : w1.heap.size = w.heap.size + 1 := by rw [← hw1]; simp
  clear hw1
  refine HC.out.mono ?_
  rintro e w2 ⟨rfl, hb2⟩
  have hr2 := (hb2.block _ (by omega)).trans hr0
  have hb := hA.trans (hb2.mono (by omega))
  have hz2 : w.heap.size + 1 ≤ w2.heap.size := by have := hb2.size; omega
  have k0 := fun o => cell_of_row' (cur := [_]) (row_alloc hr2 o) 0
  have f0 := fun o => frozen_of_row' (cur := [_]) (row_alloc hr2 o) 0
  have HR2 := Lib.hid hr2
  clear hr2 hr0 hA hb2 hz1
  go_wp2
  refine bodyPost_ret (results_cell_row rfl _ _ (w.heap.size) 80 #[.string ⟨l.toArray⟩] (0, 0) _ rfl (by simp [World.setCell, Array.getElem?_modify, row_alloc HR2.out, -World.alloc_eq]) Tryd.underlying80 rfl (by kernel_rfl)) rfl ?_
  exact ⟨rfl, (hb.alloc (by omega) _).setCell (by exact Nat.le_refl _) _⟩

set_option maxRecDepth 100000 in
set_option maxHeartbeats 2000000 in
theorem newCidV0_bad (A : Option Addr) (n c : Nat) (l : List UInt8) (w : World) (hs : BS w (.slice A n c) l) (hm : l.length ≤ 2147483647) (hu : CdS w) (code : Nat) (d : List UInt8) (hd : mhRd l = some (n, code, d)) (h32 : ¬ (code = 18 ∧ d.length = 32)) :
    Calls Tryd.prog 70 #[.slice A n c] w fun e w' => (∃ t p, e = .panicked [{ v := .iface t p, recovered := false }]) ∧ Below w.heap.size w w' := by
  have hA : Below w.heap.size w (w.alloc (.cells #[.string ⟨#[]⟩] 80)) := (Below.refl _ _).alloc (Nat.le_refl _) _
  have HC := Lib.hid (tryV0_bad A n c l _ (hs.below hA) hm (hu.below hA) code d hd h32)
  clear hs hu hd h32 hm
  go_enter Tryd.func70, Tryd.ntmps70
  go_wp2_with fail
  refine HC.out.mono ?_
  rintro e w2 ⟨⟨s, t, p, rfl⟩, hb2⟩
  have hb := below_next hA hb2
  have hz := hb2.size
  clear hA
  go_wp2
  exact ⟨rfl, ⟨t, p, rfl⟩, hb.alloc hb.size _⟩
end Go.Proofs.YthfgnhgijgjggaaDoor
/- Contracts: impl.cidIn's deferred closure. -/
namespace Go.Proofs.YthfgnhgijgjggaaDoor
open Go.RowKit

set_option maxRecDepth 100000 in
set_option maxHeartbeats 2000000 in
theorem cidIn_catch (a b : Nat) (hab : a ≠ b) (s0 : ByteArray) (o0 : Bool) (u : TypeId) (pv : Value) (older : List PanicEntry) (w : World)
    (ha : w.cell? ⟨a, 0, none⟩ = some (.string s0)) (fa : w.frozen? ⟨a, 0, none⟩ = false) (hb : w.cell? ⟨b, 0, none⟩ = some (.bool o0)) (fb : w.frozen? ⟨b, 0, none⟩ = false) :
    CallsD Tryd.prog 68 #[.pointer (some ⟨a, 0, none⟩), .pointer (some ⟨b, 0, none⟩)] (.panicking ({ v := .iface u pv, recovered := false } :: older)) w fun e u' w' =>
      e = .returned (.tuple #[]) ∧ u' = .panicking ({ v := .iface u pv, recovered := true } :: older) ∧ w' = (w.setCell ⟨a, 0, none⟩ (.string ⟨#[]⟩)).setCell ⟨b, 0, none⟩ (.bool false) := by
  refine callsD_of_wpS Tryd.func68 rfl fun c₀ cs hu => ?_
  apply wpS_seq
  apply wpS_region
  simp [wpOpsS, go_sem, recoverD, hu, Tryd.ntmps68, Exit.thenS]
  refine wpS_cond (t := true) (by simp [Act.eval, Array.replicate]) ?_
  simp only [if_true]
  have hb' : (w.setCell ⟨a, 0, none⟩ (.string ⟨#[]⟩)).cell? ⟨b, 0, none⟩ = some (.bool o0) := by
    rw [World.cell?_setCell_other _ _ _ _ (by simp)]; exact hb
  have fb' : (w.setCell ⟨a, 0, none⟩ (.string ⟨#[]⟩)).frozen? ⟨b, 0, none⟩ = false := by simpa using fb
  apply wpS_region
  simp [wpOpsS, go_sem, ha, fa, hb', fb', bodyPostS, results, Tryd.results68]
  trace_state

set_option maxRecDepth 100000 in
set_option maxHeartbeats 2000000 in
theorem cidIn_idle (p q : Addr) (w : World) :
    CallsD Tryd.prog 68 #[.pointer (some p), .pointer (some q)] .returning w fun e u' w' => e = .returned (.tuple #[]) ∧ u' = .returning ∧ w' = w := by
  refine callsD_of_wpS Tryd.func68 rfl fun c₀ cs hu => ?_
  apply wpS_seq
  apply wpS_region
  simp [wpOpsS, go_sem, recoverD, hu, Tryd.ntmps68, Exit.thenS]
  refine wpS_cond (t := false) (by simp [Act.eval, Array.replicate]) ?_
  simp only [Bool.false_eq_true, if_false]
  refine wpS_of_wp (wp_skip ?_)
  cases c₀
  simp_all [bodyPostS, results, Tryd.results68]
end Go.Proofs.YthfgnhgijgjggaaDoor
/- Contracts: impl.cidIn. -/
namespace Go.Proofs.YthfgnhgijgjggaaDoor
open Go.RowKit

section
variable {P : Program}
/-- Two results, both in cells, the first a struct in a block that is known whole. -/
theorem results_row_cell {fn : Func} {p q : Tmp} {ty tb : TypeId} (h : fn.results = #[.cell p ty, .cell q tb]) (tmps : Array Value) (w : World) (g : Nat) (t : TypeId) (cs : Array Value) (fr : Nat × Nat) (d : TypeDesc) (a2 : Addr) (v : Value)
    (hp : tmps.getD p undef = .pointer (some ⟨g, 0, none⟩)) (hg : w.heap[g]? = some (.cells cs t fr))
    (hu : P.underlying ty = some d) (hd : (match d with | .struct _ | .array _ _ => true | _ => false) = true) (hi : (P.info? ty).map (·.size) = some cs.size)
    (hq : tmps.getD q undef = .pointer (some a2)) (hl : (loadVar tb a2).run P w = .ok v w) :
    (results fn tmps).run P w = .ok (.tuple #[.agg cs, v]) w := by
  have hp' : tmps[p]?.getD undef = .pointer (some ⟨g, 0, none⟩) := by simpa using hp
  have hq' : tmps[q]?.getD undef = .pointer (some a2) := by simpa using hq
  simp only [results, h]
  simp [Result.andThen, hp', hq', asAddr, run_loadVar_row w g t ty cs fr d hg hu hd hi, hl]
end
theorem loadBool {w : World} {a : Addr} {b : Bool} (h : w.cell? a = some (.bool b)) : (loadVar 4 a).run Tryd.prog w = .ok (.bool b) w := by
  have hb := Tryd.isAgg4
  simp [loadVar, go_sem, h]

/-- impl.Cid by value. -/
def cidV (v codec code : Int) (d : ByteArray) : Value := .agg #[.int .u64 v, .int .u64 codec, .int .u64 code, .string d]

theorem hmfA : ∀ (fn : Fn) (first cap : Array Value) (w : World), (Instr.makeFunc fn first cap).run Tryd.prog w = .ok (.func fn first cap) w := fun _ _ _ _ => rfl

abbrev cidO (v codec code : Int) (d : ByteArray) : Obj := .cells #[.int .u64 v, .int .u64 codec, .int .u64 code, .string d] 26
abbrev cidW (v codec code : Int) (d : ByteArray) (w : World) : World := ((w.alloc (cidO v codec code d)).alloc (.cells #[.string ⟨#[]⟩] 80)).alloc (.cells #[.bool false] 4)

/-- What lies behind the making of the bytes and of the multihash, told once. -/
theorem cidIn_pre (v codec code : Int) (d : ByteArray) (w : World) : ∃ A c w4, (convert 9 43 (.string d)).run Tryd.prog (cidW v codec code d w) = .ok (.slice A d.size c) w4 ∧ BS w4 (.slice A d.size c) d.data.toList ∧ Below w.heap.size w w4 ∧
    w4.heap[w.heap.size]? = some (cidO v codec code d) ∧ w4.heap[w.heap.size + 1]? = some (.cells #[.string ⟨#[]⟩] 80 (0, 0)) ∧ w4.heap[w.heap.size + 2]? = some (.cells #[.bool false] 4 (0, 0)) := by
  obtain ⟨c, w4, hconv, hb, hbs⟩ := conv_in (cidW v codec code d w) d
  refine ⟨_, c, w4, hconv, hbs, ?_, ?_, ?_, ?_⟩
  · exact below_next ((((Below.refl _ _).alloc (Nat.le_refl _) _).alloc (by simp) _).alloc (by simp; omega) _) hb
  · refine row_below hb (by simp; omega) ?_
    exact row_alloc (row_alloc (heap_alloc_new _ _) _) _
  · refine row_below hb (by simp) ?_
    have := row_alloc (heap_alloc_new (w.alloc (cidO v codec code d)) (.cells #[.string ⟨#[]⟩] 80)) (.cells #[.bool false] 4)
    simpa using this
  · refine row_below hb (by simp) ?_
    have := heap_alloc_new ((w.alloc (cidO v codec code d)).alloc (.cells #[.string ⟨#[]⟩] 80)) (.cells #[.bool false] 4)
    simpa using this

set_option maxRecDepth 100000 in
set_option maxHeartbeats 4000000 in
theorem cidIn_v1 (codec code : Nat) (hcodec : codec < 18446744073709551616) (hcode : code < 18446744073709551616) (d : ByteArray) (hd : d.size ≤ 2147483647) (w : World) :
    Calls Tryd.prog 40 #[.agg #[.int .u64 1, .int .u64 codec, .int .u64 code, .string d]] w fun e w' => e = .returned (.tuple #[.agg #[.string ⟨(cidEnc ⟨1, codec, code, d.data.toList⟩).toArray⟩], .bool true]) ∧ Below w.heap.size w w' := by
  have hmf := hmfA
  obtain ⟨A, c, w4, hconv, hbs, hb4, r1, r2, r3⟩ := cidIn_pre 1 codec code d w
  have HE := Lib.hid (encode_any _ _ _ _ w4 hbs (by rw [ba_len]; exact hd) code hcode)
  have hml := mhEnc_len_le code d.data.toList hcode (by rw [ba_len]; omega)
  rw [ba_len] at hml
  have HENC := Lib.hid (show cidEnc ⟨1, codec, code, d.data.toList⟩ = 1 :: (Lib.uvarint codec ++ mhEnc code d.data.toList) from rfl)
  generalize mhEnc code d.data.toList = M at HE hml HENC
  have d2 := cell_of_row' (cur := [_, _, _, _]) r1 2
  have HR1 := Lib.hid r1
  have HR2 := Lib.hid r2
  have HR3 := Lib.hid r3
  clear hbs r1 r2 r3
  go_enter_defers Tryd.func40, Tryd.ntmps40
  go_wp2_with fail
  refine HE.out.mono ?_
  rintro e w5 ⟨rfl, hr, hb5⟩
  have hbs5 := BS.of_row (c := M.length) hr.out (Nat.le_refl _)
  have hb6 := below_next hb4 hb5
  have q1 := row_below hb5 (block_of_row HR1.out) HR1.out
  have q2 := row_below hb5 (block_of_row HR2.out) HR2.out
  have q3 := row_below hb5 (block_of_row HR3.out) HR3.out
  have c0 := cell_of_row' (cur := [_, _, _, _]) q1 0
  have c1 := cell_of_row' (cur := [_, _, _, _]) q1 1
  have HV := Lib.hid (newCidV1 codec hcodec _ _ _ M w5 hbs5 (by omega) (by omega))
  rw [← HENC.out] at HV
  clear hbs5 hr HE hconv d2
  go_wp2_with fail
  refine HV.out.mono ?_
  rintro e w6 ⟨rfl, hb7⟩
  have hb8 := below_next hb6 hb7
  have s2 := row_below hb7 (block_of_row q2) q2
  have s3 := row_below hb7 (block_of_row q3) q3
  have k2 := cell_of_row' (cur := [_]) s2 0
  have k3 := cell_of_row' (cur := [_]) s3 0
  have f2 := frozen_of_row' (cur := [_]) s2 0
  have f3 := frozen_of_row' (cur := [_]) s3 0
  have S2 := Lib.hid s2
  have S3 := Lib.hid s3
  clear s2 s3 q1 q2 q3 c0 c1 HR1 HR2 HR3 HV HENC
  go_wp2
  refine leaves_cons (f := 68) (args := #[.pointer (some ⟨w.heap.size + 1, 0, none⟩), .pointer (some ⟨w.heap.size + 1 + 1, 0, none⟩)]) (by simp) (by simp [go_sem]) ?_
  refine (cidIn_idle _ _ _).mono ?_
  rintro e u' w'' ⟨rfl, rfl, rfl⟩
  refine ⟨_, results_row_cell rfl _ _ (w.heap.size + 1) 80 #[.string ⟨(cidEnc ⟨1, codec, code, d.data.toList⟩).toArray⟩] (0, 0) _ ⟨w.heap.size + 2, 0, none⟩ (.bool true) rfl ?h2 Tryd.underlying80 rfl (by kernel_rfl) rfl ?h3, rfl, ?_⟩
  case h2 => simp [World.setCell, Array.getElem?_modify, S2.out]
  case h3 => exact loadBool (World.cell?_setCell_same _ _ _ (by rw [World.cell?_setCell_other _ _ _ _ (by simp)]; exact k3))
  exact (hb8.setCell (by show w.heap.size ≤ w.heap.size + 1; omega) _).setCell (by show w.heap.size ≤ w.heap.size + 1 + 1; omega) _
end Go.Proofs.YthfgnhgijgjggaaDoor
/- Contracts: impl.cidIn at version 0, and at another version. -/
namespace Go.Proofs.YthfgnhgijgjggaaDoor
open Go.RowKit

set_option maxRecDepth 100000 in
set_option maxHeartbeats 4000000 in
theorem cidIn_v0 (codec : Nat) (d : ByteArray) (hd : d.size = 32) (w : World) (hu : UvS w) :
    Calls Tryd.prog 40 #[.agg #[.int .u64 0, .int .u64 codec, .int .u64 18, .string d]] w fun e w' => e = .returned (.tuple #[.agg #[.string ⟨(mhEnc 18 d.data.toList).toArray⟩], .bool ((codec : Int) == 112)]) ∧ Below w.heap.size w w' := by
  have hmf := hmfA
  obtain ⟨A, c, w4, hconv, hbs, hb4, r1, r2, r3⟩ := cidIn_pre 0 codec 18 d w
  have HE := Lib.hid (encode_any _ _ _ _ w4 hbs (by rw [ba_len]; omega) 18 (by omega))
  have hml := mhEnc_len_le 18 d.data.toList (by omega) (by rw [ba_len]; omega)
  rw [ba_len] at hml
  have hrd := mhRd_enc 18 d.data.toList [] (by omega) (by rw [ba_len]; omega)
  rw [List.append_nil] at hrd
  have hl32 : d.data.toList.length = 32 := by rw [ba_len]; exact hd
  have HRD := Lib.hid hrd
  clear hrd
  generalize mhEnc 18 d.data.toList = M at HE hml HRD ⊢
  have d2 := cell_of_row' (cur := [_, _, _, _]) r1 2
  have HL32 := Lib.hid hl32
  have HR1 := Lib.hid r1
  have HR2 := Lib.hid r2
  have HR3 := Lib.hid r3
  have hml2 : M.length ≤ 100 := by omega
  clear hbs r1 r2 r3 hl32 hml hd
  rw [show ((18 : Nat) : Int) = 18 from rfl] at HE
  generalize hcx : (codec : Int) = x at *
  clear hcx
  go_enter_defers Tryd.func40, Tryd.ntmps40
  go_wp2_with fail
  refine HE.out.mono ?_
  rintro e w5 ⟨rfl, hr, hb5⟩
  have hbs5 := BS.of_row (c := M.length) hr.out (Nat.le_refl _)
  have hb6 := below_next hb4 hb5
  have q1 := row_below hb5 (block_of_row HR1.out) HR1.out
  have q2 := row_below hb5 (block_of_row HR2.out) HR2.out
  have q3 := row_below hb5 (block_of_row HR3.out) HR3.out
  have c0 := cell_of_row' (cur := [_, _, _, _]) q1 0
  have c1 := cell_of_row' (cur := [_, _, _, _]) q1 1
  have HV := Lib.hid (newCidV0_ok _ _ _ M w5.drew hbs5 (by omega) ((hu.below hb6).below (below_drewN _ _ 1)) _ HRD.out HL32.out)
  have Q1 := Lib.hid q1
  have Q2 := Lib.hid q2
  have Q3 := Lib.hid q3
  clear hbs5 hr HE hconv d2 q1 q2 q3
  go_wp2_with fail
  refine wp_region_noPanic ?_
  go_region_with (go_at_call 70; refine HV.out.mono ?_; rintro e w6 ⟨rfl, hb7⟩; have s1 := row_below hb7 (block_of_row Q1.out) Q1.out; have s2 := row_below hb7 (block_of_row Q2.out) Q2.out; have s3 := row_below hb7 (block_of_row Q3.out) Q3.out; have t1 := cell_of_row' (cur := [_, _, _, _]) s1 1; have k2 := cell_of_row' (cur := [_]) s2 0; have k3 := cell_of_row' (cur := [_]) s3 0; have f2 := frozen_of_row' (cur := [_]) s2 0; have f3 := frozen_of_row' (cur := [_]) s3 0)
  all_goals
    refine NoPanic.normal ?_
    go_wp2
    refine leaves_cons (f := 68) (args := #[.pointer (some ⟨w.heap.size + 1, 0, none⟩), .pointer (some ⟨w.heap.size + 1 + 1, 0, none⟩)]) (by simp) (by simp [go_sem]) ?_
    refine (cidIn_idle _ _ _).mono ?_
    rintro e u' w'' ⟨rfl, rfl, rfl⟩
    refine ⟨_, results_row_cell rfl _ _ (w.heap.size + 1) 80 #[.string ⟨M.toArray⟩] (0, 0) _ ⟨w.heap.size + 2, 0, none⟩ (.bool (x == 112)) rfl (by simp [World.setCell, Array.getElem?_modify, s2]) Tryd.underlying80 rfl (by kernel_rfl) rfl (loadBool (World.cell?_setCell_same _ _ _ (by rw [World.cell?_setCell_other _ _ _ _ (by simp)]; exact k3))), rfl, ?_⟩
    exact (((hb6.drewN 1).trans (hb7.mono hb6.size)).setCell (by show w.heap.size ≤ w.heap.size + 1; omega) _).setCell (by show w.heap.size ≤ w.heap.size + 1 + 1; omega) _
end Go.Proofs.YthfgnhgijgjggaaDoor
/- Contracts: impl.cidIn where NewCidV0 panics. -/
namespace Go.Proofs.YthfgnhgijgjggaaDoor
open Go.RowKit

set_option maxRecDepth 100000 in
set_option maxHeartbeats 8000000 in
theorem cidIn_v0bad (codec code : Nat) (d : ByteArray) (hd : d.size ≤ 2147483600) (hcode : code < 9223372036854775808) (hbad : ¬ (code = 18 ∧ d.size = 32)) (w : World) (hu : CdS w) :
    Calls Tryd.prog 40 #[.agg #[.int .u64 0, .int .u64 codec, .int .u64 code, .string d]] w fun e w' => e = .returned (.tuple #[.agg #[.string ⟨#[]⟩], .bool false]) ∧ Below w.heap.size w w' := by
  have hmf := hmfA
  obtain ⟨A, c, w4, hconv, hbs, hb4, r1, r2, r3⟩ := cidIn_pre 0 codec code d w
  have HE := Lib.hid (encode_any _ _ _ _ w4 hbs (by rw [ba_len]; omega) code (by omega))
  have hml := mhEnc_len_le code d.data.toList (by omega) (by rw [ba_len]; omega)
  rw [ba_len] at hml
  have hrd := mhRd_enc code d.data.toList [] (by omega) (by rw [ba_len]; omega)
  rw [List.append_nil] at hrd
  have HRD := Lib.hid hrd
  clear hrd
  generalize mhEnc code d.data.toList = M at HE hml HRD
  have d2 := cell_of_row' (cur := [_, _, _, _]) r1 2
  have HBAD : Hid (¬ (code = 18 ∧ d.data.toList.length = 32)) := Lib.hid (by rw [ba_len]; exact hbad)
  have HR1 := Lib.hid r1
  have HR2 := Lib.hid r2
  have HR3 := Lib.hid r3
  have hml2 : M.length ≤ 2147483647 := by omega
  clear hbs r1 r2 r3 hbad hcode
  generalize hcx : (codec : Int) = x at *
  clear hcx
  go_enter_defers Tryd.func40, Tryd.ntmps40
  go_wp2_with fail
  refine HE.out.mono ?_
  rintro e w5 ⟨rfl, hr, hb5⟩
  have hbs5 := BS.of_row (c := M.length) hr.out (Nat.le_refl _)
  have hb6 := below_next hb4 hb5
  have q1 := row_below hb5 (block_of_row HR1.out) HR1.out
  have q2 := row_below hb5 (block_of_row HR2.out) HR2.out
  have q3 := row_below hb5 (block_of_row HR3.out) HR3.out
  have c0 := cell_of_row' (cur := [_, _, _, _]) q1 0
  have c1 := cell_of_row' (cur := [_, _, _, _]) q1 1
  have HV := Lib.hid (newCidV0_bad _ _ _ M w5.drew hbs5 (by omega) ((hu.below hb6).below (below_drewN _ _ 1)) _ _ HRD.out HBAD.out)
  have Q1 := Lib.hid q1
  have Q2 := Lib.hid q2
  have Q3 := Lib.hid q3
  clear hbs5 hr HE hconv d2 q1 q2 q3 hml
  go_wp2_with fail
  refine wp_region_any (by kernel_rfl) ?_
  change wpAny _ _ _ _ _ _ _ (World.drew _)
  repeat (any_goals (first
    | exact AllReady.nil
    | (refine AllReady.cons rfl (fun K hK => ?_) ?_; focus (go_simp; first
        | (refine hK _ _ ?_; clear hK K)
        | (go_wp2_with fail
           refine HV.out.mono ?_
           rintro e w6 ⟨⟨t, p, rfl⟩, hb7⟩
           have s2 := row_below hb7 (block_of_row Q2.out) Q2.out
           have s3 := row_below hb7 (block_of_row Q3.out) Q3.out
           have k2 := cell_of_row' (cur := [_]) s2 0
           have k3 := cell_of_row' (cur := [_]) s3 0
           have f2 := frozen_of_row' (cur := [_]) s2 0
           have f3 := frozen_of_row' (cur := [_]) s3 0
           dsimp only
           clear hK K
           go_wp2
           refine leaves_cons (f := 68) (args := #[.pointer (some ⟨w.heap.size + 1, 0, none⟩), .pointer (some ⟨w.heap.size + 1 + 1, 0, none⟩)]) (by simp) (by simp [go_sem]) ?_
           refine (cidIn_catch (w.heap.size + 1) (w.heap.size + 1 + 1) (by omega) _ _ _ _ [] _ k2 f2 k3 f3).mono ?_
           rintro e u' w'' ⟨rfl, rfl, rfl⟩
           refine ⟨_, results_row_cell rfl _ _ (w.heap.size + 1) 80 #[.string ⟨#[]⟩] (0, 0) _ ⟨w.heap.size + 2, 0, none⟩ (.bool false) rfl (by simp [World.setCell, Array.getElem?_modify, s2]) Tryd.underlying80 rfl (by kernel_rfl) rfl (loadBool (World.cell?_setCell_same _ _ _ (by rw [World.cell?_setCell_other _ _ _ _ (by simp)]; exact k3))), rfl, ?_⟩
           exact (((hb6.drewN 1).trans (hb7.mono hb6.size)).setCell (by show w.heap.size ≤ w.heap.size + 1; omega) _).setCell (by show w.heap.size ≤ w.heap.size + 1 + 1; omega) _)))
    | refine wpAny_ready (rs := [0, 2]) (by decide +kernel) (by simp) ?_
    | refine wpAny_ready (rs := [0, 3]) (by decide +kernel) (by simp) ?_
    | refine wpAny_ready (rs := [0, 4]) (by decide +kernel) (by simp) ?_
    | refine wpAny_ready (rs := [0]) (by decide +kernel) (by simp) ?_
    | refine wpAny_ready (rs := [1, 2]) (by decide +kernel) (by simp) ?_
    | refine wpAny_ready (rs := [1, 3]) (by decide +kernel) (by simp) ?_
    | refine wpAny_ready (rs := [1, 4]) (by decide +kernel) (by simp) ?_
    | refine wpAny_ready (rs := [1]) (by decide +kernel) (by simp) ?_))
end Go.Proofs.YthfgnhgijgjggaaDoor
/- Contracts of package cid: Version, Defined, KeyString, Bytes, Equals, uvarint of a string. -/
namespace Go.Proofs.YthfgnhgijgjggaaDoor
open Go.RowKit

section
variable {P : Program}
/-- 's[i]' of a string. -/
theorem idx_ba {t : TypeId} (ht : P.underlying t = some .string) (s : ByteArray) (i : Nat) (c : UInt8) (h : s.data.toList[i]? = some c) (x : Int) (hx : x = i) (W : World) :
    (Instr.index t (.string s) (.int .i64 x)).run P W = .ok (.int .u8 (c.toNat : Int)) W := by
  have h2 := idx_str (P := P) ht s.data.toList i c h x hx W
  rw [ba_mk] at h2
  exact h2
end

theorem get_some {s : ByteArray} {i : Nat} (h : i < s.size) : ∃ c : UInt8, s.data.toList[i]? = some c := by
  have : i < s.data.toList.length := by rw [ba_len]; exact h
  exact ⟨_, List.getElem?_eq_getElem this⟩

set_option maxRecDepth 100000 in
set_option maxHeartbeats 1000000 in
theorem cdVer0 (s : ByteArray) (w : World) (hs : s.size = 34) (hz : cidZero s.data.toList) :
    Calls Tryd.prog 78 #[.agg #[.string s]] w fun e w' => e = .returned (.int .u64 0) ∧ Below w.heap.size w w' := by
  obtain ⟨_, h0, h1⟩ := hz
  have i0 := fun W => idx_ba (P := Tryd.prog) Tryd.underlying9 s 0 18 h0 0 rfl W
  have i1 := fun W => idx_ba (P := Tryd.prog) Tryd.underlying9 s 1 32 h1 1 rfl W
  have hsz : ((s.size : Int) == 34) = true := by rw [hs]; rfl
  clear h0 h1 hs
  go_enter Tryd.func78, Tryd.ntmps78
  go_wp2
  go_ret
  exact ⟨rfl, (Below.refl _ _).alloc (Nat.le_refl _) _⟩

set_option maxRecDepth 100000 in
set_option maxHeartbeats 1000000 in
theorem cdVer1 (s : ByteArray) (w : World) (hz : ¬ (s.size = 34 ∧ cidZero s.data.toList)) :
    Calls Tryd.prog 78 #[.agg #[.string s]] w fun e w' => e = .returned (.int .u64 1) ∧ Below w.heap.size w w' := by
  by_cases hs : s.size = 34
  · obtain ⟨c, h0⟩ := get_some (s := s) (i := 0) (by omega)
    obtain ⟨d, h1⟩ := get_some (s := s) (i := 1) (by omega)
    have i0 := fun W => idx_ba (P := Tryd.prog) Tryd.underlying9 s 0 c h0 0 rfl W
    have i1 := fun W => idx_ba (P := Tryd.prog) Tryd.underlying9 s 1 d h1 1 rfl W
    have hsz : ((s.size : Int) == 34) = true := by rw [hs]; rfl
    have hl : s.data.toList.length = 34 := by rw [ba_len]; exact hs
    by_cases hc : c = 18
    · have hd : ¬ d = 32 := fun hd => hz ⟨hs, by rw [hl]; omega, by rw [h0, hc], by rw [h1, hd]⟩
      subst hc
      have hd' : ((d.toNat : Int) == 32) = false := by
        rw [beq_eq_false_iff_ne]; intro e; exact hd (UInt8.toNat_inj.1 (by show d.toNat = 32; omega))
      clear h0 h1 hs hz hl hd
      go_enter Tryd.func78, Tryd.ntmps78
      go_wp2
      go_ret
      exact ⟨rfl, (Below.refl _ _).alloc (Nat.le_refl _) _⟩
    · have hc' : ((c.toNat : Int) == 18) = false := by
        rw [beq_eq_false_iff_ne]; intro e; exact hc (UInt8.toNat_inj.1 (by show c.toNat = 18; omega))
      clear h0 h1 hs hz hl hc
      go_enter Tryd.func78, Tryd.ntmps78
      go_wp2
      go_ret
      exact ⟨rfl, (Below.refl _ _).alloc (Nat.le_refl _) _⟩
  · have hsz : ((s.size : Int) == 34) = false := by rw [beq_eq_false_iff_ne]; omega
    clear hs hz
    go_enter Tryd.func78, Tryd.ntmps78
    go_wp2
    go_ret
    exact ⟨rfl, (Below.refl _ _).alloc (Nat.le_refl _) _⟩

set_option maxRecDepth 100000 in
set_option maxHeartbeats 1000000 in
theorem cdKey (s : ByteArray) (w : World) :
    Calls Tryd.prog 84 #[.agg #[.string s]] w fun e w' => e = .returned (.string s) ∧ Below w.heap.size w w' := by
  go_enter Tryd.func84, Tryd.ntmps84
  go_wp2
  go_ret
  exact ⟨rfl, (Below.refl _ _).alloc (Nat.le_refl _) _⟩

theorem ba_nonempty {s : ByteArray} (h : 0 < s.size) : s.toList.isEmpty = false ∧ (!s.toList.isEmpty) = true ∧ ¬ s.toList = [] := by
  have : s.toList ≠ [] := by
    rw [ByteArray.toList_eq]
    intro e
    have := ba_len s
    rw [e] at this
    simp at this
    omega
  cases h2 : s.toList with
  | nil => exact absurd h2 this
  | cons => exact ⟨rfl, rfl, by simp⟩

set_option maxRecDepth 100000 in
set_option maxHeartbeats 1000000 in
theorem cdDefined (s : ByteArray) (w : World) (h : 0 < s.size) :
    Calls Tryd.prog 100 #[.agg #[.string s]] w fun e w' => e = .returned (.bool true) ∧ Below w.heap.size w w' := by
  obtain ⟨h1, h2, h3⟩ := ba_nonempty h
  go_enter Tryd.func100, Tryd.ntmps100
  go_wp2
  go_ret
  exact ⟨rfl, (Below.refl _ _).alloc (Nat.le_refl _) _⟩
end Go.Proofs.YthfgnhgijgjggaaDoor
