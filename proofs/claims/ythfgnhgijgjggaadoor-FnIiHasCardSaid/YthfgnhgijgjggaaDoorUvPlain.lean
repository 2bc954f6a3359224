/- The plain law of reading a varint of a list of bytes: what it is, no program in sight. -/
import Derived.Lib.VarintBits
import Derived.Lib.Varint
import Derived.IntWalk
import Derived.Lib.BitFns
namespace Go.Proofs.YthfgnhgijgjggaaDoor
open Go.RowKit

/-- What reading a varint comes to. -/
inductive UvR where
  | ok (x m : Nat)
  | over
  | notMin
  | under

/-- One byte more, at place k. -/
def uvGo : Nat → Nat → List UInt8 → UvR
  | _, _, [] => .under
  | k, X, b :: r =>
    if (k = 8 ∧ 128 ≤ b.toNat) ∨ 9 ≤ k then .over
    else if b.toNat < 128 then (if b.toNat = 0 ∧ 0 < k then .notMin else .ok (X + b.toNat * 2 ^ (7 * k)) (k + 1))
    else uvGo (k + 1) (X + (b.toNat % 128) * 2 ^ (7 * k)) r
def uvDec (l : List UInt8) : UvR := uvGo 0 0 l

theorem uv_or (k X B : Nat) (hk : k ≤ 8) (hX : X < 2 ^ (7 * k)) (hB : B < 128) :
    bits .or .u64 (X : Int) (IntKind.u64.wrap ((B : Int) * 2 ^ (7 * k))) = ((X + B * 2 ^ (7 * k) : Nat) : Int) := by
  have h : k = 0 ∨ k = 1 ∨ k = 2 ∨ k = 3 ∨ k = 4 ∨ k = 5 ∨ k = 6 ∨ k = 7 ∨ k = 8 := by omega
  rcases h with rfl | rfl | rfl | rfl | rfl | rfl | rfl | rfl | rfl <;>
    simp only [Nat.reduceMul, Nat.reducePow, Int.reducePow, Nat.mul_zero, Nat.pow_zero, Int.pow_zero] at hX ⊢ <;>
    rw [IntWalk.u64_in _ (by omega)]
  · rw [u64_orv0 _ _ (by omega) (by omega) (by omega) (by omega) (by omega)]; omega
  · rw [u64_orv7 _ _ (by omega) (by omega) (by omega) (by omega) (by omega)]; omega
  · rw [u64_orv14 _ _ (by omega) (by omega) (by omega) (by omega) (by omega)]; omega
  · rw [u64_orv21 _ _ (by omega) (by omega) (by omega) (by omega) (by omega)]; omega
  · rw [u64_orv28 _ _ (by omega) (by omega) (by omega) (by omega) (by omega)]; omega
  · rw [u64_orv35 _ _ (by omega) (by omega) (by omega) (by omega) (by omega)]; omega
  · rw [u64_orv42 _ _ (by omega) (by omega) (by omega) (by omega) (by omega)]; omega
  · rw [u64_orv49 _ _ (by omega) (by omega) (by omega) (by omega) (by omega)]; omega
  · rw [u64_orv56 _ _ (by omega) (by omega) (by omega) (by omega) (by omega)]; omega

/-- The round's own word: the low seven bits laid on top. -/
theorem uv_or_and (k X B : Nat) (hk : k ≤ 8) (hX : X < 2 ^ (7 * k)) (hB : B < 256) :
    bits .or .u64 (X : Int) (IntKind.u64.wrap (IntKind.u64.wrap (bits .and .u8 (B : Int) 127) * 2 ^ (7 * k))) = ((X + B % 128 * 2 ^ (7 * k) : Nat) : Int) := by
  rw [u8_and127 _ (by omega) (by omega), IntWalk.u64_in ((B : Int) % 128) (by omega)]
  have := uv_or k X (B % 128) hk hX (by omega)
  rw [← this]; rfl

theorem uv_step_lt (k X B : Nat) (hX : X < 2 ^ (7 * k)) (hB : B < 128) : X + B * 2 ^ (7 * k) < 2 ^ (7 * (k + 1)) := by
  have : 2 ^ (7 * (k + 1)) = 128 * 2 ^ (7 * k) := by rw [Nat.mul_add, Nat.pow_add]; omega
  rw [this]
  have : B * 2 ^ (7 * k) ≤ 127 * 2 ^ (7 * k) := Nat.mul_le_mul_right _ (by omega)
  omega

theorem bitLen_lt128 : ∀ n : Fin 128, (n.val = 0 ∧ Lib.bitLen n.val = 0) ∨ (1 ≤ Lib.bitLen n.val ∧ Lib.bitLen n.val ≤ 7) := by decide +kernel

/-- A number's varint has one byte for each seven bits, one for 0. -/
theorem uv_size (x : Nat) (h : x < 18446744073709551616) :
    (Lib.uvarint x).length = Lib.bitLen x / 7 + (if 0 < Lib.bitLen x % 7 ∨ Lib.bitLen x / 7 = 0 then 1 else 0) := by
  induction x using Nat.strongRecOn with
  | ind x ih =>
    by_cases hx : x < 128
    · rw [Lib.uvarint_small hx, List.length_singleton]; clear ih
      rcases bitLen_lt128 ⟨x, hx⟩ with ⟨_, h0⟩ | ⟨h1, h2⟩
      · simp only at h0; rw [h0]; decide
      · simp only at h1 h2
        generalize Lib.bitLen x = n at h1 h2 ⊢
        have : n = 1 ∨ n = 2 ∨ n = 3 ∨ n = 4 ∨ n = 5 ∨ n = 6 ∨ n = 7 := by omega
        rcases this with rfl | rfl | rfl | rfl | rfl | rfl | rfl <;> decide
    · have h1 := ih (x / 128) (by omega) (by omega)
      have h2 := Lib.bitLen_shift 7 x (by omega) (by omega)
      rw [Lib.uvarint_big (by omega), List.length_cons, h1, h2, show x / 2 ^ 7 = x / 128 from rfl]
      generalize hn : Lib.bitLen (x / 128) = n
      have hn1 : 1 ≤ n := by
        rcases Nat.eq_zero_or_pos n with h0 | h0
        · exfalso
          by_cases hs : x / 128 < 128
          · rcases bitLen_lt128 ⟨x / 128, hs⟩ with ⟨h3, _⟩ | ⟨h3, _⟩
            · simp only at h3; omega
            · simp only at h3; omega
          · have := Lib.bitLen_shift 7 (x / 128) (by omega) (by omega)
            omega
        · exact h0
      by_cases h7 : 0 < n % 7
      · rw [if_pos (Or.inl h7), if_pos (Or.inl (by omega))]; omega
      · rw [if_neg (by omega), if_neg (by omega)]; omega

/-- What is read is what is written: the bytes that were read are the number's varint. -/
theorem uvGo_ok : ∀ (l : List UInt8) (k X x m : Nat), X < 2 ^ (7 * k) → uvGo k X l = .ok x m →
    k + 1 ≤ m ∧ m ≤ k + l.length ∧ m ≤ 9 ∧ X ≤ x ∧ x % 2 ^ (7 * k) = X ∧ x < 2 ^ (7 * m) ∧ l.take (m - k) = Lib.uvarint (x / 2 ^ (7 * k)) ∧ (0 < k → 0 < x / 2 ^ (7 * k))
  | [], k, X, x, m, _, h => by simp [uvGo] at h
  | b :: r, k, X, x, m, hX, h => by
    have hb : b.toNat < 256 := UInt8.toNat_lt _
    have hP : 0 < 2 ^ (7 * k) := Nat.pos_of_ne_zero (by simp)
    unfold uvGo at h
    by_cases h1 : (k = 8 ∧ 128 ≤ b.toNat) ∨ 9 ≤ k
    · rw [if_pos h1] at h; cases h
    rw [if_neg h1] at h
    by_cases h2 : b.toNat < 128
    · rw [if_pos h2] at h
      by_cases h3 : b.toNat = 0 ∧ 0 < k
      · rw [if_pos h3] at h; cases h
      · rw [if_neg h3] at h
        injection h with e1 e2
        have hd : x / 2 ^ (7 * k) = b.toNat := by
          rw [← e1, Nat.mul_comm, Nat.add_mul_div_left _ _ hP, Nat.div_eq_of_lt hX, Nat.zero_add]
        have hlt := uv_step_lt k X b.toNat hX h2
        refine ⟨by omega, by simp only [List.length_cons]; omega, by omega, by omega, ?_, by rw [← e2, ← e1]; exact hlt, ?_, ?_⟩
        · rw [← e1, Nat.mul_comm, Nat.add_mul_mod_self_left, Nat.mod_eq_of_lt hX]
        · rw [hd, ← e2, show k + 1 - k = 1 by omega, Lib.uvarint_small h2]
          simp
        · intro hk; rw [hd]; omega
    · rw [if_neg h2] at h
      have hlt := uv_step_lt k X (b.toNat % 128) hX (by omega)
      have ih := uvGo_ok r (k + 1) _ x m hlt h
      obtain ⟨g1, g2, g3, g4, g5, g6, g7, g8⟩ := ih
      have hp : 2 ^ (7 * (k + 1)) = 2 ^ (7 * k) * 128 := by rw [Nat.mul_add, Nat.pow_add]
      have hd : x / 2 ^ (7 * (k + 1)) = x / 2 ^ (7 * k) / 128 := by rw [hp, Nat.div_div_eq_div_mul]
      have hpos : 0 < x / 2 ^ (7 * k) / 128 := by rw [← hd]; exact g8 (by omega)
      have hm : x / 2 ^ (7 * k) % 128 = b.toNat % 128 := by
        have e1 : x % (2 ^ (7 * k) * 128) = X + b.toNat % 128 * 2 ^ (7 * k) := by rw [← hp]; exact g5
        have e2 : x % (2 ^ (7 * k) * 128) / 2 ^ (7 * k) = x / 2 ^ (7 * k) % 128 := Nat.mod_mul_right_div_self _ _ _
        rw [← e2, e1, Nat.mul_comm (b.toNat % 128), Nat.add_mul_div_left _ _ hP, Nat.div_eq_of_lt hX, Nat.zero_add]
      refine ⟨by omega, by simp only [List.length_cons]; omega, g3, ?_, ?_, g6, ?_, ?_⟩
      · have : 0 ≤ b.toNat % 128 * 2 ^ (7 * k) := Nat.zero_le _
        omega
      · have e3 : x % (2 ^ (7 * k) * 128) % 2 ^ (7 * k) = x % 2 ^ (7 * k) := Nat.mod_mul_right_mod _ _ _
        rw [← e3, ← hp, g5, Nat.mul_comm, Nat.add_mul_mod_self_left, Nat.mod_eq_of_lt hX]
      · rw [show m - k = (m - (k + 1)) + 1 by omega, List.take_succ_cons, g7, hd, Lib.uvarint_big (x := x / 2 ^ (7 * k)) (by omega), hm]
        congr 1
        apply UInt8.toNat_inj.1
        rw [show b.toNat % 128 + 128 = b.toNat by omega]
        simp
      · intro _; omega

theorem uvDec_ok {l : List UInt8} {x m : Nat} (h : uvDec l = .ok x m) : 1 ≤ m ∧ m ≤ l.length ∧ m ≤ 9 ∧ x < 2 ^ (7 * m) ∧ l.take m = Lib.uvarint x := by
  obtain ⟨h1, h2, h3, _, _, h4, h5, _⟩ := uvGo_ok l 0 0 x m (by decide) h
  refine ⟨by omega, by omega, h3, h4, ?_⟩
  simpa using h5
theorem uvDec_lt63 {l : List UInt8} {x m : Nat} (h : uvDec l = .ok x m) : x < 9223372036854775808 := by
  obtain ⟨_, _, h3, h4, _⟩ := uvDec_ok h
  exact Nat.lt_of_lt_of_le h4 (Nat.pow_le_pow_right (by decide) (by omega : 7 * m ≤ 63))

def UvR.no : UvR → Prop
  | .ok _ _ => False
  | _ => True
/-- Bytes of which each says that one more follows: no varint. -/
theorem uvGo_high : ∀ (l : List UInt8) (k X : Nat), (∀ b ∈ l, 128 ≤ b.toNat) → (uvGo k X l).no
  | [], _, _, _ => trivial
  | b :: r, k, X, h => by
    have hb := h b (by simp)
    unfold uvGo
    by_cases h1 : (k = 8 ∧ 128 ≤ b.toNat) ∨ 9 ≤ k
    · rw [if_pos h1]; trivial
    · rw [if_neg h1, if_neg (by omega)]; exact uvGo_high r _ _ (fun c hc => h c (by simp [hc]))
/-- .. nor with a needless zero behind. -/
theorem uvGo_high0 : ∀ (l : List UInt8) (k X : Nat), (∀ b ∈ l, 128 ≤ b.toNat) → 0 < k + l.length → (uvGo k X (l ++ [0])).no
  | [], k, X, _, hk => by
    simp only [List.length_nil, Nat.add_zero] at hk
    rw [List.nil_append]
    unfold uvGo
    by_cases h1 : (k = 8 ∧ 128 ≤ (0 : UInt8).toNat) ∨ 9 ≤ k
    · rw [if_pos h1]; trivial
    · rw [if_neg h1, if_pos (by decide), if_pos ⟨rfl, hk⟩]; trivial
  | b :: r, k, X, h, _ => by
    have hb := h b (by simp)
    rw [List.cons_append]
    unfold uvGo
    by_cases h1 : (k = 8 ∧ 128 ≤ b.toNat) ∨ 9 ≤ k
    · rw [if_pos h1]; trivial
    · rw [if_neg h1, if_neg (by omega)]; exact uvGo_high0 r _ _ (fun c hc => h c (by simp [hc])) (by omega)

/-- Each byte of a varint but the last one says that one more follows; the last one does not. -/
theorem uvarint_split (x : Nat) : ∃ (pre : List UInt8) (c : UInt8), Lib.uvarint x = pre ++ [c] ∧ (∀ b ∈ pre, 128 ≤ b.toNat) ∧ c.toNat < 128 := by
  induction x using Nat.strongRecOn with
  | ind x ih =>
    by_cases hx : x < 128
    · refine ⟨[], x.toUInt8, by rw [Lib.uvarint_small hx]; rfl, fun b hb => by simp at hb, ?_⟩
      simp; omega
    · obtain ⟨pre, c, e, h1, h2⟩ := ih (x / 128) (by omega)
      refine ⟨(x % 128 + 128).toUInt8 :: pre, c, by rw [Lib.uvarint_big (by omega), e]; rfl, fun b hb => ?_, h2⟩
      simp only [List.mem_cons] at hb
      rcases hb with rfl | hb
      · simp; omega
      · exact h1 b hb

/-- What is cut off ahead of the last byte is no varint. -/
theorem uvDec_cut (x k : Nat) (hk : k < (Lib.uvarint x).length) : (uvDec ((Lib.uvarint x).take k)).no := by
  obtain ⟨pre, c, e, h1, _⟩ := uvarint_split x
  rw [e] at hk ⊢
  simp only [List.length_append, List.length_singleton] at hk
  rw [List.take_append_of_le_length (by omega)]
  exact uvGo_high _ _ _ fun b hb => h1 b (List.mem_of_mem_take hb)

end Go.Proofs.YthfgnhgijgjggaaDoor
