/- Contracts, joined (UvPlain UvA Mem UvB UvC MhPlain MhA). -/
import Derived.Lib.VarintBits
import Derived.Lib.Varint
import Derived.IntWalk
import Derived.Lib.BitFns
import Derived.Test.YthfgnhgijgjggaaDoorProg
import Derived.WalkKit
import Derived.Deep.QuietTactic
import Derived.BigQuiet
import Derived.Lib.Hide
import Derived.Deep.Draws
import Derived.Outline
import Derived.Below
import Derived.Lib.ConvBytes
import Derived.Laws.BytesArg
import Derived.Laws.IdiomCopy
import Derived.Laws.Rows
import Derived.Laws.MakeOwn
import Derived.Lib.VarintMem
import Derived.Laws.CopyOwn
import Derived.Lib.BufferMore
import Derived.Laws.Slices
import Derived.Shelf.Bytes.SlSmallAll
import Derived.Laws.ResultCell
import Derived.Test.YthfgnhgijgjggaaDoorShelf
/- The plain law of reading a varint of a list of bytes: what it is, no program in sight. -/
namespace Go.Proofs.YthfgnhgijgjggaaDoor
open Go.RowKit

/-- What reading a varint comes to. -/
inductive UvR where
  | ok (x m : Nat)
  | over
  | notMin
  | under

/-- One byte more, at place k. -/
def uvGo : Nat → Nat → List UInt8 → UvR
  | _, _, [] => .under
  | k, X, b :: r =>
    if (k = 8 ∧ 128 ≤ b.toNat) ∨ 9 ≤ k then .over
    else if b.toNat < 128 then (if b.toNat = 0 ∧ 0 < k then .notMin else .ok (X + b.toNat * 2 ^ (7 * k)) (k + 1))
    else uvGo (k + 1) (X + (b.toNat % 128) * 2 ^ (7 * k)) r
def uvDec (l : List UInt8) : UvR := uvGo 0 0 l

theorem uv_or (k X B : Nat) (hk : k ≤ 8) (hX : X < 2 ^ (7 * k)) (hB : B < 128) :
    bits .or .u64 (X : Int) (IntKind.u64.wrap ((B : Int) * 2 ^ (7 * k))) = ((X + B * 2 ^ (7 * k) : Nat) : Int) := by
  have h : k = 0 ∨ k = 1 ∨ k = 2 ∨ k = 3 ∨ k = 4 ∨ k = 5 ∨ k = 6 ∨ k = 7 ∨ k = 8 := by omega
  rcases h with rfl | rfl | rfl | rfl | rfl | rfl | rfl | rfl | rfl <;>
    simp only [Nat.reduceMul, Nat.reducePow, Int.reducePow, Nat.mul_zero, Nat.pow_zero, Int.pow_zero] at hX ⊢ <;>
    rw [IntWalk.u64_in _ (by omega)]
  · rw [u64_orv0 _ _ (by omega) (by omega) (by omega) (by omega) (by omega)]; omega
  · rw [u64_orv7 _ _ (by omega) (by omega) (by omega) (by omega) (by omega)]; omega
  · rw [u64_orv14 _ _ (by omega) (by omega) (by omega) (by omega) (by omega)]; omega
  · rw [u64_orv21 _ _ (by omega) (by omega) (by omega) (by omega) (by omega)]; omega
  · rw [u64_orv28 _ _ (by omega) (by omega) (by omega) (by omega) (by omega)]; omega
  · rw [u64_orv35 _ _ (by omega) (by omega) (by omega) (by omega) (by omega)]; omega
  · rw [u64_orv42 _ _ (by omega) (by omega) (by omega) (by omega) (by omega)]; omega
  · rw [u64_orv49 _ _ (by omega) (by omega) (by omega) (by omega) (by omega)]; omega
  · rw [u64_orv56 _ _ (by omega) (by omega) (by omega) (by omega) (by omega)]; omega

/-- The round's own word: the low seven bits laid on top. -/
theorem uv_or_and (k X B : Nat) (hk : k ≤ 8) (hX : X < 2 ^ (7 * k)) (hB : B < 256) :
    bits .or .u64 (X : Int) (IntKind.u64.wrap (IntKind.u64.wrap (bits .and .u8 (B : Int) 127) * 2 ^ (7 * k))) = ((X + B % 128 * 2 ^ (7 * k) : Nat) : Int) := by
  rw [u8_and127 _ (by omega) (by omega), IntWalk.u64_in ((B : Int) % 128) (by omega)]
  have := uv_or k X (B % 128) hk hX (by omega)
  rw [← this]; rfl

theorem uv_step_lt (k X B : Nat) (hX : X < 2 ^ (7 * k)) (hB : B < 128) : X + B * 2 ^ (7 * k) < 2 ^ (7 * (k + 1)) := by
  have : 2 ^ (7 * (k + 1)) = 128 * 2 ^ (7 * k) := by rw [Nat.mul_add, Nat.pow_add]; omega
  rw [this]
  have : B * 2 ^ (7 * k) ≤ 127 * 2 ^ (7 * k) := Nat.mul_le_mul_right _ (by omega)
  omega

theorem bitLen_lt128 : ∀ n : Fin 128, (n.val = 0 ∧ Lib.bitLen n.val = 0) ∨ (1 ≤ Lib.bitLen n.val ∧ Lib.bitLen n.val ≤ 7) := by decide +kernel

/-- A number's varint has one byte for each seven bits, one for 0. -/
theorem uv_size (x : Nat) (h : x < 18446744073709551616) :
    (Lib.uvarint x).length = Lib.bitLen x / 7 + (if 0 < Lib.bitLen x % 7 ∨ Lib.bitLen x / 7 = 0 then 1 else 0) := by
  induction x using Nat.strongRecOn with
  | ind x ih =>
    by_cases hx : x < 128
    · rw [Lib.uvarint_small hx, List.length_singleton]; clear ih
      rcases bitLen_lt128 ⟨x, hx⟩ with ⟨_, h0⟩ | ⟨h1, h2⟩
      · simp only at h0; rw [h0]; decide
      · simp only at h1 h2
        generalize Lib.bitLen x = n at h1 h2 ⊢
        have : n = 1 ∨ n = 2 ∨ n = 3 ∨ n = 4 ∨ n = 5 ∨ n = 6 ∨ n = 7 := by omega
        rcases this with rfl | rfl | rfl | rfl | rfl | rfl | rfl <;> decide
    · have h1 := ih (x / 128) (by omega) (by omega)
      have h2 := Lib.bitLen_shift 7 x (by omega) (by omega)
      rw [Lib.uvarint_big (by omega), List.length_cons, h1, h2, show x / 2 ^ 7 = x / 128 from rfl]
      generalize hn : Lib.bitLen (x / 128) = n
      have hn1 : 1 ≤ n := by
        rcases Nat.eq_zero_or_pos n with h0 | h0
        · exfalso
          by_cases hs : x / 128 < 128
          · rcases bitLen_lt128 ⟨x / 128, hs⟩ with ⟨h3, _⟩ | ⟨h3, _⟩
            · simp only at h3; omega
            · simp only at h3; omega
          · have := Lib.bitLen_shift 7 (x / 128) (by omega) (by omega)
            omega
        · exact h0
      by_cases h7 : 0 < n % 7
      · rw [if_pos (Or.inl h7), if_pos (Or.inl (by omega))]; omega
      · rw [if_neg (by omega), if_neg (by omega)]; omega

/-- What is read is what is written: the bytes that were read are the number's varint. -/
theorem uvGo_ok : ∀ (l : List UInt8) (k X x m : Nat), X < 2 ^ (7 * k) → uvGo k X l = .ok x m →
    k + 1 ≤ m ∧ m ≤ k + l.length ∧ m ≤ 9 ∧ X ≤ x ∧ x % 2 ^ (7 * k) = X ∧ x < 2 ^ (7 * m) ∧ l.take (m - k) = Lib.uvarint (x / 2 ^ (7 * k)) ∧ (0 < k → 0 < x / 2 ^ (7 * k))
  | [], k, X, x, m, _, h => by simp [uvGo] at h
  | b :: r, k, X, x, m, hX, h => by
    have hb : b.toNat < 256 := UInt8.toNat_lt _
    have hP : 0 < 2 ^ (7 * k) := Nat.pos_of_ne_zero (by simp)
    unfold uvGo at h
    by_cases h1 : (k = 8 ∧ 128 ≤ b.toNat) ∨ 9 ≤ k
    · rw [if_pos h1] at h; cases h
    rw [if_neg h1] at h
    by_cases h2 : b.toNat < 128
    · rw [if_pos h2] at h
      by_cases h3 : b.toNat = 0 ∧ 0 < k
      · rw [if_pos h3] at h; cases h
      · rw [if_neg h3] at h
        injection h with e1 e2
        have hd : x / 2 ^ (7 * k) = b.toNat := by
          rw [← e1, Nat.mul_comm, Nat.add_mul_div_left _ _ hP, Nat.div_eq_of_lt hX, Nat.zero_add]
        have hlt := uv_step_lt k X b.toNat hX h2
        refine ⟨by omega, by simp only [List.length_cons]; omega, by omega, by omega, ?_, by rw [← e2, ← e1]; exact hlt, ?_, ?_⟩
        · rw [← e1, Nat.mul_comm, Nat.add_mul_mod_self_left, Nat.mod_eq_of_lt hX]
        · rw [hd, ← e2, show k + 1 - k = 1 by omega, Lib.uvarint_small h2]
          simp
        · intro hk; rw [hd]; omega
    · rw [if_neg h2] at h
      have hlt := uv_step_lt k X (b.toNat % 128) hX (by omega)
      have ih := uvGo_ok r (k + 1) _ x m hlt h
      obtain ⟨g1, g2, g3, g4, g5, g6, g7, g8⟩ := ih
      have hp : 2 ^ (7 * (k + 1)) = 2 ^ (7 * k) * 128 := by rw [Nat.mul_add, Nat.pow_add]
      have hd : x / 2 ^ (7 * (k + 1)) = x / 2 ^ (7 * k) / 128 := by rw [hp, Nat.div_div_eq_div_mul]
      have hpos : 0 < x / 2 ^ (7 * k) / 128 := by rw [← hd]; exact g8 (by omega)
      have hm : x / 2 ^ (7 * k) % 128 = b.toNat % 128 := by
        have e1 : x % (2 ^ (7 * k) * 128) = X + b.toNat % 128 * 2 ^ (7 * k) := by rw [← hp]; exact g5
        have e2 : x % (2 ^ (7 * k) * 128) / 2 ^ (7 * k) = x / 2 ^ (7 * k) % 128 := Nat.mod_mul_right_div_self _ _ _
        rw [← e2, e1, Nat.mul_comm (b.toNat % 128), Nat.add_mul_div_left _ _ hP, Nat.div_eq_of_lt hX, Nat.zero_add]
      refine ⟨by omega, by simp only [List.length_cons]; omega, g3, ?_, ?_, g6, ?_, ?_⟩
      · have : 0 ≤ b.toNat % 128 * 2 ^ (7 * k) := Nat.zero_le _
        omega
      · have e3 : x % (2 ^ (7 * k) * 128) % 2 ^ (7 * k) = x % 2 ^ (7 * k) := Nat.mod_mul_right_mod _ _ _
        rw [← e3, ← hp, g5, Nat.mul_comm, Nat.add_mul_mod_self_left, Nat.mod_eq_of_lt hX]
      · rw [show m - k = (m - (k + 1)) + 1 by omega, List.take_succ_cons, g7, hd, Lib.uvarint_big (x := x / 2 ^ (7 * k)) (by omega), hm]
        congr 1
        apply UInt8.toNat_inj.1
        rw [show b.toNat % 128 + 128 = b.toNat by omega]
        simp
      · intro _; omega

theorem uvDec_ok {l : List UInt8} {x m : Nat} (h : uvDec l = .ok x m) : 1 ≤ m ∧ m ≤ l.length ∧ m ≤ 9 ∧ x < 2 ^ (7 * m) ∧ l.take m = Lib.uvarint x := by
  obtain ⟨h1, h2, h3, _, _, h4, h5, _⟩ := uvGo_ok l 0 0 x m (by decide) h
  refine ⟨by omega, by omega, h3, h4, ?_⟩
  simpa using h5
theorem uvDec_lt63 {l : List UInt8} {x m : Nat} (h : uvDec l = .ok x m) : x < 9223372036854775808 := by
  obtain ⟨_, _, h3, h4, _⟩ := uvDec_ok h
  exact Nat.lt_of_lt_of_le h4 (Nat.pow_le_pow_right (by decide) (by omega : 7 * m ≤ 63))

def UvR.no : UvR → Prop
  | .ok _ _ => False
  | _ => True
/-- Bytes of which each says that one more follows: no varint. -/
theorem uvGo_high : ∀ (l : List UInt8) (k X : Nat), (∀ b ∈ l, 128 ≤ b.toNat) → (uvGo k X l).no
  | [], _, _, _ => trivial
  | b :: r, k, X, h => by
    have hb := h b (by simp)
    unfold uvGo
    by_cases h1 : (k = 8 ∧ 128 ≤ b.toNat) ∨ 9 ≤ k
    · rw [if_pos h1]; trivial
    · rw [if_neg h1, if_neg (by omega)]; exact uvGo_high r _ _ (fun c hc => h c (by simp [hc]))
/-- .. nor with a needless zero behind. -/
theorem uvGo_high0 : ∀ (l : List UInt8) (k X : Nat), (∀ b ∈ l, 128 ≤ b.toNat) → 0 < k + l.length → (uvGo k X (l ++ [0])).no
  | [], k, X, _, hk => by
    simp only [List.length_nil, Nat.add_zero] at hk
    rw [List.nil_append]
    unfold uvGo
    by_cases h1 : (k = 8 ∧ 128 ≤ (0 : UInt8).toNat) ∨ 9 ≤ k
    · rw [if_pos h1]; trivial
    · rw [if_neg h1, if_pos (by decide), if_pos ⟨rfl, hk⟩]; trivial
  | b :: r, k, X, h, _ => by
    have hb := h b (by simp)
    rw [List.cons_append]
    unfold uvGo
    by_cases h1 : (k = 8 ∧ 128 ≤ b.toNat) ∨ 9 ≤ k
    · rw [if_pos h1]; trivial
    · rw [if_neg h1, if_neg (by omega)]; exact uvGo_high0 r _ _ (fun c hc => h c (by simp [hc])) (by omega)

/-- Each byte of a varint but the last one says that one more follows; the last one does not. -/
theorem uvarint_split (x : Nat) : ∃ (pre : List UInt8) (c : UInt8), Lib.uvarint x = pre ++ [c] ∧ (∀ b ∈ pre, 128 ≤ b.toNat) ∧ c.toNat < 128 := by
  induction x using Nat.strongRecOn with
  | ind x ih =>
    by_cases hx : x < 128
    · refine ⟨[], x.toUInt8, by rw [Lib.uvarint_small hx]; rfl, fun b hb => by simp at hb, ?_⟩
      simp; omega
    · obtain ⟨pre, c, e, h1, h2⟩ := ih (x / 128) (by omega)
      refine ⟨(x % 128 + 128).toUInt8 :: pre, c, by rw [Lib.uvarint_big (by omega), e]; rfl, fun b hb => ?_, h2⟩
      simp only [List.mem_cons] at hb
      rcases hb with rfl | hb
      · simp; omega
      · exact h1 b hb

/-- What is cut off ahead of the last byte is no varint. -/
theorem uvDec_cut (x k : Nat) (hk : k < (Lib.uvarint x).length) : (uvDec ((Lib.uvarint x).take k)).no := by
  obtain ⟨pre, c, e, h1, _⟩ := uvarint_split x
  rw [e] at hk ⊢
  simp only [List.length_append, List.length_singleton] at hk
  rw [List.take_append_of_le_length (by omega)]
  exact uvGo_high _ _ _ fun b hb => h1 b (List.mem_of_mem_take hb)

end Go.Proofs.YthfgnhgijgjggaaDoor
namespace Go.Proofs.YthfgnhgijgjggaaDoor
open Go.RowKit

def UvR.val (E1 E2 E3 : Value) : UvR → Value
  | .ok x m => .tuple #[.int .u64 x, .int .i64 m, .nilIface]
  | .over => .tuple #[.int .u64 0, .int .i64 0, E1]
  | .notMin => .tuple #[.int .u64 0, .int .i64 0, E2]
  | .under => .tuple #[.int .u64 0, .int .i64 0, E3]

theorem UvR.ok_eq {E1 E2 E3 : Value} {Y M : Int} {x m : Nat} (h : Y = x) (h2 : M = m) : Ending.returned (.tuple #[.int .u64 Y, .int .i64 M, .nilIface]) = .returned ((UvR.ok x m).val E1 E2 E3) := by
  rw [h, h2]; rfl

set_option maxRecDepth 100000 in
set_option maxHeartbeats 1000000 in
theorem fromUv_any (b o n c : Nat) (l : List UInt8) (w : World) (hl : l.length = n) (hm : n ≤ 9223372036854775807)
    (hc : ∀ j (h : j < l.length), w.cell? ⟨b, o + j, none⟩ = some (.int .u8 (l[j].toNat)))
    (T : TypeId) (p1 p2 p3 : Value)
    (h1 : w.cell? ⟨2, 0, none⟩ = some (.iface T p1)) (h2 : w.cell? ⟨3, 0, none⟩ = some (.iface T p2)) (h3 : w.cell? ⟨4, 0, none⟩ = some (.iface T p3)) :
    Calls Tryd.prog 79 #[.slice (some ⟨b, o, none⟩) n c] w fun e w' =>
      e = .returned ((uvDec l).val (.iface T p1) (.iface T p2) (.iface T p3)) ∧ ∃ q, w' = w.drewN q := by
  go_enter Tryd.func79, Tryd.ntmps79
  go_wp2
  go_loop [5, 6, 11] (fun x sh i => ∃ (k X : Nat), k ≤ n ∧ k ≤ 9 ∧ X < 2 ^ (7 * k) ∧ i = .int .i64 k ∧ sh = .int .u64 (7 * k : Nat) ∧ x = .int .u64 X ∧ Hid (uvDec l = uvGo k X (l.drop k))) (fun _ _ i => n - (intOf i).toNat)
  case atStart => exact ⟨0, 0, by omega, by omega, by decide, rfl, rfl, rfl, Lib.hid rfl⟩
  case round =>
    obtain ⟨k, X, hk, hk10, hX, rfl, rfl, rfl, hd⟩ := hrel
    by_cases hlt : k < n
    · have hlt' : k < l.length := by omega
      have hcell := hc k hlt'
      have hb : l[k].toNat < 256 := UInt8.toNat_lt _
      obtain ⟨B, hB⟩ : ∃ B, B = l[k].toNat := ⟨_, rfl⟩
      rw [← hB] at hcell hb
      have HB := Lib.hid hB
      clear hB hc
      have hstep : uvGo k X (l.drop k) = (if (k = 8 ∧ 128 ≤ B) ∨ 9 ≤ k then .over
          else if B < 128 then (if B = 0 ∧ 0 < k then .notMin else .ok (X + B * 2 ^ (7 * k)) (k + 1))
          else uvGo (k + 1) (X + (B % 128) * 2 ^ (7 * k)) (l.drop (k + 1))) := by
        rw [List.drop_eq_getElem_cons hlt', uvGo, ← HB.out]
      by_cases h9 : k = 9
      · subst h9
        have hfin : Hid (uvDec l = .over) := Lib.hid (by rw [hd.out, hstep, if_pos (Or.inr (by omega))])
        clear hd hstep HB
        go_wp2
        go_quiet (fail)
        go_wp2
        go_ret3
        exact ⟨by rw [hfin.out]; rfl, _, rfl⟩
      by_cases hge : 128 ≤ B
      · by_cases h8 : k = 8
        · subst h8
          have hfin : Hid (uvDec l = .over) := Lib.hid (by rw [hd.out, hstep, if_pos (Or.inl ⟨rfl, hge⟩)])
          clear hd hstep HB
          go_wp2
          go_quiet (fail)
          go_wp2
          go_ret3
          exact ⟨by rw [hfin.out]; rfl, _, rfl⟩
        · have hfin : Hid (uvDec l = uvGo (k + 1) (X + (B % 128) * 2 ^ (7 * k)) (l.drop (k + 1))) := Lib.hid (by
            rw [hd.out, hstep, if_neg (by omega), if_neg (by omega)])
          clear hd hstep HB
          have hk8 : ((k : Int) == 8) = false := by simp; omega
          have hor := Lib.hid (uv_or_and k X B (by omega) hX hb)
          have hlt2 := uv_step_lt k X (B % 128) hX (by omega)
          go_wp2
          exact ⟨⟨k + 1, X + B % 128 * 2 ^ (7 * k), by omega, by omega, hlt2, by go_num, by go_num, by rw [hor.out], hfin⟩, by simp [intOf]; omega⟩
      · by_cases hz : B = 0 ∧ 0 < k
        · obtain ⟨rfl, hz⟩ := hz
          have hfin : Hid (uvDec l = .notMin) := Lib.hid (by rw [hd.out, hstep, if_neg (by omega), if_pos (by omega), if_pos ⟨rfl, hz⟩])
          clear hd hstep HB
          have hk9' : (k : Int) < 9 := by omega
          by_cases hk8 : k = 8
          · subst hk8
            go_wp2
            go_quiet (fail)
            go_wp2
            go_ret3
            exact ⟨by rw [hfin.out]; rfl, _, rfl⟩
          · have hk8' : ((k : Int) == 8) = false := by simp; omega
            go_wp2
            go_quiet (fail)
            go_wp2
            go_ret3
            exact ⟨by rw [hfin.out]; rfl, _, rfl⟩
        · have hfin : Hid (uvDec l = .ok (X + B * 2 ^ (7 * k)) (k + 1)) := Lib.hid (by rw [hd.out, hstep, if_neg (by omega), if_pos (by omega), if_neg hz])
          have hor := Lib.hid (uv_or k X B (by omega) hX (by omega))
          clear hd hstep HB
          have hk9' : (k : Int) < 9 := by omega
          by_cases hB0 : B = 0
          · subst hB0
            have hk0 : k = 0 := by omega
            subst hk0
            have hfin' : Hid (uvDec l = .ok X 1) := Lib.hid (by rw [hfin.out]; simp)
            simp only [Nat.add_zero, Int.natCast_zero] at hcell
            clear hor hfin
            have hor0 : Hid (bits .or .u64 (X : Int) 0 = (X : Nat)) := Lib.hid (by rw [u64_orv0 _ _ (by omega) (by omega) (by omega) (by omega) (by omega)]; omega)
            go_wp2
            go_ret3
            exact ⟨by rw [hfin'.out]; exact UvR.ok_eq hor0.out rfl, 0, rfl⟩
          · have hB0' : ((B : Int) == 0) = false := by simp; omega
            by_cases hk8 : k = 8
            · subst hk8
              have hor8 : Hid (bits .or .u64 (X : Int) ((B : Int) * 72057594037927936) = ((X + B * 2 ^ (7 * 8) : Nat) : Int)) := Lib.hid (by
                rw [← hor.out, IntWalk.u64_in _ (by omega)]; rfl)
              clear hor
              go_wp2
              go_ret3
              exact ⟨by rw [hfin.out]; exact UvR.ok_eq hor8.out rfl, 0, rfl⟩
            · have hk8' : ((k : Int) == 8) = false := by simp; omega
              go_wp2
              go_ret3
              exact ⟨by rw [hfin.out]; exact UvR.ok_eq hor.out (by omega), 0, rfl⟩
    · have hkn : k = l.length := by omega
      have hfin : Hid (uvDec l = .under) := Lib.hid (by rw [hd.out, hkn, List.drop_length]; rfl)
      clear hd hkn hc
      go_wp2
      go_quiet (fail)
      go_wp2
      go_ret3
      exact ⟨by rw [hfin.out]; rfl, _, rfl⟩
end Go.Proofs.YthfgnhgijgjggaaDoor
/- Words on memory for the proofs of this seat: a slice that reads as bytes, what a call leaves as it was. No program in sight. -/
namespace Go.Proofs.YthfgnhgijgjggaaDoor
open Go.RowKit

theorem below_drewN (B : Nat) (w : World) (n : Nat) : Below B w (w.drewN n) := ⟨rfl, rfl, rfl, Nat.le_refl _, fun _ _ => rfl⟩
theorem _root_.Go.RowKit.Below.drewN {B : Nat} {a w : World} (h : Below B a w) (n : Nat) : Below B a (w.drewN n) := h.trans (below_drewN B w n)
/-- The frame from call to call: each call leaves below ITS heap's size all as it was. -/
theorem below_next {w a b : World} (h : Below w.heap.size w a) (k : Below a.heap.size a b) : Below w.heap.size w b := h.trans (k.mono h.size)
theorem below_cell {w w' : World} (h : Below w.heap.size w w') {p : Addr} {v : Value} (hc : w.cell? p = some v) : w'.cell? p = some v := by
  rcases Nat.lt_or_ge p.block w.heap.size with hp | hp
  · exact (h.cell hp).trans hc
  · unfold World.cell? at hc; rw [Array.getElem?_eq_none hp] at hc; cases hc
theorem block_of_cell {w : World} {p : Addr} {v : Value} (hc : w.cell? p = some v) : p.block < w.heap.size := by
  rcases Nat.lt_or_ge p.block w.heap.size with hp | hp
  · exact hp
  · unfold World.cell? at hc; rw [Array.getElem?_eq_none hp] at hc; cases hc

theorem ba_append (a b : ByteArray) : (a ++ b).data.toList = a.data.toList ++ b.data.toList := by
  obtain ⟨⟨l⟩⟩ := a
  obtain ⟨⟨r⟩⟩ := b
  simp
theorem ba_len (a : ByteArray) : a.data.toList.length = a.size := by rw [Array.length_toList]; rfl
theorem ba_mk (a : ByteArray) : (⟨a.data.toList.toArray⟩ : ByteArray) = a := by obtain ⟨⟨l⟩⟩ := a; rfl

/-- The slice value v holds the bytes l (nil and empty let in). -/
def BS (w : World) (v : Value) (l : List UInt8) : Prop :=
  ∃ (A : Option Addr) (c : Nat), v = .slice A l.length c ∧ l.length ≤ c ∧
    (0 < l.length → ∃ b o, A = some ⟨b, o, none⟩ ∧ ∀ j (h : j < l.length), w.cell? ⟨b, o + j, none⟩ = some (.int .u8 (l[j].toNat)))

theorem BS.keep {w w' : World} {v : Value} {l : List UInt8} (h : BS w v l) (hk : ∀ p u, w.cell? p = some u → w'.cell? p = some u) : BS w' v l := by
  obtain ⟨A, c, e, hc, h⟩ := h
  refine ⟨A, c, e, hc, fun hl => ?_⟩
  obtain ⟨b, o, e, h⟩ := h hl
  exact ⟨b, o, e, fun j hj => hk _ _ (h j hj)⟩
theorem BS.below {w w' : World} {v : Value} {l : List UInt8} (h : BS w v l) (hb : Below w.heap.size w w') : BS w' v l := h.keep fun _ _ hc => below_cell hb hc
theorem BS.drewN {w : World} {v : Value} {l : List UInt8} (h : BS w v l) (n : Nat) : BS (w.drewN n) v l := h
theorem BS.nil (w : World) (c : Nat) : BS w (.slice none 0 c) [] := ⟨none, c, rfl, Nat.zero_le _, fun h => absurd h (by simp)⟩
theorem BS.of_cells {w : World} {b o c : Nat} {l : List UInt8} (hc : l.length ≤ c) (h : ∀ j (h : j < l.length), w.cell? ⟨b, o + j, none⟩ = some (.int .u8 (l[j].toNat))) : BS w (.slice (some ⟨b, o, none⟩) l.length c) l :=
  ⟨_, c, rfl, hc, fun _ => ⟨b, o, rfl, h⟩⟩

section
variable {P : Program}
/-- '[]byte(s)': a new row with the bytes of s, told by what it is good for. -/
theorem conv_bytes {src dst e : TypeId} (hs : P.underlying src = some .string) (hd : P.underlying dst = some (.slice e)) (he : P.underlying e = some (.int .u8)) (w : World) (s : ByteArray) :
    ∃ c w1, (convert src dst (.string s)).run P w = .ok (.slice (some ⟨w.heap.size, 0, none⟩) s.size c) w1 ∧ s.size ≤ c ∧ Below w.heap.size w w1 ∧ w1.heap.size = w.heap.size + 1 ∧
      (∃ m, w1.heap[w.heap.size]? = some (.cells (Lib.bytesCells w e s) e m)) ∧
      ∀ j (h : j < s.data.toList.length), w1.cell? ⟨w.heap.size, 0 + j, none⟩ = some (.int .u8 (s.data.toList[j].toNat)) := by
  have hcap : s.size ≤ grownCap w s.size 0 e := grownCap_ge _ _ _ _
  refine ⟨_, _, Lib.run_convert_string_bytes w src dst e s hs hd he, hcap, ⟨?_, ?_, ?_, ?_, ?_⟩, Lib.bytesWorld_size w e s, ⟨_, Lib.bytesWorld_at_new w e s⟩, ?_⟩
  · simp [Lib.bytesWorld, World.freeze, World.alloc, World.drew, -World.alloc_eq, -World.drew_eq]
  · simp [Lib.bytesWorld, World.freeze, World.alloc, World.drew, -World.alloc_eq, -World.drew_eq]
  · simp [Lib.bytesWorld, World.freeze, World.alloc, World.drew, -World.alloc_eq, -World.drew_eq]
  · rw [Lib.bytesWorld_size]; omega
  · exact fun k hk => Lib.bytesWorld_at_old w e s k hk
  · intro j hj
    rw [Nat.zero_add, Lib.bytesWorld_cell w e s j (by show j < s.data.size; rw [← Array.length_toList]; exact hj)]
    rw [List.getD, List.getElem?_eq_getElem hj]; rfl
end
/-- Only block g has turned, and no block is new. -/
structure Turn (g : Nat) (w w' : World) : Prop where
  os : w'.os = w.os
  tape : w'.tape = w.tape
  output : w'.output = w.output
  size : w'.heap.size = w.heap.size
  block : ∀ k, k ≠ g → w'.heap[k]? = w.heap[k]?
theorem Turn.below {g B : Nat} {w w' : World} (h : Turn g w w') (hB : B ≤ g) : Below B w w' :=
  ⟨h.os, h.tape, h.output, by rw [h.size]; exact Nat.le_refl _, fun k hk => h.block k (by omega)⟩
theorem Turn.trans {g : Nat} {a b c : World} (h : Turn g a b) (k : Turn g b c) : Turn g a c :=
  ⟨k.os.trans h.os, k.tape.trans h.tape, k.output.trans h.output, k.size.trans h.size, fun i hi => (k.block i hi).trans (h.block i hi)⟩
theorem Turn.refl (g : Nat) (w : World) : Turn g w w := ⟨rfl, rfl, rfl, rfl, fun _ _ => rfl⟩
theorem turn_setCell (g o : Nat) (w : World) (v : Value) : Turn g w (w.setCell ⟨g, o, none⟩ v) :=
  ⟨rfl, rfl, rfl, by simp [World.setCell], fun k hk => Below.heap_setCell _ _ _ _ hk⟩
theorem turn_setCells (g : Nat) : ∀ (vs : List Value) (o : Nat) (w : World), Turn g w (w.setCells g o vs)
  | [], _, w => Turn.refl g w
  | v :: r, o, w => (turn_setCell g o w v).trans (turn_setCells g r (o + 1) _)
theorem Turn.cell {g : Nat} {w w' : World} (h : Turn g w w') {p : Addr} (hp : p.block ≠ g) : w'.cell? p = w.cell? p := World.cell?_of_block (w := w) (h.block p.block hp)

theorem splice_get {α : Type} (L : List α) (off : Nat) (cs : List α) (h : off + cs.length ≤ L.length) (i : Nat) :
    (splice L off cs)[i]? = if off ≤ i ∧ i < off + cs.length then cs[i - off]? else L[i]? := by
  have e : (L.take off).length = off := by rw [List.length_take]; omega
  unfold splice
  by_cases h1 : i < off
  · rw [List.getElem?_append_left (by omega), List.getElem?_take_of_lt h1, if_neg (by omega)]
  · rw [List.getElem?_append_right (by omega), e]
    by_cases h2 : i < off + cs.length
    · rw [List.getElem?_append_left (by omega), if_pos (by omega)]
    · rw [List.getElem?_append_right (by omega), if_neg (by omega), List.getElem?_drop]
      congr 1; omega

/-- Cells laid over a known row. -/
theorem row_setCells {g : Nat} {t : TypeId} {m : Nat × Nat} : ∀ (vs : List Value) (o : Nat) (cur : List Value) (w : World), w.heap[g]? = some (.cells cur.toArray t m) → o + vs.length ≤ cur.length →
    (w.setCells g o vs).heap[g]? = some (.cells (splice cur o vs).toArray t m)
  | [], o, cur, w, h, _ => by simpa [World.setCells, splice] using h
  | v :: r, o, cur, w, h, hf => by
    have h1 := Lib.heap_setCell_same (i := o) h v
    simp only [List.setIfInBounds_toArray] at h1
    simp only [List.length_cons] at hf
    have hl : o + 1 + r.length ≤ (cur.set o v).length := by rw [List.length_set]; omega
    have h2 := row_setCells r (o + 1) (cur.set o v) (w.setCell ⟨g, o, none⟩ v) h1 hl
    rw [World.setCells, h2]
    congr 3
    apply List.ext_getElem?
    intro i
    rw [splice_get _ _ _ hl, splice_get _ _ _ (by simp only [List.length_cons]; omega), List.getElem?_set]
    simp only [List.length_cons]
    by_cases h3 : i = o
    · subst h3
      rw [if_neg (by omega), if_pos rfl, if_pos (by omega), if_pos (by omega)]; simp
    · by_cases h4 : o + 1 ≤ i ∧ i < o + 1 + r.length
      · rw [if_pos h4, if_pos (by omega), show i - o = (i - (o + 1)) + 1 by omega]; simp
      · rw [if_neg h4, if_neg (by omega), if_neg (by omega)]

theorem cell_of_row' {w : World} {g : Nat} {cur : List Value} {t : TypeId} {m : Nat × Nat} (h : w.heap[g]? = some (.cells cur.toArray t m)) (i : Nat) : w.cell? ⟨g, i, none⟩ = cur[i]? := by
  simp [World.cell?, h]
theorem frozen_of_row' {w : World} {g : Nat} {cur : List Value} {t : TypeId} (h : w.heap[g]? = some (.cells cur.toArray t (0, 0))) (i : Nat) : w.frozen? ⟨g, i, none⟩ = false := by
  simp [World.frozen?, h]

section
variable {P : Program}
/-- 'make([]byte, n)': a new row of zeros. -/
theorem make_bytes {t e : TypeId} (ht : P.underlying t = some (.slice e)) (hinfo : (P.info? e).map (fun i => (i.zero, i.size, i.bytes)) = some (some (.int .u8 0), 1, 1)) (w : World) (n : Nat) (hn : n ≤ 281474976710656) :
    ∃ w1, (Instr.makeSlice t (.int .i64 (n : Int)) (.int .i64 (n : Int))).run P w = .ok (.slice (some ⟨w.heap.size, 0, none⟩) n n) w1 ∧ Below w.heap.size w w1 ∧ w1.heap.size = w.heap.size + 1 ∧
      w1.heap[w.heap.size]? = some (.cells (List.replicate n (Value.int .u8 0)).toArray e (0, 0)) := by
  obtain ⟨i, hi, h2⟩ := Option.map_eq_some_iff.1 hinfo
  simp only [Prod.mk.injEq] at h2
  obtain ⟨hz, hsz, hby⟩ := h2
  have hr := run_make (P := P) w t e i _ ht hi hz .i64 .i64 (n : Int) (n : Int) (by omega) (by omega) (by rw [hby]; omega) (by omega)
  simp only [Int.toNat_natCast, hsz, Nat.mul_one] at hr
  refine ⟨_, hr, (Below.refl _ _).alloc (Nat.le_refl _) _, by simp, ?_⟩
  rw [heap_alloc_new]
  congr 2
  apply Array.ext
  · simp [size_madeCells]
  · intro j h1 h2
    have h0 : [Value.int IntKind.u8 0][j % 1]?.getD default = Value.int IntKind.u8 0 := by rw [Nat.mod_one]; rfl
    simp [madeCells, Value.cells, h0]

theorem strOfNums_bytes (l : List UInt8) : strOfNums (l.map fun b => (b.toNat : Int)) = ⟨l.toArray⟩ := by
  unfold strOfNums
  congr 2
  rw [List.map_map]
  conv => rhs; rw [← List.map_id l]
  apply List.map_congr_left
  intro x _
  simp

/-- 'string(b)': the bytes that the slice holds. -/
theorem BS.str {src e dst : TypeId} (hs : P.underlying src = some (.slice e)) (he : P.underlying e = some (.int .u8)) (hd : P.underlying dst = some .string) {w : World} {A : Option Addr} {n c : Nat} {l : List UInt8}
    (h : BS w (.slice A n c) l) : (convert src dst (.slice A n c)).run P w = .ok (.string ⟨l.toArray⟩) w := by
  obtain ⟨A', c', e1, _, h⟩ := h
  injection e1 with e1 e2 e3
  subst e1 e2 e3
  rcases Nat.eq_zero_or_pos l.length with h0 | h0
  · have hl : l = [] := List.eq_nil_of_length_eq_zero h0
    subst hl
    exact run_convert_bytes_zero w src e hs he A c dst hd
  · obtain ⟨b, o, rfl, hcl⟩ := h h0
    have := run_convert_bytes_arg (P := P) w src e hs he b o l.length c (l.map fun b => (b.toNat : Int)) (by simp) (fun i hi => by
      rw [hcl i hi]; simp [List.getD, List.getElem?_map, List.getElem?_eq_getElem hi]) dst hd
    rw [this, strOfNums_bytes]
/-- A row of the call's own whose head holds the bytes. -/
theorem BS.of_row {w : World} {g c : Nat} {t : TypeId} {m : Nat × Nat} {l : List UInt8} (h : w.heap[g]? = some (.cells (Lib.byteCells l).toArray t m)) (hc : l.length ≤ c) : BS w (.slice (some ⟨g, 0, none⟩) l.length c) l :=
  BS.of_cells hc fun j hj => by rw [Nat.zero_add, cell_of_row' h]; simp [Lib.byteCells, List.getElem?_eq_getElem hj]
theorem BS.slice {w : World} {A : Option Addr} {n c : Nat} {l : List UInt8} (h : BS w (.slice A n c) l) : n = l.length ∧ l.length ≤ c := by
  obtain ⟨A', c', e1, h1, _⟩ := h
  injection e1 with e1 e2 e3
  exact ⟨e2, by rw [e3]; exact h1⟩
theorem BS.at_ {w : World} {A : Option Addr} {n c : Nat} {l : List UInt8} (h : BS w (.slice A n c) l) (h0 : 0 < n) :
    ∃ b o, A = some ⟨b, o, none⟩ ∧ ∀ j (h : j < l.length), w.cell? ⟨b, o + j, none⟩ = some (.int .u8 (l[j].toNat)) := by
  obtain ⟨A', c', e1, h1, h2⟩ := h
  injection e1 with e1 e2 e3
  subst e1
  exact h2 (by omega)

/-- 's[i]' of a string that is told by its bytes. -/
theorem idx_str {t : TypeId} (ht : P.underlying t = some .string) (u : List UInt8) (i : Nat) (c : UInt8) (h : u[i]? = some c) (x : Int) (hx : x = i) (W : World) :
    (Instr.index t (.string ⟨u.toArray⟩) (.int .i64 x)).run P W = .ok (.int .u8 (c.toNat : Int)) W := by
  subst hx
  obtain ⟨hi, hc⟩ := List.getElem?_eq_some_iff.1 h
  have hi' : (0 : Int) ≤ (i : Int) ∧ (i : Int) < ((⟨u.toArray⟩ : ByteArray).size : Int) := ⟨by omega, by show (i : Int) < ((u.toArray.size : Nat) : Int); simp; omega⟩
  rw [run_index_string (P := P) W t ⟨u.toArray⟩ .i64 (i : Int) ht, dif_pos hi']
  congr 3
  rw [← hc]; rfl

theorem run_size {e : TypeId} (hsz : (P.info? e).map (fun i => (i.zero, i.size, i.bytes)) = some (some (.int .u8 0), 1, 1)) (w : World) : (sizeOf e).run P w = .ok 1 w := by
  obtain ⟨i, hi, h2⟩ := Option.map_eq_some_iff.1 hsz
  simp only [Prod.mk.injEq] at h2
  simp [sizeOf, typeInfo, hi, h2.2.1]

/-- Where 's[k:]' begins. -/
def cutA (A : Option Addr) (c k : Nat) : Option Addr := if c = k then A else A.map (·.add (k * 1))

/-- 's[k:]'. -/
theorem BS.from_ {t e : TypeId} (ht : P.underlying t = some (.slice e)) (hsz : (P.info? e).map (fun i => (i.zero, i.size, i.bytes)) = some (some (.int .u8 0), 1, 1)) {w : World} {A : Option Addr} {n c : Nat} {l : List UInt8} (h : BS w (.slice A n c) l) (k : Nat) (hk : k ≤ n) :
    (∀ W, (Instr.slice t (.slice A n c) (some (.int .i64 (k : Int))) none none).run P W = .ok (.slice (cutA A c k) (n - k) (c - k)) W) ∧ BS w (.slice (cutA A c k) (n - k) (c - k)) (l.drop k) := by
  obtain ⟨hn, hc⟩ := h.slice
  have ht' : P.underlying t = some (.slice (P.elem t)) := by simp [Program.elem, ht]
  have he : P.elem t = e := by simp [Program.elem, ht]
  refine ⟨fun W => ?_, ?_⟩
  · rw [run_slice_l W t _ _ _ ht' .i64 _ (by omega) (by omega), he, run_size hsz, Int.toNat_natCast]; rfl
  · have e1 : n - k = (l.drop k).length := by simp; omega
    refine ⟨_, c - k, by rw [e1], by rw [← e1]; omega, fun h0 => ?_⟩
    obtain ⟨b, o, rfl, hcell⟩ := h.at_ (by omega)
    unfold cutA
    rw [if_neg (by omega)]
    refine ⟨b, o + k, ?_, fun j hj => ?_⟩
    · by_cases hk0 : k = 0
      · subst hk0; simp [Addr.add]
      · simp [Addr.add, hk0]
    · rw [Nat.add_assoc, hcell (k + j) (by simp at hj; omega), List.getElem_drop]

/-- 's[:k]'. -/
theorem BS.to_ {t e : TypeId} (ht : P.underlying t = some (.slice e)) (hsz : (P.info? e).map (fun i => (i.zero, i.size, i.bytes)) = some (some (.int .u8 0), 1, 1)) {w : World} {A : Option Addr} {n c : Nat} {l : List UInt8} (h : BS w (.slice A n c) l) (k : Nat) (hk : k ≤ n) :
    (∀ W, (Instr.slice t (.slice A n c) none (some (.int .i64 (k : Int))) none).run P W = .ok (.slice A k c) W) ∧ (∀ W, (Instr.slice t (.slice A n c) none (some (.int .u64 (k : Int))) none).run P W = .ok (.slice A k c) W) ∧ BS w (.slice A k c) (l.take k) := by
  obtain ⟨hn, hc⟩ := h.slice
  have ht' : P.underlying t = some (.slice (P.elem t)) := by simp [Program.elem, ht]
  have he : P.elem t = e := by simp [Program.elem, ht]
  have hz : sliced A 0 k c 1 = .slice A k c := by
    unfold sliced
    congr 1
    by_cases h0 : c = 0
    · rw [if_pos h0]
    · rw [if_neg h0]; cases A <;> simp [Addr.add]
  refine ⟨fun W => ?_, fun W => ?_, ?_⟩
  · rw [run_slice_h W t _ _ _ ht' .i64 _ (by omega) (by omega), he, run_size hsz, Int.toNat_natCast]; exact congrArg (fun v => Result.ok v W) hz
  · rw [run_slice_h W t _ _ _ ht' .u64 _ (by omega) (by omega), he, run_size hsz, Int.toNat_natCast]; exact congrArg (fun v => Result.ok v W) hz
  · have e1 : k = (l.take k).length := by simp; omega
    refine ⟨A, c, by rw [← e1], by rw [← e1]; omega, fun h0 => ?_⟩
    obtain ⟨b, o, rfl, hcell⟩ := h.at_ (by omega)
    exact ⟨b, o, rfl, fun j hj => by rw [hcell j (by simp at hj; omega), List.getElem_take]⟩

/-- Two results, the first a struct in a block that is known whole. -/
theorem results_row_tmp {fn : Func} {p u : Tmp} {ty : TypeId} (h : fn.results = #[.cell p ty, .tmp u]) (tmps : Array Value) (w : World) (g : Nat) (t : TypeId) (cs : Array Value) (fr : Nat × Nat) (d : TypeDesc)
    (hp : tmps.getD p undef = .pointer (some ⟨g, 0, none⟩)) (hg : w.heap[g]? = some (.cells cs t fr))
    (hu : P.underlying ty = some d) (hd : (match d with | .struct _ | .array _ _ => true | _ => false) = true) (hi : (P.info? ty).map (·.size) = some cs.size) :
    (results fn tmps).run P w = .ok (.tuple #[.agg cs, tmps.getD u undef]) w := by
  rw [results_cell_tmp h, hp]
  simp [asAddr, run_loadVar_row w g t ty cs fr d hg hu hd hi, Result.andThen]
/-- A row that a call below which it lies has left alone. -/
theorem row_below {w w' : World} {B g : Nat} {o : Obj} (hb : Below B w w') (hg : g < B) (h : w.heap[g]? = some o) : w'.heap[g]? = some o := (hb.block g hg).trans h

/-- 's[k:]', whatever it holds. -/
theorem run_from {t e : TypeId} (ht : P.underlying t = some (.slice e)) (hsz : (P.info? e).map (fun i => (i.zero, i.size, i.bytes)) = some (some (.int .u8 0), 1, 1)) (A : Option Addr) (n c k : Nat) (hk : k ≤ n) (W : World) :
    (Instr.slice t (.slice A n c) (some (.int .i64 (k : Int))) none none).run P W = .ok (.slice (cutA A c k) (n - k) (c - k)) W := by
  have ht' : P.underlying t = some (.slice (P.elem t)) := by simp [Program.elem, ht]
  have he : P.elem t = e := by simp [Program.elem, ht]
  rw [run_slice_l W t _ _ _ ht' .i64 _ (by omega) (by omega), he, run_size hsz, Int.toNat_natCast]; rfl
theorem cutA_own (g o c k : Nat) (h : k < c) : cutA (some ⟨g, o, none⟩) c k = some ⟨g, o + k, none⟩ := by
  unfold cutA
  rw [if_neg (by omega)]
  by_cases hk : k = 0 <;> simp [Addr.add, hk]
end
end Go.Proofs.YthfgnhgijgjggaaDoor
namespace Go.Proofs.YthfgnhgijgjggaaDoor
open Go.RowKit

set_option maxRecDepth 100000 in
set_option maxHeartbeats 1000000 in
theorem uvSize_any (x : Nat) (w : World) (hx : x < 18446744073709551616) :
    Calls Tryd.prog 81 #[.int .u64 x] w fun e w' => e = .returned (.int .i64 (Lib.uvarint x).length) ∧ w = w' := by
  have hs := uv_size x hx
  have hlen := Lib.uvarint_length64 hx
  have hb : Lib.bitLen x ≤ 80 := by omega
  obtain ⟨n, hn⟩ : ∃ n, n = Lib.bitLen x := ⟨_, rfl⟩
  rw [← hn] at hs hb
  have HS := Lib.hid hs
  clear hs hlen
  go_enter Tryd.func81, Tryd.ntmps81
  go_wp2_with fail
  refine (Tryd.bits_Len64 (x : Int) w (by omega) (by omega)).mono ?_
  rw [Int.toNat_natCast, ← hn]
  rintro e w' ⟨rfl, rfl⟩
  clear hn
  by_cases h7 : 0 < n % 7
  · have h7' : ((n : Int) % 7) > 0 := by omega
    go_wp2
    go_ret
    exact ⟨by rw [HS.out, if_pos (Or.inl h7)]; congr 2, rfl⟩
  · have h7' : ¬ ((n : Int) % 7) > 0 := by omega
    by_cases h0 : n / 7 = 0
    · have h0' : (((n : Int) / 7) == 0) = true := by simp; omega
      go_wp2
      go_ret
      exact ⟨by rw [HS.out, if_pos (Or.inr h0)]; congr 2, rfl⟩
    · have h0' : (((n : Int) / 7) == 0) = false := by simp; omega
      go_wp2
      go_ret
      exact ⟨by rw [HS.out, if_neg (by omega)]; congr 2, rfl⟩

theorem info_u8 : (Tryd.prog.info? 5).map (fun i => (i.zero, i.size, i.bytes)) = some (some (.int .u8 0), 1, 1) := by kernel_rfl

/-- binary.PutUvarint into a row that is known whole: the varint is laid over it. -/
theorem put_row (g o n c x : Nat) (cur : List Value) (t : TypeId) (w : World) (hx : x < 18446744073709551616) (hrow : w.heap[g]? = some (.cells cur.toArray t (0, 0)))
    (hfit : o + (Lib.uvarint x).length ≤ cur.length) (hn : (Lib.uvarint x).length ≤ n) :
    Calls Tryd.prog 102 #[.slice (some ⟨g, o, none⟩) n c, .int .u64 x] w fun e w' =>
      e = .returned (.int .i64 (Lib.uvarint x).length) ∧ Hid (w'.heap[g]? = some (.cells (splice cur o (Lib.byteCells (Lib.uvarint x))).toArray t (0, 0))) ∧ Turn g w w' := by
  refine (Tryd.binary_PutUvarint g o n c x hx w hn fun j hj => ⟨?_, frozen_of_row' hrow _⟩).mono ?_
  · rw [cell_of_row' hrow, List.getElem?_eq_getElem (by omega)]; rfl
  · rintro e w' ⟨rfl, rfl⟩
    exact ⟨rfl, Lib.hid (row_setCells _ _ _ _ hrow (by rw [Lib.byteCells_length]; exact hfit)), turn_setCells _ _ _ _⟩

/-- A byte list laid over a whole row. -/
theorem splice_all (n : Nat) (v : Value) (l : List Value) (h : l.length = n) : splice (List.replicate n v) 0 l = l := by
  subst h; simp [splice]


end Go.Proofs.YthfgnhgijgjggaaDoor
namespace Go.Proofs.YthfgnhgijgjggaaDoor
open Go.RowKit

set_option maxRecDepth 100000 in
set_option maxHeartbeats 1000000 in
theorem fromUv_none (A : Option Addr) (c : Nat) (w : World) (T : TypeId) (p3 : Value) (h3 : w.cell? ⟨4, 0, none⟩ = some (.iface T p3)) :
    Calls Tryd.prog 79 #[.slice A 0 c] w fun e w' =>
      e = .returned (.tuple #[.int .u64 0, .int .i64 0, .iface T p3]) ∧ ∃ q, w' = w.drewN q := by
  go_enter Tryd.func79, Tryd.ntmps79
  go_wp2
  refine wp_loop_rounds 1 ?_
  rw [rounds_succ]
  go_wp2
  go_quiet (fail)
  go_wp2
  go_ret3
  exact ⟨rfl, _, rfl⟩

/-- varint.FromUvarint at whatever slice: it reads as uvDec says; its errors are the three sentinels. -/
theorem fromUv (A : Option Addr) (n c : Nat) (l : List UInt8) (w : World) (hs : BS w (.slice A n c) l) (hm : l.length ≤ 9223372036854775807)
    (T : TypeId) (p1 p2 p3 : Value)
    (h1 : w.cell? ⟨2, 0, none⟩ = some (.iface T p1)) (h2 : w.cell? ⟨3, 0, none⟩ = some (.iface T p2)) (h3 : w.cell? ⟨4, 0, none⟩ = some (.iface T p3)) :
    Calls Tryd.prog 79 #[.slice A n c] w fun e w' =>
      e = .returned ((uvDec l).val (.iface T p1) (.iface T p2) (.iface T p3)) ∧ ∃ q, w' = w.drewN q := by
  obtain ⟨hn, _⟩ := hs.slice
  rcases Nat.eq_zero_or_pos n with h0 | h0
  · subst h0
    have hl : l = [] := List.eq_nil_of_length_eq_zero hn.symm
    subst hl
    exact fromUv_none A c w T p3 h3
  · obtain ⟨b, o, rfl, hc⟩ := hs.at_ h0
    exact fromUv_any b o n c l w hn.symm (by omega) hc T p1 p2 p3 h1 h2 h3



/-- What impl.UvRead answers. -/
def UvR.plain : UvR → Value
  | .ok x m => .tuple #[.int .u64 x, .int .i64 m, .bool true]
  | _ => .tuple #[.int .u64 0, .int .i64 0, .bool false]

end Go.Proofs.YthfgnhgijgjggaaDoor
/- The plain law of multihashes: how one is read of bytes, how it is written. No program in sight. -/
namespace Go.Proofs.YthfgnhgijgjggaaDoor
open Go.RowKit

/-- Reading a multihash of the beginning of bytes: how many bytes it has, its code, its digest. -/
def mhRd (l : List UInt8) : Option (Nat × Nat × List UInt8) :=
  if l.length < 2 then none else
  match uvDec l with
  | .ok code n =>
    match uvDec (l.drop n) with
    | .ok len m => if 2147483647 < len ∨ ((l.drop n).drop m).length < len then none else some (n + m + len, code, ((l.drop n).drop m).take len)
    | _ => none
  | _ => none

/-- How a multihash is written. -/
def mhEnc (code : Nat) (d : List UInt8) : List UInt8 := Lib.uvarint code ++ (Lib.uvarint d.length ++ d)

/-- A number below 2^63 that is written is read, whatever stands behind it. -/
theorem uvGo_back : ∀ (f k X y : Nat) (more : List UInt8), k + f = 9 → X < 2 ^ (7 * k) → y < 2 ^ (7 * f) → (0 < k → 0 < y) → 0 < f →
    uvGo k X (Lib.uvarint y ++ more) = .ok (X + y * 2 ^ (7 * k)) (k + (Lib.uvarint y).length)
  | 0, _, _, _, _, _, _, _, _, h => by omega
  | f + 1, k, X, y, more, hkf, hX, hy, hpos, _ => by
    by_cases h : y < 128
    · have hb : y.toUInt8.toNat = y := by simp; omega
      rw [Lib.uvarint_small h]
      show uvGo k X (y.toUInt8 :: more) = _
      unfold uvGo
      rw [hb, if_neg (by omega), if_pos h, if_neg (by intro ⟨h1, h2⟩; have := hpos h2; omega)]
      simp
    · have hb : (y % 128 + 128).toUInt8.toNat = y % 128 + 128 := by simp; omega
      rw [Lib.uvarint_big (by omega), List.cons_append]
      have hf : 0 < f := by
        rcases Nat.eq_zero_or_pos f with h0 | h0
        · subst h0; simp at hy; omega
        · exact h0
      unfold uvGo
      rw [hb, if_neg (by omega), if_neg (by omega)]
      have hlt := uv_step_lt k X ((y % 128 + 128) % 128) hX (by omega)
      have e1 : (y % 128 + 128) % 128 = y % 128 := by omega
      have hp : 2 ^ (7 * (f + 1)) = 2 ^ (7 * f) * 128 := by rw [Nat.mul_add, Nat.pow_add]
      have hpk : 2 ^ (7 * (k + 1)) = 2 ^ (7 * k) * 128 := by rw [Nat.mul_add, Nat.pow_add]
      rw [uvGo_back f (k + 1) _ (y / 128) more (by omega) hlt (by rw [hp] at hy; omega) (by omega) hf, e1, hpk]
      congr 1
      · have : y = y / 128 * 128 + y % 128 := by omega
        have e2 : y * 2 ^ (7 * k) = y / 128 * (2 ^ (7 * k) * 128) + y % 128 * 2 ^ (7 * k) := by
          conv => lhs; rw [this]
          rw [Nat.add_mul, Nat.mul_assoc, Nat.mul_comm 128]
        omega
      · simp; omega

theorem uvDec_back (x : Nat) (hx : x < 9223372036854775808) (more : List UInt8) : uvDec (Lib.uvarint x ++ more) = .ok x (Lib.uvarint x).length := by
  have := uvGo_back 9 0 0 x more rfl (by decide) (by simpa using hx) (by omega) (by decide)
  simpa [uvDec] using this

theorem mhRd_enc (code : Nat) (d more : List UInt8) (hc : code < 9223372036854775808) (hd : d.length ≤ 2147483647) :
    mhRd (mhEnc code d ++ more) = some ((mhEnc code d).length, code, d) := by
  have h1 := Lib.uvarint_pos code
  have h2 := Lib.uvarint_pos d.length
  unfold mhRd mhEnc
  have e0 : Lib.uvarint code ++ (Lib.uvarint d.length ++ d) ++ more = Lib.uvarint code ++ (Lib.uvarint d.length ++ (d ++ more)) := by simp
  rw [e0, uvDec_back code hc]
  simp only [List.drop_left]
  rw [uvDec_back d.length (by omega)]
  simp only [List.drop_left, List.take_left]
  rw [if_neg (by simp; omega), if_neg (by simp; omega)]
  simp [Nat.add_assoc]

theorem uvR_cases (r : UvR) : (∃ x m, r = .ok x m) ∨ r.no := by
  cases r with
  | ok x m => exact .inl ⟨x, m, rfl⟩
  | _ => exact .inr trivial

theorem mhRd_some {l : List UInt8} {r code : Nat} {d : List UInt8} (h : mhRd l = some (r, code, d)) :
    2 ≤ l.length ∧ ∃ m1 x2 m2, uvDec l = .ok code m1 ∧ uvDec (l.drop m1) = .ok x2 m2 ∧ x2 ≤ 2147483647 ∧ x2 ≤ ((l.drop m1).drop m2).length ∧ r = m1 + m2 + x2 ∧ d = ((l.drop m1).drop m2).take x2 := by
  unfold mhRd at h
  by_cases h2 : l.length < 2
  · rw [if_pos h2] at h; cases h
  rw [if_neg h2] at h
  refine ⟨by omega, ?_⟩
  rcases uvR_cases (uvDec l) with ⟨x1, m1, e1⟩ | hno
  · rw [e1] at h
    dsimp only at h
    rcases uvR_cases (uvDec (l.drop m1)) with ⟨x2, m2, e2⟩ | hno
    · rw [e2] at h
      dsimp only at h
      by_cases h3 : 2147483647 < x2 ∨ ((l.drop m1).drop m2).length < x2
      · rw [if_pos h3] at h; cases h
      rw [if_neg h3] at h
      simp only [Option.some.injEq, Prod.mk.injEq] at h
      obtain ⟨rfl, rfl, rfl⟩ := h
      exact ⟨m1, x2, m2, e1, e2, by omega, by omega, rfl, rfl⟩
    · cases hh : uvDec (l.drop m1) with
      | ok => rw [hh] at hno; exact False.elim hno
      | _ => rw [hh] at h; cases h
  · cases hh : uvDec l with
    | ok => rw [hh] at hno; exact False.elim hno
    | _ => rw [hh] at h; cases h

theorem mhRd_none {l : List UInt8} (h : mhRd l = none) : l.length < 2 ∨ (2 ≤ l.length ∧ ((uvDec l).no ∨ ∃ x1 m1, uvDec l = .ok x1 m1 ∧
    ((uvDec (l.drop m1)).no ∨ ∃ x2 m2, uvDec (l.drop m1) = .ok x2 m2 ∧ (2147483647 < x2 ∨ (x2 ≤ 2147483647 ∧ ((l.drop m1).drop m2).length < x2))))) := by
  by_cases h2 : l.length < 2
  · exact .inl h2
  refine .inr ⟨by omega, ?_⟩
  unfold mhRd at h
  rw [if_neg h2] at h
  rcases uvR_cases (uvDec l) with ⟨x1, m1, e1⟩ | hno
  · refine .inr ⟨x1, m1, e1, ?_⟩
    rw [e1] at h
    dsimp only at h
    rcases uvR_cases (uvDec (l.drop m1)) with ⟨x2, m2, e2⟩ | hno
    · refine .inr ⟨x2, m2, e2, ?_⟩
      rw [e2] at h
      dsimp only at h
      by_cases h3 : 2147483647 < x2 ∨ ((l.drop m1).drop m2).length < x2
      · omega
      · rw [if_neg h3] at h; cases h
    · exact .inl hno
  · exact .inl hno
end Go.Proofs.YthfgnhgijgjggaaDoor
/- Contracts of package multihash: reading the varint, the multihash, taking it apart. -/
namespace Go.Proofs.YthfgnhgijgjggaaDoor
open Go.RowKit

/-- Variable g holds an error that is not nil. -/
def IsErr (w : World) (g : Nat) : Prop := ∃ t p, w.cell? ⟨g, 0, none⟩ = some (.iface t p)
theorem IsErr.below {w w' : World} {g : Nat} (h : IsErr w g) (hb : Below w.heap.size w w') : IsErr w' g := by
  obtain ⟨t, p, h⟩ := h; exact ⟨t, p, below_cell hb h⟩
/-- The three sentinels of package varint. -/
structure UvS (w : World) : Prop where
  T : ∃ T, (∃ p, w.cell? ⟨2, 0, none⟩ = some (.iface T p)) ∧ (∃ p, w.cell? ⟨3, 0, none⟩ = some (.iface T p)) ∧ (∃ p, w.cell? ⟨4, 0, none⟩ = some (.iface T p))
theorem UvS.below {w w' : World} (h : UvS w) (hb : Below w.heap.size w w') : UvS w' := by
  obtain ⟨T, ⟨p1, h1⟩, ⟨p2, h2⟩, ⟨p3, h3⟩⟩ := h.T
  exact ⟨T, ⟨p1, below_cell hb h1⟩, ⟨p2, below_cell hb h2⟩, ⟨p3, below_cell hb h3⟩⟩
/-- .. and those of package multihash. -/
structure MhS (w : World) : Prop extends UvS w where
  short : IsErr w 8
theorem MhS.below {w w' : World} (h : MhS w) (hb : Below w.heap.size w w') : MhS w' := ⟨h.toUvS.below hb, h.short.below hb⟩

theorem fromUv_ok (A : Option Addr) (n c : Nat) (l : List UInt8) (w : World) (hs : BS w (.slice A n c) l) (hm : l.length ≤ 9223372036854775807) (hu : UvS w) (x m : Nat) (h : uvDec l = .ok x m) :
    Calls Tryd.prog 79 #[.slice A n c] w fun e w' => e = .returned (.tuple #[.int .u64 x, .int .i64 m, .nilIface]) ∧ Below w.heap.size w w' := by
  obtain ⟨T, ⟨p1, h1⟩, ⟨p2, h2⟩, ⟨p3, h3⟩⟩ := hu.T
  refine (fromUv A n c l w hs hm T p1 p2 p3 h1 h2 h3).mono fun e w' ⟨he, q, hw⟩ => ⟨?_, ?_⟩
  · rw [he, h]; rfl
  · rw [hw]; exact below_drewN _ _ _

theorem fromUv_no (A : Option Addr) (n c : Nat) (l : List UInt8) (w : World) (hs : BS w (.slice A n c) l) (hm : l.length ≤ 9223372036854775807) (hu : UvS w) (h : (uvDec l).no) :
    Calls Tryd.prog 79 #[.slice A n c] w fun e w' => ∃ t p, e = .returned (.tuple #[.int .u64 0, .int .i64 0, .iface t p]) ∧ Below w.heap.size w w' := by
  obtain ⟨T, ⟨p1, h1⟩, ⟨p2, h2⟩, ⟨p3, h3⟩⟩ := hu.T
  refine (fromUv A n c l w hs hm T p1 p2 p3 h1 h2 h3).mono fun e w' ⟨he, q, hw⟩ => ?_
  subst he
  rw [hw]
  cases hd : uvDec l with
  | ok => rw [hd] at h; exact False.elim h
  | _ => exact ⟨_, _, rfl, below_drewN _ _ _⟩

set_option maxRecDepth 100000 in
set_option maxHeartbeats 1000000 in
theorem muv_ok (A : Option Addr) (n c : Nat) (l : List UInt8) (w : World) (hs : BS w (.slice A n c) l) (hm : l.length ≤ 9223372036854775807) (hu : UvS w) (x m : Nat) (hd : uvDec l = .ok x m) :
    BS w (.slice (cutA A c m) (n - m) (c - m)) (l.drop m) ∧
    Calls Tryd.prog 119 #[.slice A n c] w fun e w' => e = .returned (.tuple #[.int .u64 x, .slice (cutA A c m) (n - m) (c - m), .nilIface]) ∧ Below w.heap.size w w' := by
  obtain ⟨hn, _⟩ := hs.slice
  obtain ⟨g1, g2, g3, _, _⟩ := uvDec_ok hd
  obtain ⟨hrun, hs'⟩ := hs.from_ (P := Tryd.prog) Tryd.underlying43 info_u8 m (by omega)
  refine ⟨hs', ?_⟩
  have m1 : ((m : Int) == 0) = false := by simp; omega
  have m2 : ¬ (m : Int) < 0 := by omega
  have HC := Lib.hid (fromUv_ok A n c l w hs hm hu x m hd)
  clear hd hn hs hu hs'
  go_enter Tryd.func119, Tryd.ntmps119
  go_wp2_with fail
  refine HC.out.mono ?_
  rintro e w1 ⟨rfl, hb⟩
  go_wp2
  go_quiet (fail)
  go_wp2
  go_ret3
  exact ⟨rfl, hb.drewN _⟩

set_option maxRecDepth 100000 in
set_option maxHeartbeats 1000000 in
theorem muv_no (A : Option Addr) (n c : Nat) (l : List UInt8) (w : World) (hs : BS w (.slice A n c) l) (hm : l.length ≤ 9223372036854775807) (hu : UvS w) (hd : (uvDec l).no) :
    Calls Tryd.prog 119 #[.slice A n c] w fun e w' => ∃ t p, e = .returned (.tuple #[.int .u64 0, .slice A n c, .iface t p]) ∧ Below w.heap.size w w' := by
  have HC := Lib.hid (fromUv_no A n c l w hs hm hu hd)
  clear hd hs hu
  go_enter Tryd.func119, Tryd.ntmps119
  go_wp2_with fail
  refine HC.out.mono ?_
  rintro e w1 ⟨t, p, rfl, hb⟩
  go_wp2
  go_ret3
  exact ⟨t, p, rfl, hb⟩

set_option maxRecDepth 100000 in
/-- errors.New: a pointer to a new block that holds the text. -/
theorem errorsNew_any (s : ByteArray) (w : World) :
    Calls Tryd.prog 103 #[.string s] w fun e w' => e = .returned (.iface 218 (.pointer (some ⟨w.heap.size, 0, none⟩))) ∧ w.alloc (.cells #[.string s] 220) = w' := by
  go_enter Tryd.func103, Tryd.ntmps103
  go_wp2
  go_ret
  exact ⟨rfl, rfl⟩
/-- .. told as an error that is not nil. -/
theorem errorsNew (s : ByteArray) (w : World) :
    Calls Tryd.prog 103 #[.string s] w fun e w' => ∃ t p, e = .returned (.iface t p) ∧ Below w.heap.size w w' :=
  (errorsNew_any s w).mono fun e w' ⟨he, hw⟩ => ⟨_, _, he, by rw [← hw]; exact (Below.refl _ _).alloc (Nat.le_refl _) _⟩

set_option maxRecDepth 100000 in
set_option maxHeartbeats 1000000 in
theorem mrd_ok (A : Option Addr) (n c : Nat) (l : List UInt8) (w : World) (hs : BS w (.slice A n c) l) (hm : l.length ≤ 2147483647) (hu : UvS w) (r code : Nat) (d : List UInt8) (hd : mhRd l = some (r, code, d)) :
    ∃ A' c', BS w (.slice A' d.length c') d ∧ ∀ w0, Below w.heap.size w w0 →
    Calls Tryd.prog 112 #[.slice A n c] w0 fun e w' => e = .returned (.tuple #[.int .i64 r, .int .u64 code, .slice A' d.length c', .nilIface]) ∧ Below w0.heap.size w0 w' := by
  obtain ⟨hn, _⟩ := hs.slice
  obtain ⟨h2, m1, x2, m2, e1, e2, hx, hx2, rfl, rfl⟩ := mhRd_some hd
  obtain ⟨g1, g2, g3, _, _⟩ := uvDec_ok e1
  obtain ⟨k1, k2, k3, _, _⟩ := uvDec_ok e2
  have hs1 := (muv_ok A n c l w hs (by omega) hu code m1 e1).1
  have hc1 : ∀ w0, Below w.heap.size w w0 → _ := fun w0 hb0 => (muv_ok A n c l w0 (hs.below hb0) (by omega) (hu.below hb0) code m1 e1).2
  have hl1 : (l.drop m1).length = l.length - m1 := by simp
  have hl2 : ((l.drop m1).drop m2).length = l.length - m1 - m2 := by rw [List.length_drop, List.length_drop]
  rw [hl1] at k2
  rw [hl2] at hx2
  have hx3 : x2 ≤ n - m1 - m2 := by omega
  have hlen : (((l.drop m1).drop m2).take x2).length = x2 := by rw [List.length_take, hl2]; omega
  have hc2 : ∀ w1, Below w.heap.size w w1 → BS w1 (.slice (cutA (cutA A c m1) (c - m1) m2) (n - m1 - m2) (c - m1 - m2)) ((l.drop m1).drop m2) ∧ Calls Tryd.prog 119 #[.slice (cutA A c m1) (n - m1) (c - m1)] w1 fun e w' =>
      e = .returned (.tuple #[.int .u64 x2, .slice (cutA (cutA A c m1) (c - m1) m2) (n - m1 - m2) (c - m1 - m2), .nilIface]) ∧ Below w1.heap.size w1 w' := fun w1 hb1 => muv_ok _ _ _ _ w1 (hs1.below hb1) (by rw [hl1]; omega) (hu.below hb1) x2 m2 e2
  obtain ⟨hrun, hrunu, hs3⟩ := (hc2 w (Below.refl _ _)).1.to_ (P := Tryd.prog) Tryd.underlying43 info_u8 x2 hx3
  rw [hlen]
  refine ⟨_, _, hs3, ?_⟩
  have HC1 := Lib.hid hc1
  have HC2 := Lib.hid hc2
  clear hc1 hc2 hs hs1 hs3 hd e1 e2 hlen hu hrun
  generalize cutA (cutA A c m1) (c - m1) m2 = A2 at *
  generalize cutA A c m1 = A1 at *
  generalize c - m1 - m2 = C2 at *
  generalize c - m1 = C1 at *
  have b1 : 2 ≤ n := by omega
  have b3 : n ≤ 2147483647 := by omega
  generalize hN1 : n - m1 = N1 at HC1 HC2 hrunu hx3 ⊢
  generalize hN2 : N1 - m2 = N2 at HC2 hrunu hx3 ⊢
  have b2 : N2 ≤ n := by omega
  have HR := Lib.hid (show (n : Int) - N2 + x2 = ((m1 + m2 + x2 : Nat) : Int) by omega)
  clear hl1 hl2 hN1 hN2 hn g1 g2 g3 k1 k2 k3 hx2 h2 hm
  intro w0 hb0
  go_enter Tryd.func112, Tryd.ntmps112
  go_wp2_with fail
  refine (HC1.out w0 hb0).mono ?_
  rintro e w1 ⟨rfl, hb1⟩
  go_wp2_with fail
  refine (HC2.out w1 (below_next hb0 hb1)).2.mono ?_
  rintro e w2 ⟨rfl, hb2⟩
  go_wp2
  go_quiet (fail)
  go_wp2
  refine bodyPost_ret (v := .tuple #[.int .i64 ((n : Int) - N2 + x2), .int .u64 code, .slice A2 x2 C2, .nilIface]) (by simp [results, Tryd.results112, go_sem]) rfl ⟨by rw [HR.out], (below_next hb1 hb2).drewN _⟩

set_option maxRecDepth 100000 in
set_option maxHeartbeats 1000000 in
theorem mrd_no (A : Option Addr) (n c : Nat) (l : List UInt8) (w : World) (hs : BS w (.slice A n c) l) (hm : l.length ≤ 2147483647) (hu : MhS w) (hd : mhRd l = none) :
    Calls Tryd.prog 112 #[.slice A n c] w fun e w' => ∃ t p, e = .returned (.tuple #[.int .i64 0, .int .u64 0, .slice none 0 0, .iface t p]) ∧ Below w.heap.size w w' := by
  obtain ⟨hn, _⟩ := hs.slice
  rcases mhRd_none hd with h2 | ⟨h2, hno | ⟨x1, m1, e1, h⟩⟩
  · obtain ⟨t, p, hsh⟩ := hu.short
    have b1 : n < 2 := by omega
    clear hs hu hd hn h2 hm
    go_enter Tryd.func112, Tryd.ntmps112
    go_wp2
    go_quiet (fail)
    go_wp2
    refine bodyPost_ret (v := .tuple #[.int .i64 0, .int .u64 0, .slice none 0 0, .iface t p]) (by simp [results, Tryd.results112, go_sem]) rfl ⟨t, p, rfl, below_drewN _ _ _⟩
  · have HC := Lib.hid (muv_no A n c l w hs (by omega) hu.toUvS hno)
    have b1 : 2 ≤ n := by omega
    clear hs hu hd hn h2 hm hno
    go_enter Tryd.func112, Tryd.ntmps112
    go_wp2_with fail
    refine HC.out.mono ?_
    rintro e w1 ⟨t, p, rfl, hb⟩
    go_wp2
    refine bodyPost_ret (v := .tuple #[.int .i64 0, .int .u64 0, .slice none 0 0, .iface t p]) (by simp [results, Tryd.results112, go_sem]) rfl ⟨t, p, rfl, hb⟩
  · obtain ⟨g1, g2, g3, _, _⟩ := uvDec_ok e1
    obtain ⟨hs1, hc1⟩ := muv_ok A n c l w hs (by omega) hu.toUvS x1 m1 e1
    have HC1 := Lib.hid hc1
    have hl1 : (l.drop m1).length = l.length - m1 := by simp
    have b1 : 2 ≤ n := by omega
    rcases h with hno | ⟨x2, m2, e2, h3⟩
    · have HC2 := Lib.hid (fun w1 (hb1 : Below w.heap.size w w1) => muv_no _ _ _ _ w1 (hs1.below hb1) (by rw [hl1]; omega) (hu.toUvS.below hb1) hno)
      clear hs hu hd hn h2 hm hno hs1 hc1 e1 g1 g2 g3 hl1
      generalize cutA A c m1 = A1 at *
      generalize n - m1 = N1 at *
      generalize c - m1 = C1 at *
      go_enter Tryd.func112, Tryd.ntmps112
      go_wp2_with fail
      refine HC1.out.mono ?_
      rintro e w1 ⟨rfl, hb1⟩
      go_wp2_with fail
      refine (HC2.out w1 hb1).mono ?_
      rintro e w2 ⟨t, p, rfl, hb2⟩
      go_wp2
      refine bodyPost_ret (v := .tuple #[.int .i64 0, .int .u64 0, .slice none 0 0, .iface t p]) (by simp [results, Tryd.results112, go_sem]) rfl ⟨t, p, rfl, below_next hb1 hb2⟩
    · obtain ⟨k1, k2, k3, k4, _⟩ := uvDec_ok e2
      have hx63 := uvDec_lt63 e2
      have hl2 : ((l.drop m1).drop m2).length = l.length - m1 - m2 := by rw [List.length_drop, List.length_drop]
      rw [hl2] at h3
      rw [hl1] at k2
      have HC2 := Lib.hid (fun w1 (hb1 : Below w.heap.size w w1) => (muv_ok _ _ _ _ w1 (hs1.below hb1) (by rw [hl1]; omega) (hu.toUvS.below hb1) x2 m2 e2).2)
      have h3' : 2147483647 < x2 ∨ (x2 ≤ 2147483647 ∧ n - m1 - m2 < x2) := by omega
      clear hs hu hd hn h2 hm hs1 hc1 e1 e2 g1 g2 g3 hl1 hl2 k1 k2 k3 k4 h3
      generalize cutA (cutA A c m1) (c - m1) m2 = A2 at *
      generalize cutA A c m1 = A1 at *
      generalize c - m1 - m2 = C2 at *
      generalize c - m1 = C1 at *
      generalize n - m1 - m2 = N2 at *
      generalize n - m1 = N1 at *
      rcases h3' with h3 | ⟨h3, h4⟩
      · go_enter Tryd.func112, Tryd.ntmps112
        go_wp2_with fail
        refine HC1.out.mono ?_
        rintro e w1 ⟨rfl, hb1⟩
        go_wp2_with fail
        refine (HC2.out w1 hb1).mono ?_
        rintro e w2 ⟨rfl, hb2⟩
        go_wp2_with fail
        refine (errorsNew _ w2).mono ?_
        rintro e w3 ⟨t, p, rfl, hb3⟩
        go_wp2
        refine bodyPost_ret (v := .tuple #[.int .i64 0, .int .u64 0, .slice none 0 0, .iface t p]) (by simp [results, Tryd.results112, go_sem]) rfl ⟨t, p, rfl, below_next (below_next hb1 hb2) hb3⟩
      · go_enter Tryd.func112, Tryd.ntmps112
        go_wp2_with fail
        refine HC1.out.mono ?_
        rintro e w1 ⟨rfl, hb1⟩
        go_wp2_with fail
        refine (HC2.out w1 hb1).mono ?_
        rintro e w2 ⟨rfl, hb2⟩
        go_wp2_with fail
        refine (errorsNew _ w2).mono ?_
        rintro e w3 ⟨t, p, rfl, hb3⟩
        go_wp2
        refine bodyPost_ret (v := .tuple #[.int .i64 0, .int .u64 0, .slice none 0 0, .iface t p]) (by simp [results, Tryd.results112, go_sem]) rfl ⟨t, p, rfl, below_next (below_next hb1 hb2) hb3⟩
end Go.Proofs.YthfgnhgijgjggaaDoor
