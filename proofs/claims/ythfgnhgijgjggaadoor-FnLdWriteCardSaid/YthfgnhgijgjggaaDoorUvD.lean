import Derived.Test.YthfgnhgijgjggaaDoorUvC
import Derived.Outline
namespace Go.Proofs.YthfgnhgijgjggaaDoor
open Go.RowKit

/-- What spec.ReadVarint answers. -/
def UvR.spec : UvR → Value
  | .ok x m => .tuple #[.int .u64 x, .int .i64 m, .int .i64 0]
  | .under => .tuple #[.int .u64 0, .int .i64 0, .int .i64 1]
  | .over => .tuple #[.int .u64 0, .int .i64 0, .int .i64 2]
  | .notMin => .tuple #[.int .u64 0, .int .i64 0, .int .i64 3]

theorem UvR.spec_eq {Y M : Int} {x m : Nat} (h : Y = x) (h2 : M = m) : Ending.returned (.tuple #[.int .u64 Y, .int .i64 M, .int .i64 0]) = .returned (UvR.ok x m).spec := by
  rw [h, h2]; rfl

set_option maxRecDepth 100000 in
set_option maxHeartbeats 1000000 in
theorem readVarint_any (s : ByteArray) (w : World) (hm : s.size ≤ 9223372036854775807) :
    Calls Tryd.prog 57 #[.string s] w fun e w' => e = .returned (uvDec s.data.toList).spec ∧ w = w' := by
  have hlen : s.data.toList.length = s.size := by rw [Array.length_toList]; rfl
  have HL := Lib.hid hlen
  clear hlen
  go_enter Tryd.func57, Tryd.ntmps57
  go_wp2
  go_loop [5, 6] (fun x i => ∃ (k X : Nat), k ≤ s.size ∧ k ≤ 9 ∧ X < 2 ^ (7 * k) ∧ i = .int .i64 k ∧ x = .int .u64 X ∧ Hid (uvDec s.data.toList = uvGo k X (s.data.toList.drop k))) (fun _ i => s.size - (intOf i).toNat)
  case atStart => exact ⟨0, 0, by omega, by omega, by decide, rfl, rfl, Lib.hid rfl⟩
  case round =>
    obtain ⟨k, X, hk, hk10, hX, rfl, rfl, hd⟩ := hrel
    by_cases hlt : k < s.size
    · have hlt' : k < s.data.toList.length := by rw [HL.out]; exact hlt
      have hsk : s.data.toList[k] = s[k] := by simp; rfl
      have hb : s[k].toNat < 256 := UInt8.toNat_lt _
      have hstep : uvGo k X (s.data.toList.drop k) = (if (k = 8 ∧ 128 ≤ s[k].toNat) ∨ 9 ≤ k then .over
          else if s[k].toNat < 128 then (if s[k].toNat = 0 ∧ 0 < k then .notMin else .ok (X + s[k].toNat * 2 ^ (7 * k)) (k + 1))
          else uvGo (k + 1) (X + (s[k].toNat % 128) * 2 ^ (7 * k)) (s.data.toList.drop (k + 1))) := by
        rw [List.drop_eq_getElem_cons hlt', uvGo, hsk]
      clear hsk
      have HST := Lib.hid hstep
      clear hstep
      go_wp2
      · have h8 : (k : Int) = 8 := by assumption
        obtain rfl : k = 8 := by omega
        have h0 : ((s[8].toNat : Int) == 0) = true := by assumption
        have h0' : s[8].toNat = 0 := by simpa using h0
        have hf : uvDec s.data.toList = .notMin := by rw [hd.out, HST.out, if_neg (by omega), if_pos (by omega), if_pos (by omega)]
        go_ret3
        exact ⟨by rw [hf]; rfl, rfl⟩
      · have h8 : (k : Int) = 8 := by assumption
        obtain rfl : k = 8 := by omega
        have h0 : ((s[8].toNat : Int) == 0) = false := by assumption
        have h0' : ¬ s[8].toNat = 0 := by simpa using h0
        have h1 : (s[8].toNat : Int) < 128 := by assumption
        have hf : uvDec s.data.toList = .ok (X + s[8].toNat * 2 ^ (7 * 8)) (8 + 1) := by rw [hd.out, HST.out, if_neg (by omega), if_pos (by omega), if_neg (by omega)]
        have hor := uv_or_and 8 X s[8].toNat (by omega) hX hb
        rw [Nat.mod_eq_of_lt (by omega)] at hor
        go_ret3
        exact ⟨by rw [hf]; exact UvR.spec_eq hor rfl, rfl⟩
      · have h8 : (k : Int) = 8 := by assumption
        obtain rfl : k = 8 := by omega
        have h1 : (128 : Int) ≤ s[8].toNat := by assumption
        have hf : uvDec s.data.toList = .over := by rw [hd.out, HST.out, if_pos (Or.inl ⟨rfl, by omega⟩)]
        go_ret3
        exact ⟨by rw [hf]; rfl, rfl⟩
      · have h9 : (9 : Int) ≤ k := by assumption
        have hf : uvDec s.data.toList = .over := by rw [hd.out, HST.out, if_pos (Or.inr (by omega))]
        go_ret3
        exact ⟨by rw [hf]; rfl, rfl⟩
      · have h8 : ¬ (k : Int) = 8 := by assumption
        have h9 : (k : Int) < 9 := by assumption
        have h1 : (s[k].toNat : Int) < 128 := by assumption
        have h2 : 0 < k := by assumption
        have h0 : ((s[k].toNat : Int) == 0) = true := by assumption
        have h0' : s[k].toNat = 0 := by simpa using h0
        have hf : uvDec s.data.toList = .notMin := by rw [hd.out, HST.out, if_neg (by omega), if_pos (by omega), if_pos (by omega)]
        go_ret3
        exact ⟨by rw [hf]; rfl, rfl⟩
      · have h8 : ¬ (k : Int) = 8 := by assumption
        have h9 : (k : Int) < 9 := by assumption
        have h1 : (s[k].toNat : Int) < 128 := by assumption
        have h0 : ((s[k].toNat : Int) == 0) = false := by assumption
        have h0' : ¬ s[k].toNat = 0 := by simpa using h0
        have hf : uvDec s.data.toList = .ok (X + s[k].toNat * 2 ^ (7 * k)) (k + 1) := by rw [hd.out, HST.out, if_neg (by omega), if_pos (by omega), if_neg (by omega)]
        have hor := uv_or_and k X s[k].toNat (by omega) hX hb
        rw [Nat.mod_eq_of_lt (by omega)] at hor
        go_ret3
        exact ⟨by rw [hf]; exact UvR.spec_eq hor (by omega), rfl⟩
      · have h8 : ¬ (k : Int) = 8 := by assumption
        have h9 : (k : Int) < 9 := by assumption
        have h1 : (s[k].toNat : Int) < 128 := by assumption
        have h2 : ¬ 0 < k := by assumption
        have hf : uvDec s.data.toList = .ok (X + s[k].toNat * 2 ^ (7 * k)) (k + 1) := by rw [hd.out, HST.out, if_neg (by omega), if_pos (by omega), if_neg (by omega)]
        have hor := uv_or_and k X s[k].toNat (by omega) hX hb
        rw [Nat.mod_eq_of_lt (by omega)] at hor
        go_ret3
        exact ⟨by rw [hf]; exact UvR.spec_eq hor (by omega), rfl⟩
      · have h8 : ¬ (k : Int) = 8 := by assumption
        have h9 : (k : Int) < 9 := by assumption
        have h1 : (128 : Int) ≤ s[k].toNat := by assumption
        have hor := uv_or_and k X s[k].toNat (by omega) hX hb
        exact ⟨⟨k + 1, X + s[k].toNat % 128 * 2 ^ (7 * k), by omega, by omega, uv_step_lt k X _ hX (by omega), by go_num, by rw [hor],
          Lib.hid (by rw [hd.out, HST.out, if_neg (by omega), if_neg (by omega)])⟩, by simp [intOf]; omega⟩
    · have hkn : k = s.data.toList.length := by rw [HL.out]; omega
      have hf : Hid (uvDec s.data.toList = .under) := Lib.hid (by rw [hd.out, hkn, List.drop_length]; rfl)
      clear hkn
      go_wp2
      go_ret3
      exact ⟨by rw [hf.out]; rfl, rfl⟩
end Go.Proofs.YthfgnhgijgjggaaDoor
