/- Contracts of package cid: uvarint of a string; Bytes. -/
import Derived.Test.YthfgnhgijgjggaaDoorCdA
namespace Go.Proofs.YthfgnhgijgjggaaDoor
open Go.RowKit

theorem ret3_eq {Y M : Int} {x m : Nat} (h : Y = x) (h2 : M = m) : Ending.returned (.tuple #[.int .u64 Y, .int .i64 M, .nilIface]) = .returned (.tuple #[.int .u64 x, .int .i64 m, .nilIface]) := by
  rw [h, h2]

set_option maxRecDepth 100000 in
set_option maxHeartbeats 1000000 in
/-- A varint that can be read of the string's beginning. -/
theorem cdUv_ok (s : ByteArray) (w : World) (x m : Nat) (hd : uvDec s.data.toList = .ok x m) (hm : s.size ≤ 9223372036854775807) :
    Calls Tryd.prog 80 #[.string s] w fun e w' => e = .returned (.tuple #[.int .u64 x, .int .i64 m, .nilIface]) ∧ Below w.heap.size w w' := by
  have hlen : s.data.toList.length = s.size := ba_len s
  have HL := Lib.hid hlen
  have HD := Lib.hid hd
  clear hlen hd
  go_enter Tryd.func80, Tryd.ntmps80
  go_wp2
  go_loop [5, 6, 7] (fun x' sh i => ∃ (k X : Nat), k ≤ s.size ∧ k ≤ 9 ∧ X < 2 ^ (7 * k) ∧ i = .int .i64 k ∧ sh = .int .u64 (7 * k : Nat) ∧ x' = .int .u64 X ∧ Hid (uvGo k X (s.data.toList.drop k) = .ok x m)) (fun _ _ i => s.size - (intOf i).toNat)
  case atStart => exact ⟨0, 0, by omega, by omega, by decide, rfl, rfl, rfl, Lib.hid HD.out⟩
  case round =>
    obtain ⟨k, X, hk, hk10, hX, rfl, rfl, rfl, hd⟩ := hrel
    by_cases hlt : k < s.size
    · have hlt' : k < s.data.toList.length := by rw [HL.out]; exact hlt
      obtain ⟨c, hc⟩ : ∃ c, s.data.toList[k]? = some c := ⟨_, List.getElem?_eq_getElem hlt'⟩
      have hidx := fun W => idx_ba (P := Tryd.prog) Tryd.underlying9 s k c hc k rfl W
      have hb : c.toNat < 256 := UInt8.toNat_lt _
      have hstep : uvGo k X (s.data.toList.drop k) = (if (k = 8 ∧ 128 ≤ c.toNat) ∨ 9 ≤ k then .over
          else if c.toNat < 128 then (if c.toNat = 0 ∧ 0 < k then .notMin else .ok (X + c.toNat * 2 ^ (7 * k)) (k + 1))
          else uvGo (k + 1) (X + (c.toNat % 128) * 2 ^ (7 * k)) (s.data.toList.drop (k + 1))) := by
        have e : s.data.toList[k] = c := (List.getElem?_eq_some_iff.1 hc).2
        rw [List.drop_eq_getElem_cons hlt', uvGo, e]
      have hd2 := hd.out
      rw [hstep] at hd2
      clear hstep hc hlt' hd
      by_cases h9 : (k = 8 ∧ 128 ≤ c.toNat) ∨ 9 ≤ k
      · rw [if_pos h9] at hd2; cases hd2
      rw [if_neg h9] at hd2
      have hk9 : k ≤ 8 := by omega
      have hkk : ((k : Int) > 9) = False := by simp; omega
      have hkb : ¬ (k : Int) > 9 := by omega
      have hk9e : ((k : Int) == 9) = false := by rw [beq_eq_false_iff_ne]; omega
      clear hkk
      generalize hB : c.toNat = B at *
      clear hB
      by_cases hlo : B < 128
      · rw [if_pos hlo] at hd2
        by_cases hz : B = 0 ∧ 0 < k
        · rw [if_pos hz] at hd2; cases hd2
        rw [if_neg hz] at hd2
        injection hd2 with e1 e2
        have hor := Lib.hid (uv_or k X B hk9 hX hlo)
        have E1 := Lib.hid e1
        have E2 := Lib.hid e2
        clear e1 e2 h9
        by_cases hB0 : B = 0
        · subst hB0
          have hk0 : k = 0 := by omega
          subst hk0
          clear hor
          have hor0 : Hid (bits .or .u64 (X : Int) 0 = (X : Nat)) := Lib.hid (by rw [u64_orv0 _ _ (by omega) (by omega) (by omega) (by omega) (by omega)]; omega)
          clear hz
          simp only [Int.natCast_zero] at hidx
          go_wp2
          go_ret3
          exact ⟨ret3_eq (by rw [hor0.out, ← E1.out]; simp) (by rw [← E2.out]; rfl), Below.refl _ _⟩
        · have hB0' : ((B : Int) == 0) = false := by simp; omega
          clear hz
          go_wp2
          go_ret3
          exact ⟨ret3_eq (by rw [hor.out, ← E1.out]) (by rw [← E2.out]; omega), Below.refl _ _⟩
      · rw [if_neg hlo] at hd2
        have hfin := Lib.hid hd2
        clear hd2
        have hk8 : k ≤ 7 := by omega
        clear h9
        have hor := Lib.hid (uv_or_and k X B hk9 hX hb)
        have hlt2 := uv_step_lt k X (B % 128) hX (by omega)
        go_wp2
        exact ⟨⟨k + 1, X + B % 128 * 2 ^ (7 * k), by omega, by omega, hlt2, by go_num, by go_num, by rw [hor.out], hfin⟩, by simp [intOf]; omega⟩
    · exfalso
      have hkn : k = s.data.toList.length := by rw [HL.out]; omega
      have hd2 := hd.out
      rw [hkn, List.drop_length] at hd2
      cases hd2

end Go.Proofs.YthfgnhgijgjggaaDoor
