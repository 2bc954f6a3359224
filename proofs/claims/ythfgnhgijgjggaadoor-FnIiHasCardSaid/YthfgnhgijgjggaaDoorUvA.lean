import Derived.Test.YthfgnhgijgjggaaDoorProg
import Derived.Test.YthfgnhgijgjggaaDoorUvPlain
import Derived.WalkKit
import Derived.Deep.QuietTactic
import Derived.BigQuiet
import Derived.Lib.Hide
import Derived.Deep.Draws
import Derived.Outline
namespace Go.Proofs.YthfgnhgijgjggaaDoor
open Go.RowKit

def UvR.val (E1 E2 E3 : Value) : UvR → Value
  | .ok x m => .tuple #[.int .u64 x, .int .i64 m, .nilIface]
  | .over => .tuple #[.int .u64 0, .int .i64 0, E1]
  | .notMin => .tuple #[.int .u64 0, .int .i64 0, E2]
  | .under => .tuple #[.int .u64 0, .int .i64 0, E3]

theorem UvR.ok_eq {E1 E2 E3 : Value} {Y M : Int} {x m : Nat} (h : Y = x) (h2 : M = m) : Ending.returned (.tuple #[.int .u64 Y, .int .i64 M, .nilIface]) = .returned ((UvR.ok x m).val E1 E2 E3) := by
  rw [h, h2]; rfl

set_option maxRecDepth 100000 in
set_option maxHeartbeats 1000000 in
theorem fromUv_any (b o n c : Nat) (l : List UInt8) (w : World) (hl : l.length = n) (hm : n ≤ 9223372036854775807)
    (hc : ∀ j (h : j < l.length), w.cell? ⟨b, o + j, none⟩ = some (.int .u8 (l[j].toNat)))
    (T : TypeId) (p1 p2 p3 : Value)
    (h1 : w.cell? ⟨2, 0, none⟩ = some (.iface T p1)) (h2 : w.cell? ⟨3, 0, none⟩ = some (.iface T p2)) (h3 : w.cell? ⟨4, 0, none⟩ = some (.iface T p3)) :
    Calls Tryd.prog 79 #[.slice (some ⟨b, o, none⟩) n c] w fun e w' =>
      e = .returned ((uvDec l).val (.iface T p1) (.iface T p2) (.iface T p3)) ∧ ∃ q, w' = w.drewN q := by
  go_enter Tryd.func79, Tryd.ntmps79
  go_wp2
  go_loop [5, 6, 11] (fun x sh i => ∃ (k X : Nat), k ≤ n ∧ k ≤ 9 ∧ X < 2 ^ (7 * k) ∧ i = .int .i64 k ∧ sh = .int .u64 (7 * k : Nat) ∧ x = .int .u64 X ∧ Hid (uvDec l = uvGo k X (l.drop k))) (fun _ _ i => n - (intOf i).toNat)
  case atStart => exact ⟨0, 0, by omega, by omega, by decide, rfl, rfl, rfl, Lib.hid rfl⟩
  case round =>
    obtain ⟨k, X, hk, hk10, hX, rfl, rfl, rfl, hd⟩ := hrel
    by_cases hlt : k < n
    · have hlt' : k < l.length := by omega
      have hcell := hc k hlt'
      have hb : l[k].toNat < 256 := UInt8.toNat_lt _
      obtain ⟨B, hB⟩ : ∃ B, B = l[k].toNat := ⟨_, rfl⟩
      rw [← hB] at hcell hb
      have HB := Lib.hid hB
      clear hB hc
      have hstep : uvGo k X (l.drop k) = (if (k = 8 ∧ 128 ≤ B) ∨ 9 ≤ k then .over
          else if B < 128 then (if B = 0 ∧ 0 < k then .notMin else .ok (X + B * 2 ^ (7 * k)) (k + 1))
          else uvGo (k + 1) (X + (B % 128) * 2 ^ (7 * k)) (l.drop (k + 1))) := by
        rw [List.drop_eq_getElem_cons hlt', uvGo, ← HB.out]
      by_cases h9 : k = 9
      · subst h9
        have hfin : Hid (uvDec l = .over) := Lib.hid (by rw [hd.out, hstep, if_pos (Or.inr (by omega))])
        clear hd hstep HB
        go_wp2
        go_quiet (fail)
        go_wp2
        go_ret3
        exact ⟨by rw [hfin.out]; rfl, _, rfl⟩
      by_cases hge : 128 ≤ B
      · by_cases h8 : k = 8
        · subst h8
          have hfin : Hid (uvDec l = .over) := Lib.hid (by rw [hd.out, hstep, if_pos (Or.inl ⟨rfl, hge⟩)])
          clear hd hstep HB
          go_wp2
          go_quiet (fail)
          go_wp2
          go_ret3
          exact ⟨by rw [hfin.out]; rfl, _, rfl⟩
        · have hfin : Hid (uvDec l = uvGo (k + 1) (X + (B % 128) * 2 ^ (7 * k)) (l.drop (k + 1))) := Lib.hid (by
            rw [hd.out, hstep, if_neg (by omega), if_neg (by omega)])
          clear hd hstep HB
          have hk8 : ((k : Int) == 8) = false := by simp; omega
          have hor := Lib.hid (uv_or_and k X B (by omega) hX hb)
          have hlt2 := uv_step_lt k X (B % 128) hX (by omega)
          go_wp2
          exact ⟨⟨k + 1, X + B % 128 * 2 ^ (7 * k), by omega, by omega, hlt2, by go_num, by go_num, by rw [hor.out], hfin⟩, by simp [intOf]; omega⟩
      · by_cases hz : B = 0 ∧ 0 < k
        · obtain ⟨rfl, hz⟩ := hz
          have hfin : Hid (uvDec l = .notMin) := Lib.hid (by rw [hd.out, hstep, if_neg (by omega), if_pos (by omega), if_pos ⟨rfl, hz⟩])
          clear hd hstep HB
          have hk9' : (k : Int) < 9 := by omega
          by_cases hk8 : k = 8
          · subst hk8
            go_wp2
            go_quiet (fail)
            go_wp2
            go_ret3
            exact ⟨by rw [hfin.out]; rfl, _, rfl⟩
          · have hk8' : ((k : Int) == 8) = false := by simp; omega
            go_wp2
            go_quiet (fail)
            go_wp2
            go_ret3
            exact ⟨by rw [hfin.out]; rfl, _, rfl⟩
        · have hfin : Hid (uvDec l = .ok (X + B * 2 ^ (7 * k)) (k + 1)) := Lib.hid (by rw [hd.out, hstep, if_neg (by omega), if_pos (by omega), if_neg hz])
          have hor := Lib.hid (uv_or k X B (by omega) hX (by omega))
          clear hd hstep HB
          have hk9' : (k : Int) < 9 := by omega
          by_cases hB0 : B = 0
          · subst hB0
            have hk0 : k = 0 := by omega
            subst hk0
            have hfin' : Hid (uvDec l = .ok X 1) := Lib.hid (by rw [hfin.out]; simp)
            simp only [Nat.add_zero, Int.natCast_zero] at hcell
            clear hor hfin
            have hor0 : Hid (bits .or .u64 (X : Int) 0 = (X : Nat)) := Lib.hid (by rw [u64_orv0 _ _ (by omega) (by omega) (by omega) (by omega) (by omega)]; omega)
            go_wp2
            go_ret3
            exact ⟨by rw [hfin'.out]; exact UvR.ok_eq hor0.out rfl, 0, rfl⟩
          · have hB0' : ((B : Int) == 0) = false := by simp; omega
            by_cases hk8 : k = 8
            · subst hk8
              have hor8 : Hid (bits .or .u64 (X : Int) ((B : Int) * 72057594037927936) = ((X + B * 2 ^ (7 * 8) : Nat) : Int)) := Lib.hid (by
                rw [← hor.out, IntWalk.u64_in _ (by omega)]; rfl)
              clear hor
              go_wp2
              go_ret3
              exact ⟨by rw [hfin.out]; exact UvR.ok_eq hor8.out rfl, 0, rfl⟩
            · have hk8' : ((k : Int) == 8) = false := by simp; omega
              go_wp2
              go_ret3
              exact ⟨by rw [hfin.out]; exact UvR.ok_eq hor.out (by omega), 0, rfl⟩
    · have hkn : k = l.length := by omega
      have hfin : Hid (uvDec l = .under) := Lib.hid (by rw [hd.out, hkn, List.drop_length]; rfl)
      clear hd hkn hc
      go_wp2
      go_quiet (fail)
      go_wp2
      go_ret3
      exact ⟨by rw [hfin.out]; rfl, _, rfl⟩
end Go.Proofs.YthfgnhgijgjggaaDoor
