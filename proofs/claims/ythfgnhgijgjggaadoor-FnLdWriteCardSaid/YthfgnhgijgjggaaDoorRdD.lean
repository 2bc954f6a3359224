/- Contracts: varint.ReadUvarint over a reader of bytes. -/
import Derived.Test.YthfgnhgijgjggaaDoorRdC
import Derived.Test.YthfgnhgijgjggaaDoorUvPlain
import Derived.LoopTactic
namespace Go.Proofs.YthfgnhgijgjggaaDoor
open Go.RowKit

theorem nil_rdByte (a : Addr) (w : World) : (nilAhead 359 99 (.pointer (some a)) "ReadByte").run Tryd.prog w = .ok (some false) w := by kernel_rfl
theorem method_rdByte (a : Addr) (w : World) : (method 359 99 (.pointer (some a)) "ReadByte").run Tryd.prog w = .ok (142, .pointer (some a)) w := by kernel_rfl

/-- How ReadUvarint answers. -/
def UvR.rd (E1 E2 E3 : Value) : UvR → Value
  | .ok x _ => .tuple #[.int .u64 x, .nilIface]
  | .over => .tuple #[.int .u64 0, E1]
  | .notMin => .tuple #[.int .u64 0, E2]
  | .under => .tuple #[.int .u64 0, E3]
def UvR.at_ (i : Nat) : UvR → Nat → Prop
  | .ok _ m, j => j = i + m
  | _, _ => True

/-- The errors that ReadUvarint gives, below B. -/
structure UvErrs (B : Nat) (w : World) (e0 e1 : Addr) (E2 E3 : Value) : Prop where
  eof : ErrAt B w 0 e0
  unex : ErrAt B w 5 e1
  over : w.cell? ⟨2, 0, none⟩ = some E2
  lt2 : 2 < B
  notMin : w.cell? ⟨3, 0, none⟩ = some E3
  lt3 : 3 < B
theorem UvErrs.keep {B : Nat} {S : Nat → Prop} {w w' : World} {e0 e1 : Addr} {E2 E3 : Value} (h : UvErrs B w e0 e1 E2 E3) (hk : Keep S w w') (hS : ∀ k, S k → B ≤ k) : UvErrs B w' e0 e1 E2 E3 :=
  ⟨h.eof.keep hk hS, h.unex.keep hk hS, hk.cell h.over (fun hh => absurd (hS _ hh) (Nat.not_le.2 h.lt2)), h.lt2, hk.cell h.notMin (fun hh => absurd (hS _ hh) (Nat.not_le.2 h.lt3)), h.lt3⟩
theorem UvErrs.mono {B C : Nat} {w : World} {e0 e1 : Addr} {E2 E3 : Value} (h : UvErrs B w e0 e1 E2 E3) (hB : B ≤ C) : UvErrs C w e0 e1 E2 E3 :=
  ⟨h.eof.mono hB, h.unex.mono hB, h.over, Nat.lt_of_lt_of_le h.lt2 hB, h.notMin, Nat.lt_of_lt_of_le h.lt3 hB⟩

set_option maxRecDepth 100000 in
set_option maxHeartbeats 4000000 in
theorem readUv (p : Nat) (v : Value) (l : List UInt8) (i : Nat) (w : World) (hr : Rdr w p v l i) (e0 e1 : Addr) (t2 t3 : TypeId) (p2 p3 : Value) (he : UvErrs p w e0 e1 (.iface t2 p2) (.iface t3 p3)) :
    Calls Tryd.prog 83 #[rdV p] w fun e w' =>
      e = .returned ((uvDec (l.drop i)).rd (.iface t2 p2) (.iface t3 p3) (if i = l.length then errV e0 else errV e1)) ∧ (∃ j, (uvDec (l.drop i)).at_ i j ∧ Rdr w' p v l j) ∧ Keep (fun k => k = p) w w' := by
  have hna := fun w => nil_rdByte ⟨p, 0, none⟩ w
  have hme := fun w => method_rdByte ⟨p, 0, none⟩ w
  have hmf : ∀ (fn : Fn) (first cap : Array Value) (w : World), (Instr.makeFunc fn first cap).run Tryd.prog w = .ok (.func fn first cap) w := fun _ _ _ _ => rfl
  have heq := fun w => run_eqErr_same e0 w
  obtain ⟨hi0, hf0⟩ : i ≤ l.length ∧ l.length ≤ 9223372036854775807 := ⟨hr.le, hr.fits⟩
  have HR0 := Lib.hid hr
  have HE0 := Lib.hid he
  clear hr he
  go_enter Tryd.func83, Tryd.ntmps83
  go_wp2
  go_loopw [4, 5] (fun x s wr => ∃ (k X : Nat), i + k ≤ l.length ∧ k ≤ 9 ∧ X < 2 ^ (7 * k) ∧ s = .int .u64 (7 * k : Nat) ∧ x = .int .u64 X ∧ Hid (uvDec (l.drop i) = uvGo k X (l.drop (i + k))) ∧ Hid (Rdr wr p v l (i + k)) ∧ Keep (fun k => k = p) w wr) (fun _ s _ => 70 - (intOf s).toNat)
  case atStart => exact ⟨0, 0, by omega, by omega, by decide, rfl, rfl, Lib.hid rfl, HR0, Keep.refl _ _⟩
  case round =>
    obtain ⟨k, X, hk, hk10, hX, rfl, rfl, hd, HR, hkw⟩ := hrel
    have HE := Lib.hid (HE0.out.keep hkw (fun k hk => by omega))
    by_cases hlt : i + k < l.length
    · have HB := Lib.hid (rdByte_some p v l (i + k) wr HR.out hlt)
      have hb : l[i + k].toNat < 256 := UInt8.toNat_lt _
      obtain ⟨B, hB⟩ : ∃ B, B = l[i + k].toNat := ⟨_, rfl⟩
      rw [← hB] at HB hb
      have HBB := Lib.hid hB
      clear hB
      have hstep : uvGo k X (l.drop (i + k)) = (if (k = 8 ∧ 128 ≤ B) ∨ 9 ≤ k then .over
          else if B < 128 then (if B = 0 ∧ 0 < k then .notMin else .ok (X + B * 2 ^ (7 * k)) (k + 1))
          else uvGo (k + 1) (X + (B % 128) * 2 ^ (7 * k)) (l.drop (i + k + 1))) := by
        rw [List.drop_eq_getElem_cons hlt, uvGo, ← HBB.out]
      clear HBB
      go_wp2_with fail
      refine HB.out.mono ?_
      rintro e w1 ⟨rfl, hr1, hk1⟩
      have hkw1 := hkw.trans hk1
      have HE1 := HE.out.keep hk1 (fun k hk => by omega)
      have hc2 := HE1.over
      have hc3 := HE1.notMin
      have HR1 := Lib.hid hr1
      clear hr1 hk1 HE1 HB
      by_cases h9 : k = 9
      · subst h9
        have hfin : Hid (uvDec (l.drop i) = .over) := Lib.hid (by rw [hd.out, hstep, if_pos (Or.inr (by omega))])
        clear hd hstep
        go_wp2
        go_quiet (fail)
        go_wp2
        go_ret2
        exact ⟨by rw [hfin.out]; rfl, ⟨_, by rw [hfin.out]; trivial, HR1.out.keep (keep_drewN (fun _ => False) _ _) (fun _ h => h.elim)⟩, hkw1.drewN _⟩
      by_cases hge : 128 ≤ B
      · by_cases h8 : k = 8
        · subst h8
          have hfin : Hid (uvDec (l.drop i) = .over) := Lib.hid (by rw [hd.out, hstep, if_pos (Or.inl ⟨rfl, hge⟩)])
          clear hd hstep
          go_wp2
          go_quiet (fail)
          go_wp2
          go_ret2
          exact ⟨by rw [hfin.out]; rfl, ⟨_, by rw [hfin.out]; trivial, HR1.out.keep (keep_drewN (fun _ => False) _ _) (fun _ h => h.elim)⟩, hkw1.drewN _⟩
        · have hfin : Hid (uvDec (l.drop i) = uvGo (k + 1) (X + (B % 128) * 2 ^ (7 * k)) (l.drop (i + k + 1))) := Lib.hid (by
            rw [hd.out, hstep, if_neg (by omega), if_neg (by omega)])
          clear hd hstep
          have hk8 : ((7 * k : Nat) : Int) < 56 := by omega
          have hor := Lib.hid (uv_or_and k X B (by omega) hX hb)
          have hlt2 := uv_step_lt k X (B % 128) hX (by omega)
          go_wp2
          exact ⟨⟨k + 1, X + B % 128 * 2 ^ (7 * k), by omega, by omega, hlt2, by go_num, by rw [hor.out], hfin, HR1, hkw1⟩, by simp [intOf]; omega⟩
      · by_cases hz : B = 0 ∧ 0 < k
        · obtain ⟨rfl, hz⟩ := hz
          have hfin : Hid (uvDec (l.drop i) = .notMin) := Lib.hid (by rw [hd.out, hstep, if_neg (by omega), if_pos (by omega), if_pos ⟨rfl, hz⟩])
          clear hd hstep
          have hk9' : ((7 * k : Nat) : Int) < 63 := by omega
          by_cases hk8 : k = 8
          · subst hk8
            go_wp2
            go_quiet (fail)
            go_wp2
            go_ret2
            exact ⟨by rw [hfin.out]; rfl, ⟨_, by rw [hfin.out]; trivial, HR1.out.keep (keep_drewN (fun _ => False) _ _) (fun _ h => h.elim)⟩, hkw1.drewN _⟩
          · have hk8' : (((7 * k : Nat) : Int) == 56) = false := by simp; omega
            go_wp2
            go_quiet (fail)
            go_wp2
            go_ret2
            exact ⟨by rw [hfin.out]; rfl, ⟨_, by rw [hfin.out]; trivial, HR1.out.keep (keep_drewN (fun _ => False) _ _) (fun _ h => h.elim)⟩, hkw1.drewN _⟩
        · have hfin : Hid (uvDec (l.drop i) = .ok (X + B * 2 ^ (7 * k)) (k + 1)) := Lib.hid (by rw [hd.out, hstep, if_neg (by omega), if_pos (by omega), if_neg hz])
          have hor := Lib.hid (uv_or k X B (by omega) hX (by omega))
          clear hd hstep
          have hk9' : ((7 * k : Nat) : Int) < 63 := by omega
          by_cases hB0 : B = 0
          · subst hB0
            have hk0 : k = 0 := by omega
            subst hk0
            have hfin' : Hid (uvDec (l.drop i) = .ok X 1) := Lib.hid (by rw [hfin.out]; simp)
            clear hor hfin
            have hor0 : Hid (bits .or .u64 (X : Int) 0 = (X : Nat)) := Lib.hid (by rw [u64_orv0 _ _ (by omega) (by omega) (by omega) (by omega) (by omega)]; omega)
            go_wp2
            go_ret2
            exact ⟨by rw [hfin'.out, hor0.out]; rfl, ⟨_, by rw [hfin'.out]; exact rfl, HR1.out⟩, hkw1⟩
          · have hB0' : ((B : Int) == 0) = false := by simp; omega
            by_cases hk8 : k = 8
            · subst hk8
              have hor8 : Hid (bits .or .u64 (X : Int) ((B : Int) * 72057594037927936) = ((X + B * 2 ^ (7 * 8) : Nat) : Int)) := Lib.hid (by
                rw [← hor.out, IntWalk.u64_in _ (by omega)]; rfl)
              clear hor
              go_wp2
              go_ret2
              exact ⟨by rw [hfin.out, hor8.out]; rfl, ⟨_, by rw [hfin.out]; exact rfl, HR1.out⟩, hkw1⟩
            · have hk8' : (((7 * k : Nat) : Int) == 56) = false := by simp; omega
              go_wp2
              go_ret2
              exact ⟨by rw [hfin.out, hor.out]; rfl, ⟨_, by rw [hfin.out]; exact rfl, HR1.out⟩, hkw1⟩
    · have hkn : i + k = l.length := by omega
      have hfin : Hid (uvDec (l.drop i) = .under) := Lib.hid (by rw [hd.out, hkn, List.drop_length]; rfl)
      have HB := Lib.hid (rdByte_end p v l (i + k) wr HR.out hkn e0 HE.out.eof)
      clear hd
      go_wp2_with fail
      refine HB.out.mono ?_
      rintro e w1 ⟨rfl, hr1, hk1⟩
      have hkw1 := hkw.trans hk1
      have HE1 := HE.out.keep hk1 (fun k hk => by omega)
      have hc1 := HE1.eof.cell
      have hc4 := HE1.unex.cell
      have HR1 := Lib.hid hr1
      clear hr1 hk1 HE1 HB
      by_cases hk0 : k = 0
      · subst hk0
        have hil : i = l.length := by omega
        clear hkn hlt hk
        go_wp2
        go_ret2
        exact ⟨rfl, ⟨_, trivial, HR1.out⟩, hkw1⟩
      · have hk0' : (((7 * k : Nat) : Int) == 0) = false := by simp; omega
        have hil : ¬ i = l.length := by omega
        go_wp2
        go_ret2
        exact ⟨by rw [hfin.out]; rfl, ⟨_, by rw [hfin.out]; trivial, HR1.out⟩, hkw1⟩
end Go.Proofs.YthfgnhgijgjggaaDoor
