/- Contracts, joined (RdD PfB PfC SeR SeS). -/
import Derived.Test.YthfgnhgijgjggaaDoorJSb1
import Derived.Test.YthfgnhgijgjggaaDoorJSb3
import Derived.Test.YthfgnhgijgjggaaDoorJSb4
import Derived.Test.YthfgnhgijgjggaaDoorJSb5
import Derived.LoopTactic
/- Contracts: varint.ReadUvarint over a reader of bytes. -/
namespace Go.Proofs.YthfgnhgijgjggaaDoor
open Go.RowKit

theorem nil_rdByte (a : Addr) (w : World) : (nilAhead 359 99 (.pointer (some a)) "ReadByte").run Tryd.prog w = .ok (some false) w := by kernel_rfl
theorem method_rdByte (a : Addr) (w : World) : (method 359 99 (.pointer (some a)) "ReadByte").run Tryd.prog w = .ok (142, .pointer (some a)) w := by kernel_rfl

/-- How ReadUvarint answers. -/
def UvR.rd (E1 E2 E3 : Value) : UvR → Value
  | .ok x _ => .tuple #[.int .u64 x, .nilIface]
  | .over => .tuple #[.int .u64 0, E1]
  | .notMin => .tuple #[.int .u64 0, E2]
  | .under => .tuple #[.int .u64 0, E3]
def UvR.at_ (i : Nat) : UvR → Nat → Prop
  | .ok _ m, j => j = i + m
  | _, _ => True

/-- The errors that ReadUvarint gives, below B. -/
structure UvErrs (B : Nat) (w : World) (e0 e1 : Addr) (E2 E3 : Value) : Prop where
  eof : ErrAt B w 0 e0
  unex : ErrAt B w 5 e1
  over : w.cell? ⟨2, 0, none⟩ = some E2
  lt2 : 2 < B
  notMin : w.cell? ⟨3, 0, none⟩ = some E3
  lt3 : 3 < B
theorem UvErrs.keep {B : Nat} {S : Nat → Prop} {w w' : World} {e0 e1 : Addr} {E2 E3 : Value} (h : UvErrs B w e0 e1 E2 E3) (hk : Keep S w w') (hS : ∀ k, S k → B ≤ k) : UvErrs B w' e0 e1 E2 E3 :=
  ⟨h.eof.keep hk hS, h.unex.keep hk hS, hk.cell h.over (fun hh => absurd (hS _ hh) (Nat.not_le.2 h.lt2)), h.lt2, hk.cell h.notMin (fun hh => absurd (hS _ hh) (Nat.not_le.2 h.lt3)), h.lt3⟩
theorem UvErrs.mono {B C : Nat} {w : World} {e0 e1 : Addr} {E2 E3 : Value} (h : UvErrs B w e0 e1 E2 E3) (hB : B ≤ C) : UvErrs C w e0 e1 E2 E3 :=
  ⟨h.eof.mono hB, h.unex.mono hB, h.over, Nat.lt_of_lt_of_le h.lt2 hB, h.notMin, Nat.lt_of_lt_of_le h.lt3 hB⟩

set_option maxRecDepth 100000 in
set_option maxHeartbeats 4000000 in
theorem readUv (p : Nat) (v : Value) (l : List UInt8) (i : Nat) (w : World) (hr : Rdr w p v l i) (e0 e1 : Addr) (t2 t3 : TypeId) (p2 p3 : Value) (he : UvErrs p w e0 e1 (.iface t2 p2) (.iface t3 p3)) :
    Calls Tryd.prog 83 #[rdV p] w fun e w' =>
      e = .returned ((uvDec (l.drop i)).rd (.iface t2 p2) (.iface t3 p3) (if i = l.length then errV e0 else errV e1)) ∧ (∃ j, (uvDec (l.drop i)).at_ i j ∧ Rdr w' p v l j) ∧ Keep (fun k => k = p) w w' := by
  have hna := fun w => nil_rdByte ⟨p, 0, none⟩ w
  have hme := fun w => method_rdByte ⟨p, 0, none⟩ w
  have hmf : ∀ (fn : Fn) (first cap : Array Value) (w : World), (Instr.makeFunc fn first cap).run Tryd.prog w = .ok (.func fn first cap) w := fun _ _ _ _ => rfl
  have heq := fun w => run_eqErr_same e0 w
  obtain ⟨hi0, hf0⟩ : i ≤ l.length ∧ l.length ≤ 9223372036854775807 := ⟨hr.le, hr.fits⟩
  have HR0 := Lib.hid hr
  have HE0 := Lib.hid he
  clear hr he
  go_enter Tryd.func83, Tryd.ntmps83
  go_wp2
  go_loopw [4, 5] (fun x s wr => ∃ (k X : Nat), i + k ≤ l.length ∧ k ≤ 9 ∧ X < 2 ^ (7 * k) ∧ s = .int .u64 (7 * k : Nat) ∧ x = .int .u64 X ∧ Hid (uvDec (l.drop i) = uvGo k X (l.drop (i + k))) ∧ Hid (Rdr wr p v l (i + k)) ∧ Keep (fun k => k = p) w wr) (fun _ s _ => 70 - (intOf s).toNat)
  case atStart => exact ⟨0, 0, by omega, by omega, by decide, rfl, rfl, Lib.hid rfl, HR0, Keep.refl _ _⟩
  case round =>
    obtain ⟨k, X, hk, hk10, hX, rfl, rfl, hd, HR, hkw⟩ := hrel
    have HE := Lib.hid (HE0.out.keep hkw (fun k hk => by omega))
    by_cases hlt : i + k < l.length
    · have HB := Lib.hid (rdByte_some p v l (i + k) wr HR.out hlt)
      have hb : l[i + k].toNat < 256 := UInt8.toNat_lt _
      obtain ⟨B, hB⟩ : ∃ B, B = l[i + k].toNat := ⟨_, rfl⟩
      rw [← hB] at HB hb
      have HBB := Lib.hid hB
      clear hB
      have hstep : uvGo k X (l.drop (i + k)) = (if (k = 8 ∧ 128 ≤ B) ∨ 9 ≤ k then .over
          else if B < 128 then (if B = 0 ∧ 0 < k then .notMin else .ok (X + B * 2 ^ (7 * k)) (k + 1))
          else uvGo (k + 1) (X + (B % 128) * 2 ^ (7 * k)) (l.drop (i + k + 1))) := by
        rw [List.drop_eq_getElem_cons hlt, uvGo, ← HBB.out]
      clear HBB
      go_wp2_with fail
      refine HB.out.mono ?_
      rintro e w1 ⟨rfl, hr1, hk1⟩
      have hkw1 := hkw.trans hk1
      have HE1 := HE.out.keep hk1 (fun k hk => by omega)
      have hc2 := HE1.over
      have hc3 := HE1.notMin
      have HR1 := Lib.hid hr1
      clear hr1 hk1 HE1 HB
      by_cases h9 : k = 9
      · subst h9
        have hfin : Hid (uvDec (l.drop i) = .over) := Lib.hid (by rw [hd.out, hstep, if_pos (Or.inr (by omega))])
        clear hd hstep
        go_wp2
        go_quiet (fail)
        go_wp2
        go_ret2
        exact ⟨by rw [hfin.out]; rfl, ⟨_, by rw [hfin.out]; trivial, HR1.out.keep (keep_drewN (fun _ => False) _ _) (fun _ h => h.elim)⟩, hkw1.drewN _⟩
      by_cases hge : 128 ≤ B
      · by_cases h8 : k = 8
        · subst h8
          have hfin : Hid (uvDec (l.drop i) = .over) := Lib.hid (by rw [hd.out, hstep, if_pos (Or.inl ⟨rfl, hge⟩)])
          clear hd hstep
          go_wp2
          go_quiet (fail)
          go_wp2
          go_ret2
          exact ⟨by rw [hfin.out]; rfl, ⟨_, by rw [hfin.out]; trivial, HR1.out.keep (keep_drewN (fun _ => False) _ _) (fun _ h => h.elim)⟩, hkw1.drewN _⟩
        · have hfin : Hid (uvDec (l.drop i) = uvGo (k + 1) (X + (B % 128) * 2 ^ (7 * k)) (l.drop (i + k + 1))) := Lib.hid (by
            rw [hd.out, hstep, if_neg (by omega), if_neg (by omega)])
          clear hd hstep
          have hk8 : ((7 * k : Nat) : Int) < 56 := by omega
          have hor := Lib.hid (uv_or_and k X B (by omega) hX hb)
          have hlt2 := uv_step_lt k X (B % 128) hX (by omega)
          go_wp2
          exact ⟨⟨k + 1, X + B % 128 * 2 ^ (7 * k), by omega, by omega, hlt2, by go_num, by rw [hor.out], hfin, HR1, hkw1⟩, by simp [intOf]; omega⟩
      · by_cases hz : B = 0 ∧ 0 < k
        · obtain ⟨rfl, hz⟩ := hz
          have hfin : Hid (uvDec (l.drop i) = .notMin) := Lib.hid (by rw [hd.out, hstep, if_neg (by omega), if_pos (by omega), if_pos ⟨rfl, hz⟩])
          clear hd hstep
          have hk9' : ((7 * k : Nat) : Int) < 63 := by omega
          by_cases hk8 : k = 8
          · subst hk8
            go_wp2
            go_quiet (fail)
            go_wp2
            go_ret2
            exact ⟨by rw [hfin.out]; rfl, ⟨_, by rw [hfin.out]; trivial, HR1.out.keep (keep_drewN (fun _ => False) _ _) (fun _ h => h.elim)⟩, hkw1.drewN _⟩
          · have hk8' : (((7 * k : Nat) : Int) == 56) = false := by simp; omega
            go_wp2
            go_quiet (fail)
            go_wp2
            go_ret2
            exact ⟨by rw [hfin.out]; rfl, ⟨_, by rw [hfin.out]; trivial, HR1.out.keep (keep_drewN (fun _ => False) _ _) (fun _ h => h.elim)⟩, hkw1.drewN _⟩
        · have hfin : Hid (uvDec (l.drop i) = .ok (X + B * 2 ^ (7 * k)) (k + 1)) := Lib.hid (by rw [hd.out, hstep, if_neg (by omega), if_pos (by omega), if_neg hz])
          have hor := Lib.hid (uv_or k X B (by omega) hX (by omega))
          clear hd hstep
          have hk9' : ((7 * k : Nat) : Int) < 63 := by omega
          by_cases hB0 : B = 0
          · subst hB0
            have hk0 : k = 0 := by omega
            subst hk0
            have hfin' : Hid (uvDec (l.drop i) = .ok X 1) := Lib.hid (by rw [hfin.out]; simp)
            clear hor hfin
            have hor0 : Hid (bits .or .u64 (X : Int) 0 = (X : Nat)) := Lib.hid (by rw [u64_orv0 _ _ (by omega) (by omega) (by omega) (by omega) (by omega)]; omega)
            go_wp2
            go_ret2
            exact ⟨by rw [hfin'.out, hor0.out]; rfl, ⟨_, by rw [hfin'.out]; exact rfl, HR1.out⟩, hkw1⟩
          · have hB0' : ((B : Int) == 0) = false := by simp; omega
            by_cases hk8 : k = 8
            · subst hk8
              have hor8 : Hid (bits .or .u64 (X : Int) ((B : Int) * 72057594037927936) = ((X + B * 2 ^ (7 * 8) : Nat) : Int)) := Lib.hid (by
                rw [← hor.out, IntWalk.u64_in _ (by omega)]; rfl)
              clear hor
              go_wp2
              go_ret2
              exact ⟨by rw [hfin.out, hor8.out]; rfl, ⟨_, by rw [hfin.out]; exact rfl, HR1.out⟩, hkw1⟩
            · have hk8' : (((7 * k : Nat) : Int) == 56) = false := by simp; omega
              go_wp2
              go_ret2
              exact ⟨by rw [hfin.out, hor.out]; rfl, ⟨_, by rw [hfin.out]; exact rfl, HR1.out⟩, hkw1⟩
    · have hkn : i + k = l.length := by omega
      have hfin : Hid (uvDec (l.drop i) = .under) := Lib.hid (by rw [hd.out, hkn, List.drop_length]; rfl)
      have HB := Lib.hid (rdByte_end p v l (i + k) wr HR.out hkn e0 HE.out.eof)
      clear hd
      go_wp2_with fail
      refine HB.out.mono ?_
      rintro e w1 ⟨rfl, hr1, hk1⟩
      have hkw1 := hkw.trans hk1
      have HE1 := HE.out.keep hk1 (fun k hk => by omega)
      have hc1 := HE1.eof.cell
      have hc4 := HE1.unex.cell
      have HR1 := Lib.hid hr1
      clear hr1 hk1 HE1 HB
      by_cases hk0 : k = 0
      · subst hk0
        have hil : i = l.length := by omega
        clear hkn hlt hk
        go_wp2
        go_ret2
        exact ⟨rfl, ⟨_, trivial, HR1.out⟩, hkw1⟩
      · have hk0' : (((7 * k : Nat) : Int) == 0) = false := by simp; omega
        have hil : ¬ i = l.length := by omega
        go_wp2
        go_ret2
        exact ⟨by rw [hfin.out]; rfl, ⟨_, by rw [hfin.out]; trivial, HR1.out⟩, hkw1⟩
end Go.Proofs.YthfgnhgijgjggaaDoor
/- Contracts: cid.PrefixFromBytes. -/
namespace Go.Proofs.YthfgnhgijgjggaaDoor
open Go.RowKit

theorem readUv_ok (p : Nat) (v : Value) (l : List UInt8) (i : Nat) (w : World) (hr : Rdr w p v l i) (e0 e1 : Addr) (t2 t3 : TypeId) (p2 p3 : Value) (he : UvErrs p w e0 e1 (.iface t2 p2) (.iface t3 p3)) (x m : Nat) (hd : uvDec (l.drop i) = .ok x m) :
    Calls Tryd.prog 83 #[rdV p] w fun e w' => e = .returned (.tuple #[.int .u64 x, .nilIface]) ∧ Rdr w' p v l (i + m) ∧ Keep (fun k => k = p) w w' := by
  refine (readUv p v l i w hr e0 e1 t2 t3 p2 p3 he).mono ?_
  rintro e w' ⟨rfl, ⟨j, hj, hr'⟩, hk⟩
  rw [hd] at hj ⊢
  obtain rfl : j = i + m := hj
  exact ⟨rfl, hr', hk⟩

abbrev pfZ : Obj := .cells #[.int .u64 0, .int .u64 0, .int .u64 0, .int .i64 0] 91

set_option maxRecDepth 100000 in
set_option maxHeartbeats 4000000 in
theorem pfFrom (A : Option Addr) (n k : Nat) (a b c d : Nat) (ha : a < 9223372036854775808) (hb : b < 9223372036854775808) (hc : c < 9223372036854775808) (hd : d < 9223372036854775808) (w : World) (hs : BS w (.slice A n k) (pfEnc a b c d))
    (e0 e1 : Addr) (t2 t3 : TypeId) (p2 p3 : Value) (he : UvErrs w.heap.size w e0 e1 (.iface t2 p2) (.iface t3 p3)) :
    Calls Tryd.prog 46 #[.slice A n k] w fun e w' => e = .returned (.tuple #[.agg #[.int .u64 a, .int .u64 b, .int .u64 c, .int .i64 d], .nilIface]) ∧ Below w.heap.size w w' := by
  have hA : Below w.heap.size w (w.alloc pfZ) := (Below.refl _ _).alloc (Nat.le_refl _) _
  have hR0 := heap_alloc_new w pfZ
  have hg : (w.alloc pfZ).heap.size = w.heap.size + 1 := by simp
  have la := Lib.uvarint_length64 (x := a) (by omega)
  have lb := Lib.uvarint_length64 (x := b) (by omega)
  have lc := Lib.uvarint_length64 (x := c) (by omega)
  have ld := Lib.uvarint_length64 (x := d) (by omega)
  obtain ⟨l, hl⟩ : ∃ l, l = pfEnc a b c d := ⟨_, rfl⟩
  have hlen : l.length ≤ 40 := by rw [hl]; unfold pfEnc; simp only [List.length_append]; omega
  obtain ⟨na, hna⟩ : ∃ n, n = (Lib.uvarint a).length := ⟨_, rfl⟩
  obtain ⟨nb, hnb⟩ : ∃ n, n = (Lib.uvarint b).length := ⟨_, rfl⟩
  obtain ⟨nc, hnc⟩ : ∃ n, n = (Lib.uvarint c).length := ⟨_, rfl⟩
  have D1 : uvDec (l.drop 0) = .ok a na := by rw [hl, hna]; exact uvDec_back a ha _
  have E1 : l.drop na = Lib.uvarint b ++ (Lib.uvarint c ++ Lib.uvarint d) := by rw [hl, hna]; unfold pfEnc; rw [List.drop_left]
  have D2 : uvDec (l.drop (0 + na)) = .ok b nb := by rw [Nat.zero_add, E1, hnb]; exact uvDec_back b hb _
  have E2 : l.drop (na + nb) = Lib.uvarint c ++ Lib.uvarint d := by rw [← List.drop_drop, E1, hnb, List.drop_left]
  have D3 : uvDec (l.drop (0 + na + nb)) = .ok c nc := by rw [Nat.zero_add, E2, hnc]; exact uvDec_back c hc _
  have D4 : uvDec (l.drop (0 + na + nb + nc)) = .ok d (Lib.uvarint d).length := by rw [Nat.zero_add, ← List.drop_drop, E2, hnc, List.drop_left, ← List.append_nil (Lib.uvarint d)]; rw [uvDec_back d hd _]; simp
  rw [← hl] at hs
  have hs0 := hs.below hA
  have he0 := Lib.hid ((he.keep (S := fun _ => False) hA.keep (fun _ h => h.elim)))
  have HN := Lib.hid (newReader (.slice A n k) l (w.alloc pfZ) hs0 (by omega))
  rw [hg] at HN
  clear hl hna hnb hnc E1 E2 la lb lc ld hs hs0 he hlen
  have R0 := Lib.hid hR0
  clear hR0
  have H1 := fun W hr he => Lib.hid (readUv_ok (w.heap.size + 1) (.slice A n k) l _ W hr e0 e1 t2 t3 p2 p3 he _ _ D1)
  have H2 := fun W hr he => Lib.hid (readUv_ok (w.heap.size + 1) (.slice A n k) l _ W hr e0 e1 t2 t3 p2 p3 he _ _ D2)
  have H3 := fun W hr he => Lib.hid (readUv_ok (w.heap.size + 1) (.slice A n k) l _ W hr e0 e1 t2 t3 p2 p3 he _ _ D3)
  have H4 := fun W hr he => Lib.hid (readUv_ok (w.heap.size + 1) (.slice A n k) l _ W hr e0 e1 t2 t3 p2 p3 he _ _ D4)
  clear D1 D2 D3 D4
  have g5 : IntKind.i64.wrap (d : Int) = (d : Int) := IntWalk.i64_in _ (by omega)
  have g6 : wrap64 (d : Int) = (d : Int) := IntWalk.wrap64_in _ (by omega)
  go_enter Tryd.func46, Tryd.ntmps46
  go_wp2_with fail
  generalize w.alloc pfZ = w0 at *
  refine HN.out.mono ?_
  rintro e w1 ⟨rfl, r1, hs1, hb1⟩
  rw [← hg] at hb1
  have b1 := below_next hA hb1
  have he1 := (he0.out.keep (S := fun _ => False) hb1.keep (fun _ h => h.elim)).mono (C := w.heap.size + 1) (by omega)
  have R1 := Lib.hid (row_below hb1 (block_of_row R0.out) R0.out)
  have Q1 := Lib.hid (H1 w1 r1 he1)
  have HE1 := Lib.hid he1
  clear hb1 r1 he1 HN he0 H1
  go_wp2_with fail
  refine Q1.out.mono ?_
  rintro e w2 ⟨rfl, r2, k2⟩
  have b2 := b1.trans (k2.below (B := w.heap.size) (fun k hk e => by omega) (by have := b1.size; omega))
  have he2 := HE1.out.keep k2 (fun k hk => by omega)
  have R2 := Lib.hid (k2.row R1.out (by omega))
  have Q2 := Lib.hid (H2 w2 r2 he2)
  have HE2 := Lib.hid he2
  clear k2 r2 he2 HE1 H2 R1 Q1
  go_wp2_with fail
  refine Q2.out.mono ?_
  rintro e w3 ⟨rfl, r3, k3⟩
  have b3 := b2.trans (k3.below (B := w.heap.size) (fun k hk e => by omega) (by have := b2.size; omega))
  have he3 := HE2.out.keep k3 (fun k hk => by omega)
  have R3 := Lib.hid (k3.row R2.out (by omega))
  have Q3 := Lib.hid (H3 w3 r3 he3)
  have HE3 := Lib.hid he3
  clear k3 r3 he3 HE2 H3 R2 Q2
  go_wp2_with fail
  refine Q3.out.mono ?_
  rintro e w4 ⟨rfl, r4, k4⟩
  have b4 := b3.trans (k4.below (B := w.heap.size) (fun k hk e => by omega) (by have := b3.size; omega))
  have he4 := HE3.out.keep k4 (fun k hk => by omega)
  have R4 := Lib.hid (k4.row R3.out (by omega))
  have Q4 := Lib.hid (H4 w4 r4 he4)
  clear k4 r4 he4 HE3 H4 R3 Q3
  go_wp2_with fail
  refine Q4.out.mono ?_
  rintro e w5 ⟨rfl, r5, k5⟩
  have b5 := b4.trans (k5.below (B := w.heap.size) (fun k hk e => by omega) (by have := b4.size; omega))
  have hr := k5.row R4.out (show ¬ w.heap.size = w.heap.size + 1 by omega)
  have c0 := cell_of_row' (cur := [_, _, _, _]) hr 0
  have c1 := cell_of_row' (cur := [_, _, _, _]) hr 1
  have c2 := cell_of_row' (cur := [_, _, _, _]) hr 2
  have c3 := cell_of_row' (cur := [_, _, _, _]) hr 3
  have f0 := frozen_of_row' (cur := [_, _, _, _]) hr 0
  have f1 := frozen_of_row' (cur := [_, _, _, _]) hr 1
  have f2 := frozen_of_row' (cur := [_, _, _, _]) hr 2
  have f3 := frozen_of_row' (cur := [_, _, _, _]) hr 3
  have HR := Lib.hid hr
  clear hr k5 r5 R4 Q4
  go_wp2
  refine bodyPost_ret (results_row_tmp rfl _ _ w.heap.size 91 #[.int .u64 a, .int .u64 b, .int .u64 c, .int .i64 d] (0, 0) _ rfl (by simp [World.setCell, Array.getElem?_modify, HR.out]) Tryd.underlying91 rfl (by kernel_rfl)) rfl ?_
  exact ⟨rfl, (((b5.setCell (Nat.le_refl _) _).setCell (Nat.le_refl _) _).setCell (Nat.le_refl _) _).setCell (Nat.le_refl _) _⟩
end Go.Proofs.YthfgnhgijgjggaaDoor
/- Contracts: impl.CdPrefix, impl.CdPrefixRead. -/
namespace Go.Proofs.YthfgnhgijgjggaaDoor
open Go.RowKit

theorem results_tmp5 {fn : Func} {t1 t2 t3 t4 t5 : Tmp} (h : fn.results = #[.tmp t1, .tmp t2, .tmp t3, .tmp t4, .tmp t5]) (tmps : Array Value) (P : Program) (w : World) :
    (results fn tmps).run P w = .ok (.tuple #[tmps.getD t1 undef, tmps.getD t2 undef, tmps.getD t3 undef, tmps.getD t4 undef, tmps.getD t5 undef]) w := by
  simp [results, h]

set_option maxRecDepth 100000 in
set_option maxHeartbeats 4000000 in
theorem cdPrefixI (x : CidD) (ht : x.tidy) (d : ByteArray) (hcd : x.dig = d.data.toList) (hd : d.size ≤ 2147483600) (w : World) (hu : UvS w) :
    Calls Tryd.prog 21 #[.agg #[.int .u64 x.ver, .int .u64 x.codec, .int .u64 x.code, .string d]] w fun e w' => e = .returned (.tuple #[.string ⟨(pfEnc x.ver x.codec x.code d.size).toArray⟩, .bool true]) ∧ Below w.heap.size w w' := by
  have hA : Below w.heap.size w (w.alloc (cidO x.ver x.codec x.code d)) := (Below.refl _ _).alloc (Nat.le_refl _) _
  have hl : x.dig.length = d.size := by rw [hcd, ba_len]
  have HC := Lib.hid (cidIn_ok x ht d hcd hd _ (hu.below hA))
  have hs : CidStr ⟨(cidEnc x).toArray⟩ x := ⟨rfl, ht, by omega⟩
  have HP := fun W => Lib.hid (cdPrefix _ x hs W)
  rw [hl] at HP
  have hb0 : x.ver < 18446744073709551616 ∧ x.codec < 18446744073709551616 ∧ x.code < 18446744073709551616 := by
    rcases ht with ⟨h0, h1, h2, h3⟩ | ⟨h0, h1, h2⟩ <;> omega
  have HB := fun W => Lib.hid (pfBytes x.ver x.codec x.code d.size hb0.1 hb0.2.1 hb0.2.2 (by omega) W)
  clear hu hs ht hcd hd hl hb0
  generalize pfEnc x.ver x.codec x.code d.size = L at *
  generalize (⟨(cidEnc x).toArray⟩ : ByteArray) = S at *
  generalize (x.ver : Int) = c0 at *
  generalize (x.codec : Int) = c1 at *
  generalize (x.code : Int) = c2 at *
  go_enter Tryd.func21, Tryd.ntmps21
  go_wp2_with fail
  refine HC.out.mono ?_
  rintro e w1 ⟨rfl, hb1⟩
  have b1 := below_next hA hb1
  have b2 := b1.alloc b1.size (.cells #[.string S] 80)
  clear hb1 HC hA
  go_wp2_with fail
  refine (HP _).out.mono ?_
  rintro e w2 ⟨rfl, hb2⟩
  have b3 := below_next b2 hb2
  clear hb2
  go_wp2_with fail
  refine (HB _).out.mono ?_
  rintro e w3 ⟨⟨A, n, k, rfl, hbs⟩, hb3⟩
  have b4 := below_next b3 hb3
  have hcv := hbs.str (P := Tryd.prog) (dst := 9) Tryd.underlying43 Tryd.underlying5 Tryd.underlying9
  clear hb3 HP HB hbs
  go_wp2
  go_ret2
  exact ⟨rfl, b4⟩

set_option maxRecDepth 100000 in
set_option maxHeartbeats 4000000 in
theorem cdPrefixRead (a b c d : Nat) (ha : a < 9223372036854775808) (hb : b < 9223372036854775808) (hc : c < 9223372036854775808) (hd : d < 9223372036854775808) (w : World)
    (e0 e1 : Addr) (t2 t3 : TypeId) (p2 p3 : Value) (he : UvErrs w.heap.size w e0 e1 (.iface t2 p2) (.iface t3 p3)) :
    Calls Tryd.prog 22 #[.string ⟨(pfEnc a b c d).toArray⟩] w fun e w' => e = .returned (.tuple #[.int .u64 a, .int .u64 b, .int .u64 c, .int .i64 d, .bool true]) ∧ Below w.heap.size w w' := by
  obtain ⟨A, n, w1, hconv, hb1, hbs⟩ := conv_in' w ⟨(pfEnc a b c d).toArray⟩
  have HF := Lib.hid (pfFrom A _ n a b c d ha hb hc hd w1 hbs e0 e1 t2 t3 p2 p3 ((he.keep (S := fun _ => False) hb1.keep (fun _ h => h.elim)).mono hb1.size))
  clear hbs he
  generalize (⟨(pfEnc a b c d).toArray⟩ : ByteArray) = S at *
  go_enter Tryd.func22, Tryd.ntmps22
  go_wp2_with fail
  refine HF.out.mono ?_
  rintro e w2 ⟨rfl, hb2⟩
  have b3 := (below_next hb1 hb2).alloc (below_next hb1 hb2).size (.cells #[.int .u64 a, .int .u64 b, .int .u64 c, .int .i64 d] 91)
  have R3 := heap_alloc_new w2 (.cells #[.int .u64 a, .int .u64 b, .int .u64 c, .int .i64 d] 91)
  have c0 := cell_of_row' (cur := [_, _, _, _]) R3 0
  have c1 := cell_of_row' (cur := [_, _, _, _]) R3 1
  have c2 := cell_of_row' (cur := [_, _, _, _]) R3 2
  have c3 := cell_of_row' (cur := [_, _, _, _]) R3 3
  clear R3 hb2 hb1 HF hconv
  go_wp2
  go_quiet (fail)
  go_wp2
  (try simp only [Exit.inBlock, Exit.then])
  refine bodyPost_ret (results_tmp5 rfl _ _ _) rfl ?_
  exact ⟨rfl, b3.drewN _⟩
end Go.Proofs.YthfgnhgijgjggaaDoor
/- Contracts: spec.StreamCid, spec.ReadBlockHead. -/
namespace Go.Proofs.YthfgnhgijgjggaaDoor
open Go.RowKit

section
variable {P : Program}
theorem results_rows {fn : Func} {p u u2 : Tmp} {ty : TypeId} (h : fn.results = #[.cell p ty, .tmp u, .tmp u2]) (tmps : Array Value) (w : World) (g : Nat) (t : TypeId) (cs : Array Value) (fr : Nat × Nat) (d : TypeDesc)
    (hp : tmps.getD p undef = .pointer (some ⟨g, 0, none⟩)) (hg : w.heap[g]? = some (.cells cs t fr))
    (hu : P.underlying ty = some d) (hd : (match d with | .struct _ | .array _ _ => true | _ => false) = true) (hi : (P.info? ty).map (·.size) = some cs.size) :
    (results fn tmps).run P w = .ok (.tuple #[.agg cs, tmps.getD u undef, tmps.getD u2 undef]) w := by
  have hp' : tmps[p]?.getD undef = .pointer (some ⟨g, 0, none⟩) := by simpa using hp
  simp only [results, h]
  simp [Result.andThen, hp', asAddr, run_loadVar_row w g t ty cs fr d hg hu hd hi]
end

/-- What StreamCid answers of bytes that are there. -/
def stSpec : Option (CidD × Nat) → Value
  | some (x, n) => .tuple #[cidVal x, .int .i64 n, .int .u8 0]
  | none => .tuple #[noCid, .int .i64 0, .int .u8 2]

set_option maxRecDepth 100000 in
set_option maxHeartbeats 4000000 in
theorem streamCid (s : ByteArray) (w : World) (hm : s.size ≤ 33554432) (h0 : 0 < s.size) :
    Calls Tryd.prog 58 #[.string s] w fun e w' => e = .returned (stSpec (cidRd s.data.toList)) ∧ Below w.heap.size w w' := by
  have hA : Below w.heap.size w (w.alloc outZ) := (Below.refl _ _).alloc (Nat.le_refl _) _
  have HC := Lib.hid (readCid_any s (w.alloc outZ) (by omega))
  obtain ⟨n1, n2, n3⟩ := ba_nonempty h0
  have HA := Lib.hid hA
  have hr0 := heap_alloc_new w outZ
  cases hd : cidRd s.data.toList with
  | none =>
    rw [hd] at HC
    unfold rdSpec at HC
    dsimp only at HC
    clear hA hd
    go_enter Tryd.func58, Tryd.ntmps58
    go_wp2_with fail
    refine HC.out.mono ?_
    rintro e w1 ⟨rfl, hb1⟩
    have hb2 : Below w1.heap.size w1 (w1.alloc outZ) := (Below.refl _ _).alloc (Nat.le_refl _) _
    have hr2 := row_below hb2 (block_of_row (row_below hb1 (block_of_row hr0) hr0)) (row_below hb1 (block_of_row hr0) hr0)
    obtain ⟨⟨k0, k1, k2, k3⟩, f0, f1, f2, f3⟩ := (OutVar.mk hr2).cells
    have p4 := Lib.hid (set4 hr2 (.int .u64 0) (.int .u64 0) (.int .u64 0) (.string ⟨#[]⟩))
    have HF := Lib.hid (below_set4 (below_next (below_next HA.out hb1) hb2) (Nat.le_refl _) (.int .u64 0) (.int .u64 0) (.int .u64 0) (.string ⟨#[]⟩))
    clear hb1 hb2 hr2 hr0 HC
    go_wp2
    refine bodyPost_ret (results_rows rfl _ _ (w.heap.size) 26 #[.int .u64 0, .int .u64 0, .int .u64 0, .string ⟨#[]⟩] (0, 0) _ rfl p4.out Tryd.underlying26 rfl (by kernel_rfl)) rfl ?_
    exact ⟨rfl, HF.out⟩
  | some xk =>
    obtain ⟨x, k⟩ := xk
    rw [hd] at HC
    unfold rdSpec cidVal at HC
    dsimp only at HC
    have hdl : x.dig.length ≤ 33554432 := by
      obtain ⟨t1, t2, t3, t4⟩ := cidRd_take hd
      have h5 : x.dig.length ≤ (cidEnc x).length := by unfold cidEnc mhEnc; split <;> simp <;> omega
      have h6 := congrArg List.length t2
      rw [List.length_take, ba_len] at h6
      rw [ba_len] at t1
      omega
    obtain ⟨v3, hv3⟩ : ∃ v3 : ByteArray, v3 = ⟨x.dig.toArray⟩ := ⟨_, rfl⟩
    have hsz : ¬ (33554432 : Int) < (v3.size : Int) := by
      have : v3.size = x.dig.length := by rw [hv3]; rfl
      omega
    rw [← hv3] at HC
    have HV := Lib.hid hv3
    clear hA hd hv3 hdl
    obtain ⟨v0, hv0⟩ : ∃ v0 : Int, v0 = x.ver := ⟨_, rfl⟩
    obtain ⟨v1, hv1⟩ : ∃ v1 : Int, v1 = x.codec := ⟨_, rfl⟩
    obtain ⟨v2, hv2⟩ : ∃ v2 : Int, v2 = x.code := ⟨_, rfl⟩
    rw [← hv0, ← hv1, ← hv2] at HC
    have HV0 := Lib.hid hv0
    have HV1 := Lib.hid hv1
    have HV2 := Lib.hid hv2
    clear hv0 hv1 hv2
    go_enter Tryd.func58, Tryd.ntmps58
    go_wp2_with fail
    refine HC.out.mono ?_
    rintro e w1 ⟨rfl, hb1⟩
    obtain ⟨W2, hW2⟩ : ∃ W2, W2 = w1.alloc (.cells #[.int .u64 v0, .int .u64 v1, .int .u64 v2, .string v3] 26) := ⟨_, rfl⟩
    have hb2 : Below w1.heap.size w1 W2 := hW2 ▸ (Below.refl _ _).alloc (Nat.le_refl _) _
    have hrn := heap_alloc_new w1 (.cells #[.int .u64 v0, .int .u64 v1, .int .u64 v2, .string v3] 26)
    have j0 := cell_of_row' (cur := [_, _, _, _]) hrn 0
    have j1 := cell_of_row' (cur := [_, _, _, _]) hrn 1
    have j2 := cell_of_row' (cur := [_, _, _, _]) hrn 2
    have j3 := cell_of_row' (cur := [_, _, _, _]) hrn 3
    have hr2 := row_below hb2 (block_of_row (row_below hb1 (block_of_row hr0) hr0)) (row_below hb1 (block_of_row hr0) hr0)
    obtain ⟨⟨k0, k1, k2, k3⟩, f0, f1, f2, f3⟩ := (OutVar.mk hr2).cells
    have p4 := Lib.hid (set4 hr2 (.int .u64 v0) (.int .u64 v1) (.int .u64 v2) (.string v3))
    have HF := Lib.hid (below_set4 (below_next (below_next HA.out hb1) hb2) (Nat.le_refl _) (.int .u64 v0) (.int .u64 v1) (.int .u64 v2) (.string v3))
    rw [hW2] at k0 k1 k2 k3 f0 f1 f2 f3 p4 HF
    clear hb1 hb2 hr2 hr0 HC hrn hW2
    go_wp2
    refine bodyPost_ret (results_rows rfl _ _ (w.heap.size) 26 #[.int .u64 v0, .int .u64 v1, .int .u64 v2, .string v3] (0, 0) _ rfl p4.out Tryd.underlying26 rfl (by kernel_rfl)) rfl ?_
    exact ⟨by unfold stSpec cidVal; dsimp only; rw [← HV.out, ← HV0.out, ← HV1.out, ← HV2.out]; rfl, HF.out⟩
end Go.Proofs.YthfgnhgijgjggaaDoor
/- Contract: spec.ReadBlockHead. -/
namespace Go.Proofs.YthfgnhgijgjggaaDoor
open Go.RowKit

abbrev bhZ : Obj := .cells #[.int .u64 0, .int .u64 0, .int .u64 0, .string ⟨#[]⟩, .int .u64 0, .int .i64 0, .int .u8 0, .bool false] 55
structure BhVar (w : World) (g : Nat) : Prop where
  row : w.heap[g]? = some bhZ
theorem BhVar.cells {w : World} {g : Nat} (h : BhVar w g) : (w.cell? ⟨g, 0, none⟩ = some (.int .u64 0) ∧ w.cell? ⟨g, 1, none⟩ = some (.int .u64 0) ∧ w.cell? ⟨g, 2, none⟩ = some (.int .u64 0) ∧ w.cell? ⟨g, 3, none⟩ = some (.string ⟨#[]⟩) ∧ w.cell? ⟨g, 4, none⟩ = some (.int .u64 0) ∧ w.cell? ⟨g, 5, none⟩ = some (.int .i64 0) ∧ w.cell? ⟨g, 6, none⟩ = some (.int .u8 0) ∧ w.cell? ⟨g, 7, none⟩ = some (.bool false)) ∧ (w.frozen? ⟨g, 0, none⟩ = false ∧ w.frozen? ⟨g, 1, none⟩ = false ∧ w.frozen? ⟨g, 2, none⟩ = false ∧ w.frozen? ⟨g, 3, none⟩ = false ∧ w.frozen? ⟨g, 4, none⟩ = false ∧ w.frozen? ⟨g, 5, none⟩ = false ∧ w.frozen? ⟨g, 6, none⟩ = false ∧ w.frozen? ⟨g, 7, none⟩ = false) :=
  ⟨⟨cell_of_row' (cur := [_, _, _, _, _, _, _, _]) h.row 0, cell_of_row' (cur := [_, _, _, _, _, _, _, _]) h.row 1, cell_of_row' (cur := [_, _, _, _, _, _, _, _]) h.row 2, cell_of_row' (cur := [_, _, _, _, _, _, _, _]) h.row 3, cell_of_row' (cur := [_, _, _, _, _, _, _, _]) h.row 4, cell_of_row' (cur := [_, _, _, _, _, _, _, _]) h.row 5, cell_of_row' (cur := [_, _, _, _, _, _, _, _]) h.row 6, cell_of_row' (cur := [_, _, _, _, _, _, _, _]) h.row 7⟩, ⟨frozen_of_row' (cur := [_, _, _, _, _, _, _, _]) h.row 0, frozen_of_row' (cur := [_, _, _, _, _, _, _, _]) h.row 1, frozen_of_row' (cur := [_, _, _, _, _, _, _, _]) h.row 2, frozen_of_row' (cur := [_, _, _, _, _, _, _, _]) h.row 3, frozen_of_row' (cur := [_, _, _, _, _, _, _, _]) h.row 4, frozen_of_row' (cur := [_, _, _, _, _, _, _, _]) h.row 5, frozen_of_row' (cur := [_, _, _, _, _, _, _, _]) h.row 6, frozen_of_row' (cur := [_, _, _, _, _, _, _, _]) h.row 7⟩⟩
theorem BhVar.below {w w' : World} {g : Nat} (h : BhVar w g) (hb : Below w.heap.size w w') : BhVar w' g := ⟨row_below hb (block_of_row h.row) h.row⟩
theorem set8 {w : World} {g : Nat} (h : BhVar w g) (a b c d e f p q : Value) :
    ((((((((w.setCell ⟨g, 0, none⟩ a).setCell ⟨g, 1, none⟩ b).setCell ⟨g, 2, none⟩ c).setCell ⟨g, 3, none⟩ d).setCell ⟨g, 4, none⟩ e).setCell ⟨g, 5, none⟩ f).setCell ⟨g, 6, none⟩ p).setCell ⟨g, 7, none⟩ q).heap[g]? = some (.cells #[a, b, c, d, e, f, p, q] 55 (0, 0)) := by
  have h0 : (w.setCell ⟨g, 0, none⟩ a).heap[g]? = some (.cells #[a, .int .u64 0, .int .u64 0, .string ⟨#[]⟩, .int .u64 0, .int .i64 0, .int .u8 0, .bool false] 55 (0, 0)) := Lib.heap_setCell_same (i := 0) h.row a
  have h1 : ((w.setCell ⟨g, 0, none⟩ a).setCell ⟨g, 1, none⟩ b).heap[g]? = some (.cells #[a, b, .int .u64 0, .string ⟨#[]⟩, .int .u64 0, .int .i64 0, .int .u8 0, .bool false] 55 (0, 0)) := Lib.heap_setCell_same (i := 1) h0 b
  have h2 : (((w.setCell ⟨g, 0, none⟩ a).setCell ⟨g, 1, none⟩ b).setCell ⟨g, 2, none⟩ c).heap[g]? = some (.cells #[a, b, c, .string ⟨#[]⟩, .int .u64 0, .int .i64 0, .int .u8 0, .bool false] 55 (0, 0)) := Lib.heap_setCell_same (i := 2) h1 c
  have h3 : ((((w.setCell ⟨g, 0, none⟩ a).setCell ⟨g, 1, none⟩ b).setCell ⟨g, 2, none⟩ c).setCell ⟨g, 3, none⟩ d).heap[g]? = some (.cells #[a, b, c, d, .int .u64 0, .int .i64 0, .int .u8 0, .bool false] 55 (0, 0)) := Lib.heap_setCell_same (i := 3) h2 d
  have h4 : (((((w.setCell ⟨g, 0, none⟩ a).setCell ⟨g, 1, none⟩ b).setCell ⟨g, 2, none⟩ c).setCell ⟨g, 3, none⟩ d).setCell ⟨g, 4, none⟩ e).heap[g]? = some (.cells #[a, b, c, d, e, .int .i64 0, .int .u8 0, .bool false] 55 (0, 0)) := Lib.heap_setCell_same (i := 4) h3 e
  have h5 : ((((((w.setCell ⟨g, 0, none⟩ a).setCell ⟨g, 1, none⟩ b).setCell ⟨g, 2, none⟩ c).setCell ⟨g, 3, none⟩ d).setCell ⟨g, 4, none⟩ e).setCell ⟨g, 5, none⟩ f).heap[g]? = some (.cells #[a, b, c, d, e, f, .int .u8 0, .bool false] 55 (0, 0)) := Lib.heap_setCell_same (i := 5) h4 f
  have h6 : (((((((w.setCell ⟨g, 0, none⟩ a).setCell ⟨g, 1, none⟩ b).setCell ⟨g, 2, none⟩ c).setCell ⟨g, 3, none⟩ d).setCell ⟨g, 4, none⟩ e).setCell ⟨g, 5, none⟩ f).setCell ⟨g, 6, none⟩ p).heap[g]? = some (.cells #[a, b, c, d, e, f, p, .bool false] 55 (0, 0)) := Lib.heap_setCell_same (i := 6) h5 p
  have h7 : ((((((((w.setCell ⟨g, 0, none⟩ a).setCell ⟨g, 1, none⟩ b).setCell ⟨g, 2, none⟩ c).setCell ⟨g, 3, none⟩ d).setCell ⟨g, 4, none⟩ e).setCell ⟨g, 5, none⟩ f).setCell ⟨g, 6, none⟩ p).setCell ⟨g, 7, none⟩ q).heap[g]? = some (.cells #[a, b, c, d, e, f, p, q] 55 (0, 0)) := Lib.heap_setCell_same (i := 7) h6 q
  exact h7
theorem below_set8 {B : Nat} {w w' : World} {g : Nat} (h : Below B w w') (hB : B ≤ g) (a b c d e f p q : Value) :
    Below B w ((((((((w'.setCell ⟨g, 0, none⟩ a).setCell ⟨g, 1, none⟩ b).setCell ⟨g, 2, none⟩ c).setCell ⟨g, 3, none⟩ d).setCell ⟨g, 4, none⟩ e).setCell ⟨g, 5, none⟩ f).setCell ⟨g, 6, none⟩ p).setCell ⟨g, 7, none⟩ q) :=
  (((((((h.setCell hB _).setCell hB _).setCell hB _).setCell hB _).setCell hB _).setCell hB _).setCell hB _).setCell hB _

/-- Nothing was read, for this reason. -/
def BhBad (k : Nat) (e : Ending) : Prop := ∃ n : Int, e = .returned (.agg #[.int .u64 0, .int .u64 0, .int .u64 0, .string ⟨#[]⟩, .int .u64 0, .int .i64 n, .int .u8 k, .bool false])
/-- Left out. -/
def BhLeft (e : Ending) : Prop := e = .returned (.agg #[.int .u64 0, .int .u64 0, .int .u64 0, .string ⟨#[]⟩, .int .u64 0, .int .i64 0, .int .u8 0, .bool true])

set_option maxRecDepth 100000 in
set_option maxHeartbeats 8000000 in
theorem rbh_empty (s : ByteArray) (w : World) (hm : s.size ≤ 33554432) (z : Bool) (most : Nat) (h0 : s.size = 0) :
    Calls Tryd.prog 31 #[.string s, .bool z, .int .u64 most] w fun e w' => BhBad 1 e ∧ Below w.heap.size w w' := by
  have hA : Below w.heap.size w (w.alloc bhZ) := (Below.refl _ _).alloc (Nat.le_refl _) _
  have hO0 : BhVar (w.alloc bhZ) w.heap.size := ⟨heap_alloc_new w bhZ⟩
  have HA := Lib.hid hA
  have HO0 := Lib.hid hO0
  have h1 : s.data.toList = [] := List.eq_nil_of_length_eq_zero (by rw [ba_len]; exact h0)
  have hs : s = ⟨#[]⟩ := by
    have h2 := ba_mk s
    rw [h1] at h2
    exact h2.symm
  clear h1
  subst hs
  obtain ⟨⟨k0, k1, k2, k3, k4, k5, k6, k7⟩, f0, f1, f2, f3, f4, f5, f6, f7⟩ := hO0.cells
  have p4 := Lib.hid (heap_alloc_new w (.cells #[.int .u64 0, .int .u64 0, .int .u64 0, .string ⟨#[]⟩, .int .u64 0, .int .i64 0, .int .u8 1, .bool false] 55))
  clear hA hO0 hm
  go_enter Tryd.func31, Tryd.ntmps31
  go_wp2
  refine bodyPost_ret (results_cell_row rfl _ _ (w.heap.size) 55 #[.int .u64 0, .int .u64 0, .int .u64 0, .string ⟨#[]⟩, .int .u64 0, .int .i64 0, .int .u8 1, .bool false] (0, 0) _ rfl p4.out Tryd.underlying55 rfl (by kernel_rfl)) rfl ?_
  exact ⟨⟨_, rfl⟩, (Below.refl _ _).alloc (Nat.le_refl _) _⟩

set_option maxRecDepth 100000 in
set_option maxHeartbeats 8000000 in
theorem rbh_no (s : ByteArray) (w : World) (hm : s.size ≤ 33554432) (z : Bool) (most : Nat) (h0 : 0 < s.size) (hno : (uvDec s.data.toList).no) :
    Calls Tryd.prog 31 #[.string s, .bool z, .int .u64 most] w fun e w' => BhBad 2 e ∧ Below w.heap.size w w' := by
  have hA : Below w.heap.size w (w.alloc bhZ) := (Below.refl _ _).alloc (Nat.le_refl _) _
  have hO0 : BhVar (w.alloc bhZ) w.heap.size := ⟨heap_alloc_new w bhZ⟩
  have HA := Lib.hid hA
  have HO0 := Lib.hid hO0
  have HC := Lib.hid (readVarint_no s (w.alloc bhZ) (by omega) hno)
  obtain ⟨n1, n2, n3⟩ := ba_nonempty h0
  go_enter Tryd.func31, Tryd.ntmps31
  go_wp2_with fail
  refine HC.out.mono ?_
  rintro e w1 ⟨⟨kk, hkk, rfl⟩, hb1⟩
  have hO1 := HO0.out.below hb1
  have hbA := below_next HA.out hb1
  obtain ⟨⟨k0, k1, k2, k3, k4, k5, k6, k7⟩, f0, f1, f2, f3, f4, f5, f6, f7⟩ := hO1.cells
  have p4 := Lib.hid (set8 hO1 (.int .u64 0) (.int .u64 0) (.int .u64 0) (.string ⟨#[]⟩) (.int .u64 0) (.int .i64 0) (.int .u8 2) (.bool false))
  have HF := Lib.hid (below_set8 hbA (Nat.le_refl _) (.int .u64 0) (.int .u64 0) (.int .u64 0) (.string ⟨#[]⟩) (.int .u64 0) (.int .i64 0) (.int .u8 2) (.bool false))
  clear hO1 hbA hb1 hA hO0
  go_wp2
  refine bodyPost_ret (results_cell_row rfl _ _ (w.heap.size) 55 #[.int .u64 0, .int .u64 0, .int .u64 0, .string ⟨#[]⟩, .int .u64 0, .int .i64 0, .int .u8 2, .bool false] (0, 0) _ rfl p4.out Tryd.underlying55 rfl (by kernel_rfl)) rfl ?_
  exact ⟨⟨_, rfl⟩, HF.out⟩

set_option maxRecDepth 100000 in
set_option maxHeartbeats 8000000 in
theorem rbh_big (s : ByteArray) (w : World) (hm : s.size ≤ 33554432) (z : Bool) (most : Nat) (h0 : 0 < s.size) (x m : Nat) (hd : uvDec s.data.toList = .ok x m) (hx : most < x) :
    Calls Tryd.prog 31 #[.string s, .bool z, .int .u64 most] w fun e w' => BhBad 2 e ∧ Below w.heap.size w w' := by
  have hA : Below w.heap.size w (w.alloc bhZ) := (Below.refl _ _).alloc (Nat.le_refl _) _
  have hO0 : BhVar (w.alloc bhZ) w.heap.size := ⟨heap_alloc_new w bhZ⟩
  have HA := Lib.hid hA
  have HO0 := Lib.hid hO0
  have HC := Lib.hid (readVarint_ok s (w.alloc bhZ) (by omega) x m hd)
  obtain ⟨n1, n2, n3⟩ := ba_nonempty h0
  have hx2 : (most : Int) < x := by omega
  clear hd hx
  go_enter Tryd.func31, Tryd.ntmps31
  go_wp2_with fail
  refine HC.out.mono ?_
  rintro e w1 ⟨rfl, hb1⟩
  have hO1 := HO0.out.below hb1
  have hbA := below_next HA.out hb1
  obtain ⟨⟨k0, k1, k2, k3, k4, k5, k6, k7⟩, f0, f1, f2, f3, f4, f5, f6, f7⟩ := hO1.cells
  have p4 := Lib.hid (set8 hO1 (.int .u64 0) (.int .u64 0) (.int .u64 0) (.string ⟨#[]⟩) (.int .u64 0) (.int .i64 0) (.int .u8 2) (.bool false))
  have HF := Lib.hid (below_set8 hbA (Nat.le_refl _) (.int .u64 0) (.int .u64 0) (.int .u64 0) (.string ⟨#[]⟩) (.int .u64 0) (.int .i64 0) (.int .u8 2) (.bool false))
  clear hO1 hbA hb1 hA hO0
  go_wp2
  refine bodyPost_ret (results_cell_row rfl _ _ (w.heap.size) 55 #[.int .u64 0, .int .u64 0, .int .u64 0, .string ⟨#[]⟩, .int .u64 0, .int .i64 0, .int .u8 2, .bool false] (0, 0) _ rfl p4.out Tryd.underlying55 rfl (by kernel_rfl)) rfl ?_
  exact ⟨⟨_, rfl⟩, HF.out⟩

set_option maxRecDepth 100000 in
set_option maxHeartbeats 8000000 in
theorem rbh_end (s : ByteArray) (w : World) (hm : s.size ≤ 33554432) (z : Bool) (most : Nat) (h0 : 0 < s.size) (x m : Nat) (hd : uvDec s.data.toList = .ok x m) (hx0 : x = 0) (hz : z = true) :
    Calls Tryd.prog 31 #[.string s, .bool z, .int .u64 most] w fun e w' => BhBad 1 e ∧ Below w.heap.size w w' := by
  have hA : Below w.heap.size w (w.alloc bhZ) := (Below.refl _ _).alloc (Nat.le_refl _) _
  have hO0 : BhVar (w.alloc bhZ) w.heap.size := ⟨heap_alloc_new w bhZ⟩
  have HA := Lib.hid hA
  have HO0 := Lib.hid hO0
  have HC := Lib.hid (readVarint_ok s (w.alloc bhZ) (by omega) x m hd)
  obtain ⟨n1, n2, n3⟩ := ba_nonempty h0
  subst hz
  have hx2 : (decide ((most : Int) < 0)) = false := by simp
  subst hx0
  clear hd
  go_enter Tryd.func31, Tryd.ntmps31
  go_wp2_with fail
  refine HC.out.mono ?_
  rintro e w1 ⟨rfl, hb1⟩
  have hO1 := HO0.out.below hb1
  have hbA := below_next HA.out hb1
  obtain ⟨⟨k0, k1, k2, k3, k4, k5, k6, k7⟩, f0, f1, f2, f3, f4, f5, f6, f7⟩ := hO1.cells
  have p4 := Lib.hid (set8 hO1 (.int .u64 0) (.int .u64 0) (.int .u64 0) (.string ⟨#[]⟩) (.int .u64 0) (.int .i64 (m : Int)) (.int .u8 1) (.bool false))
  have HF := Lib.hid (below_set8 hbA (Nat.le_refl _) (.int .u64 0) (.int .u64 0) (.int .u64 0) (.string ⟨#[]⟩) (.int .u64 0) (.int .i64 (m : Int)) (.int .u8 1) (.bool false))
  clear hO1 hbA hb1 hA hO0
  go_wp2
  refine bodyPost_ret (results_cell_row rfl _ _ (w.heap.size) 55 #[.int .u64 0, .int .u64 0, .int .u64 0, .string ⟨#[]⟩, .int .u64 0, .int .i64 (m : Int), .int .u8 1, .bool false] (0, 0) _ rfl p4.out Tryd.underlying55 rfl (by kernel_rfl)) rfl ?_
  exact ⟨⟨_, rfl⟩, HF.out⟩

set_option maxRecDepth 100000 in
set_option maxHeartbeats 8000000 in
theorem rbh_leftEnd (s : ByteArray) (w : World) (hm : s.size ≤ 33554432) (z : Bool) (most : Nat) (h0 : 0 < s.size) (x m : Nat) (hd : uvDec s.data.toList = .ok x m) (hx : x ≤ most) (hz : z = true → x ≠ 0) (hml : m = s.size) :
    Calls Tryd.prog 31 #[.string s, .bool z, .int .u64 most] w fun e w' => BhLeft e ∧ Below w.heap.size w w' := by
  have hA : Below w.heap.size w (w.alloc bhZ) := (Below.refl _ _).alloc (Nat.le_refl _) _
  have hO0 : BhVar (w.alloc bhZ) w.heap.size := ⟨heap_alloc_new w bhZ⟩
  have HA := Lib.hid hA
  have HO0 := Lib.hid hO0
  have HC := Lib.hid (readVarint_ok s (w.alloc bhZ) (by omega) x m hd)
  obtain ⟨n1, n2, n3⟩ := ba_nonempty h0
  have hx2 : ((most : Int) < x) = False := by simp; omega
  clear hd hx
  subst hml
  cases z
  · clear hz
    go_enter Tryd.func31, Tryd.ntmps31
    go_wp2_with fail
    refine HC.out.mono ?_
    rintro e w1 ⟨rfl, hb1⟩
    have hO1 := HO0.out.below hb1
    have hbA := below_next HA.out hb1
    obtain ⟨⟨k0, k1, k2, k3, k4, k5, k6, k7⟩, f0, f1, f2, f3, f4, f5, f6, f7⟩ := hO1.cells
    have p4 := Lib.hid (set8 hO1 (.int .u64 0) (.int .u64 0) (.int .u64 0) (.string ⟨#[]⟩) (.int .u64 0) (.int .i64 0) (.int .u8 0) (.bool true))
    have HF := Lib.hid (below_set8 hbA (Nat.le_refl _) (.int .u64 0) (.int .u64 0) (.int .u64 0) (.string ⟨#[]⟩) (.int .u64 0) (.int .i64 0) (.int .u8 0) (.bool true))
    clear hO1 hbA hb1 hA hO0
    go_wp2
    refine bodyPost_ret (results_cell_row rfl _ _ (w.heap.size) 55 #[.int .u64 0, .int .u64 0, .int .u64 0, .string ⟨#[]⟩, .int .u64 0, .int .i64 0, .int .u8 0, .bool true] (0, 0) _ rfl p4.out Tryd.underlying55 rfl (by kernel_rfl)) rfl ?_
    exact ⟨rfl, HF.out⟩
  · have hz2 : ((x : Int) == 0) = false := by have := hz rfl; simp; omega
    clear hz
    go_enter Tryd.func31, Tryd.ntmps31
    go_wp2_with fail
    refine HC.out.mono ?_
    rintro e w1 ⟨rfl, hb1⟩
    have hO1 := HO0.out.below hb1
    have hbA := below_next HA.out hb1
    obtain ⟨⟨k0, k1, k2, k3, k4, k5, k6, k7⟩, f0, f1, f2, f3, f4, f5, f6, f7⟩ := hO1.cells
    have p4 := Lib.hid (set8 hO1 (.int .u64 0) (.int .u64 0) (.int .u64 0) (.string ⟨#[]⟩) (.int .u64 0) (.int .i64 0) (.int .u8 0) (.bool true))
    have HF := Lib.hid (below_set8 hbA (Nat.le_refl _) (.int .u64 0) (.int .u64 0) (.int .u64 0) (.string ⟨#[]⟩) (.int .u64 0) (.int .i64 0) (.int .u8 0) (.bool true))
    clear hO1 hbA hb1 hA hO0
    go_wp2
    refine bodyPost_ret (results_cell_row rfl _ _ (w.heap.size) 55 #[.int .u64 0, .int .u64 0, .int .u64 0, .string ⟨#[]⟩, .int .u64 0, .int .i64 0, .int .u8 0, .bool true] (0, 0) _ rfl p4.out Tryd.underlying55 rfl (by kernel_rfl)) rfl ?_
    exact ⟨rfl, HF.out⟩

set_option maxRecDepth 100000 in
set_option maxHeartbeats 8000000 in
theorem rbh_noCid (s : ByteArray) (w : World) (hm : s.size ≤ 33554432) (z : Bool) (most : Nat) (h0 : 0 < s.size) (x m : Nat) (hd : uvDec s.data.toList = .ok x m) (hx : x ≤ most) (hz : z = true → x ≠ 0) (hml : m < s.size) (hc : cidRd (s.data.toList.drop m) = none) :
    Calls Tryd.prog 31 #[.string s, .bool z, .int .u64 most] w fun e w' => BhBad 2 e ∧ Below w.heap.size w w' := by
  have hA : Below w.heap.size w (w.alloc bhZ) := (Below.refl _ _).alloc (Nat.le_refl _) _
  have hO0 : BhVar (w.alloc bhZ) w.heap.size := ⟨heap_alloc_new w bhZ⟩
  have HA := Lib.hid hA
  have HO0 := Lib.hid hO0
  have HC := Lib.hid (readVarint_ok s (w.alloc bhZ) (by omega) x m hd)
  obtain ⟨n1, n2, n3⟩ := ba_nonempty h0
  have HS := fun W => Lib.hid (streamCid ⟨(s.data.toList.drop m).toArray⟩ W (by rw [ba_size_drop]; omega) (by rw [ba_size_drop]; omega))
  have T := fun W => run_str_from (P := Tryd.prog) Tryd.underlying9 s m (by omega) m rfl W
  have hml2 : ((m : Int) == s.size) = false := by simp; omega
  rw [show (⟨(s.data.toList.drop m).toArray⟩ : ByteArray).data.toList = s.data.toList.drop m from rfl, hc] at HS
  unfold stSpec at HS
  dsimp only at HS
  have hx2 : ¬ (most : Int) < x := by omega
  clear hd hx hc
  cases z
  · clear hz
    go_enter Tryd.func31, Tryd.ntmps31
    go_wp2_with fail
    refine HC.out.mono ?_
    rintro e w1 ⟨rfl, hb1⟩
    have hO1 := HO0.out.below hb1
    have hbA := below_next HA.out hb1
    have H1 := Lib.hid hO1
    have HBA := Lib.hid hbA
    clear hO1 hbA hb1 hA hO0
    go_wp2_with fail
    refine (HS w1).out.mono ?_
    rintro e w2 ⟨rfl, hb2⟩
    have hbX : Below w2.heap.size w2 (w2.alloc (.cells #[.int .u64 0, .int .u64 0, .int .u64 0, .string ⟨#[]⟩] 26)) := (Below.refl _ _).alloc (Nat.le_refl _) _
    have hO2 := (H1.out.below hb2).below hbX
    have hb3 := below_next (below_next HBA.out hb2) hbX
    have hrn := heap_alloc_new w2 (.cells #[.int .u64 0, .int .u64 0, .int .u64 0, .string ⟨#[]⟩] 26)
    have j0 := cell_of_row' (cur := [_, _, _, _]) hrn 0
    have j1 := cell_of_row' (cur := [_, _, _, _]) hrn 1
    have j2 := cell_of_row' (cur := [_, _, _, _]) hrn 2
    have j3 := cell_of_row' (cur := [_, _, _, _]) hrn 3
    obtain ⟨⟨k0, k1, k2, k3, k4, k5, k6, k7⟩, f0, f1, f2, f3, f4, f5, f6, f7⟩ := hO2.cells
    have p4 := Lib.hid (set8 hO2 (.int .u64 0) (.int .u64 0) (.int .u64 0) (.string ⟨#[]⟩) (.int .u64 0) (.int .i64 0) (.int .u8 2) (.bool false))
    have HF := Lib.hid (below_set8 hb3 (Nat.le_refl _) (.int .u64 0) (.int .u64 0) (.int .u64 0) (.string ⟨#[]⟩) (.int .u64 0) (.int .i64 0) (.int .u8 2) (.bool false))
    clear hO2 hb3 hbX hb2 hrn HS
    go_wp2
    refine bodyPost_ret (results_cell_row rfl _ _ (w.heap.size) 55 #[.int .u64 0, .int .u64 0, .int .u64 0, .string ⟨#[]⟩, .int .u64 0, .int .i64 0, .int .u8 2, .bool false] (0, 0) _ rfl p4.out Tryd.underlying55 rfl (by kernel_rfl)) rfl ?_
    exact ⟨⟨_, rfl⟩, HF.out⟩
  · have hz2 : ((x : Int) == 0) = false := by have := hz rfl; simp; omega
    clear hz
    go_enter Tryd.func31, Tryd.ntmps31
    go_wp2_with fail
    refine HC.out.mono ?_
    rintro e w1 ⟨rfl, hb1⟩
    have hO1 := HO0.out.below hb1
    have hbA := below_next HA.out hb1
    have H1 := Lib.hid hO1
    have HBA := Lib.hid hbA
    clear hO1 hbA hb1 hA hO0
    go_wp2_with fail
    refine (HS w1).out.mono ?_
    rintro e w2 ⟨rfl, hb2⟩
    have hbX : Below w2.heap.size w2 (w2.alloc (.cells #[.int .u64 0, .int .u64 0, .int .u64 0, .string ⟨#[]⟩] 26)) := (Below.refl _ _).alloc (Nat.le_refl _) _
    have hO2 := (H1.out.below hb2).below hbX
    have hb3 := below_next (below_next HBA.out hb2) hbX
    have hrn := heap_alloc_new w2 (.cells #[.int .u64 0, .int .u64 0, .int .u64 0, .string ⟨#[]⟩] 26)
    have j0 := cell_of_row' (cur := [_, _, _, _]) hrn 0
    have j1 := cell_of_row' (cur := [_, _, _, _]) hrn 1
    have j2 := cell_of_row' (cur := [_, _, _, _]) hrn 2
    have j3 := cell_of_row' (cur := [_, _, _, _]) hrn 3
    obtain ⟨⟨k0, k1, k2, k3, k4, k5, k6, k7⟩, f0, f1, f2, f3, f4, f5, f6, f7⟩ := hO2.cells
    have p4 := Lib.hid (set8 hO2 (.int .u64 0) (.int .u64 0) (.int .u64 0) (.string ⟨#[]⟩) (.int .u64 0) (.int .i64 0) (.int .u8 2) (.bool false))
    have HF := Lib.hid (below_set8 hb3 (Nat.le_refl _) (.int .u64 0) (.int .u64 0) (.int .u64 0) (.string ⟨#[]⟩) (.int .u64 0) (.int .i64 0) (.int .u8 2) (.bool false))
    clear hO2 hb3 hbX hb2 hrn HS
    go_wp2
    refine bodyPost_ret (results_cell_row rfl _ _ (w.heap.size) 55 #[.int .u64 0, .int .u64 0, .int .u64 0, .string ⟨#[]⟩, .int .u64 0, .int .i64 0, .int .u8 2, .bool false] (0, 0) _ rfl p4.out Tryd.underlying55 rfl (by kernel_rfl)) rfl ?_
    exact ⟨⟨_, rfl⟩, HF.out⟩

set_option maxRecDepth 100000 in
set_option maxHeartbeats 8000000 in
theorem rbh_leftCid (s : ByteArray) (w : World) (hm : s.size ≤ 33554432) (z : Bool) (most : Nat) (h0 : 0 < s.size) (x m : Nat) (hd : uvDec s.data.toList = .ok x m) (hx : x ≤ most) (hz : z = true → x ≠ 0) (hml : m < s.size) (c : CidD) (k : Nat) (hc : cidRd (s.data.toList.drop m) = some (c, k)) (hk : x < k) :
    Calls Tryd.prog 31 #[.string s, .bool z, .int .u64 most] w fun e w' => BhLeft e ∧ Below w.heap.size w w' := by
  have hA : Below w.heap.size w (w.alloc bhZ) := (Below.refl _ _).alloc (Nat.le_refl _) _
  have hO0 : BhVar (w.alloc bhZ) w.heap.size := ⟨heap_alloc_new w bhZ⟩
  have HA := Lib.hid hA
  have HO0 := Lib.hid hO0
  have HC := Lib.hid (readVarint_ok s (w.alloc bhZ) (by omega) x m hd)
  obtain ⟨n1, n2, n3⟩ := ba_nonempty h0
  have HS := fun W => Lib.hid (streamCid ⟨(s.data.toList.drop m).toArray⟩ W (by rw [ba_size_drop]; omega) (by rw [ba_size_drop]; omega))
  have T := fun W => run_str_from (P := Tryd.prog) Tryd.underlying9 s m (by omega) m rfl W
  have hml2 : ((m : Int) == s.size) = false := by simp; omega
  rw [show (⟨(s.data.toList.drop m).toArray⟩ : ByteArray).data.toList = s.data.toList.drop m from rfl, hc] at HS
  unfold stSpec cidVal at HS
  dsimp only at HS
  have hkk : k ≤ 33554432 := by have := (cidRd_take hc).1; rw [List.length_drop, ba_len] at this; omega
  have wr : IntKind.u64.wrap (k : Int) = k := IntWalk.u64_in _ (by omega)
  obtain ⟨v0, hv0⟩ : ∃ v0 : Int, v0 = c.ver := ⟨_, rfl⟩
  obtain ⟨v1, hv1⟩ : ∃ v1 : Int, v1 = c.codec := ⟨_, rfl⟩
  obtain ⟨v2, hv2⟩ : ∃ v2 : Int, v2 = c.code := ⟨_, rfl⟩
  obtain ⟨v3, hv3⟩ : ∃ v3 : ByteArray, v3 = ⟨c.dig.toArray⟩ := ⟨_, rfl⟩
  rw [← hv0, ← hv1, ← hv2, ← hv3] at HS
  have HV0 := Lib.hid hv0
  have HV1 := Lib.hid hv1
  have HV2 := Lib.hid hv2
  have HV3 := Lib.hid hv3
  clear hv0 hv1 hv2 hv3
  have hx2 : ¬ (most : Int) < x := by omega
  have hk2 : (x : Int) < k := by omega
  clear hd hx hc hk
  cases z
  · clear hz
    go_enter Tryd.func31, Tryd.ntmps31
    go_wp2_with fail
    refine HC.out.mono ?_
    rintro e w1 ⟨rfl, hb1⟩
    have hO1 := HO0.out.below hb1
    have hbA := below_next HA.out hb1
    have H1 := Lib.hid hO1
    have HBA := Lib.hid hbA
    clear hO1 hbA hb1 hA hO0
    go_wp2_with fail
    refine (HS w1).out.mono ?_
    rintro e w2 ⟨rfl, hb2⟩
    have hbX : Below w2.heap.size w2 (w2.alloc (.cells #[.int .u64 v0, .int .u64 v1, .int .u64 v2, .string v3] 26)) := (Below.refl _ _).alloc (Nat.le_refl _) _
    have hO2 := (H1.out.below hb2).below hbX
    have hb3 := below_next (below_next HBA.out hb2) hbX
    have hrn := heap_alloc_new w2 (.cells #[.int .u64 v0, .int .u64 v1, .int .u64 v2, .string v3] 26)
    have j0 := cell_of_row' (cur := [_, _, _, _]) hrn 0
    have j1 := cell_of_row' (cur := [_, _, _, _]) hrn 1
    have j2 := cell_of_row' (cur := [_, _, _, _]) hrn 2
    have j3 := cell_of_row' (cur := [_, _, _, _]) hrn 3
    obtain ⟨⟨k0, k1, k2, k3, k4, k5, k6, k7⟩, f0, f1, f2, f3, f4, f5, f6, f7⟩ := hO2.cells
    have p4 := Lib.hid (set8 hO2 (.int .u64 0) (.int .u64 0) (.int .u64 0) (.string ⟨#[]⟩) (.int .u64 0) (.int .i64 0) (.int .u8 0) (.bool true))
    have HF := Lib.hid (below_set8 hb3 (Nat.le_refl _) (.int .u64 0) (.int .u64 0) (.int .u64 0) (.string ⟨#[]⟩) (.int .u64 0) (.int .i64 0) (.int .u8 0) (.bool true))
    clear hO2 hb3 hbX hb2 hrn HS
    go_wp2
    refine bodyPost_ret (results_cell_row rfl _ _ (w.heap.size) 55 #[.int .u64 0, .int .u64 0, .int .u64 0, .string ⟨#[]⟩, .int .u64 0, .int .i64 0, .int .u8 0, .bool true] (0, 0) _ rfl p4.out Tryd.underlying55 rfl (by kernel_rfl)) rfl ?_
    exact ⟨rfl, HF.out⟩
  · have hz2 : ((x : Int) == 0) = false := by have := hz rfl; simp; omega
    clear hz
    go_enter Tryd.func31, Tryd.ntmps31
    go_wp2_with fail
    refine HC.out.mono ?_
    rintro e w1 ⟨rfl, hb1⟩
    have hO1 := HO0.out.below hb1
    have hbA := below_next HA.out hb1
    have H1 := Lib.hid hO1
    have HBA := Lib.hid hbA
    clear hO1 hbA hb1 hA hO0
    go_wp2_with fail
    refine (HS w1).out.mono ?_
    rintro e w2 ⟨rfl, hb2⟩
    have hbX : Below w2.heap.size w2 (w2.alloc (.cells #[.int .u64 v0, .int .u64 v1, .int .u64 v2, .string v3] 26)) := (Below.refl _ _).alloc (Nat.le_refl _) _
    have hO2 := (H1.out.below hb2).below hbX
    have hb3 := below_next (below_next HBA.out hb2) hbX
    have hrn := heap_alloc_new w2 (.cells #[.int .u64 v0, .int .u64 v1, .int .u64 v2, .string v3] 26)
    have j0 := cell_of_row' (cur := [_, _, _, _]) hrn 0
    have j1 := cell_of_row' (cur := [_, _, _, _]) hrn 1
    have j2 := cell_of_row' (cur := [_, _, _, _]) hrn 2
    have j3 := cell_of_row' (cur := [_, _, _, _]) hrn 3
    obtain ⟨⟨k0, k1, k2, k3, k4, k5, k6, k7⟩, f0, f1, f2, f3, f4, f5, f6, f7⟩ := hO2.cells
    have p4 := Lib.hid (set8 hO2 (.int .u64 0) (.int .u64 0) (.int .u64 0) (.string ⟨#[]⟩) (.int .u64 0) (.int .i64 0) (.int .u8 0) (.bool true))
    have HF := Lib.hid (below_set8 hb3 (Nat.le_refl _) (.int .u64 0) (.int .u64 0) (.int .u64 0) (.string ⟨#[]⟩) (.int .u64 0) (.int .i64 0) (.int .u8 0) (.bool true))
    clear hO2 hb3 hbX hb2 hrn HS
    go_wp2
    refine bodyPost_ret (results_cell_row rfl _ _ (w.heap.size) 55 #[.int .u64 0, .int .u64 0, .int .u64 0, .string ⟨#[]⟩, .int .u64 0, .int .i64 0, .int .u8 0, .bool true] (0, 0) _ rfl p4.out Tryd.underlying55 rfl (by kernel_rfl)) rfl ?_
    exact ⟨rfl, HF.out⟩

set_option maxRecDepth 100000 in
set_option maxHeartbeats 8000000 in
theorem rbh_ok (s : ByteArray) (w : World) (hm : s.size ≤ 33554432) (z : Bool) (most : Nat) (h0 : 0 < s.size) (x m : Nat) (hd : uvDec s.data.toList = .ok x m) (hx : x ≤ most) (hz : z = true → x ≠ 0) (hml : m < s.size) (c : CidD) (k : Nat) (hc : cidRd (s.data.toList.drop m) = some (c, k)) (hk : k ≤ x) (hx3 : x ≤ 33554432) :
    Calls Tryd.prog 31 #[.string s, .bool z, .int .u64 most] w fun e w' => e = .returned (.agg #[.int .u64 c.ver, .int .u64 c.codec, .int .u64 c.code, .string ⟨c.dig.toArray⟩, .int .u64 ((x : Int) - k), .int .i64 ((m : Int) + k), .int .u8 0, .bool false]) ∧ Below w.heap.size w w' := by
  have hA : Below w.heap.size w (w.alloc bhZ) := (Below.refl _ _).alloc (Nat.le_refl _) _
  have hO0 : BhVar (w.alloc bhZ) w.heap.size := ⟨heap_alloc_new w bhZ⟩
  have HA := Lib.hid hA
  have HO0 := Lib.hid hO0
  have HC := Lib.hid (readVarint_ok s (w.alloc bhZ) (by omega) x m hd)
  obtain ⟨n1, n2, n3⟩ := ba_nonempty h0
  have HS := fun W => Lib.hid (streamCid ⟨(s.data.toList.drop m).toArray⟩ W (by rw [ba_size_drop]; omega) (by rw [ba_size_drop]; omega))
  have T := fun W => run_str_from (P := Tryd.prog) Tryd.underlying9 s m (by omega) m rfl W
  have hml2 : ((m : Int) == s.size) = false := by simp; omega
  rw [show (⟨(s.data.toList.drop m).toArray⟩ : ByteArray).data.toList = s.data.toList.drop m from rfl, hc] at HS
  unfold stSpec cidVal at HS
  dsimp only at HS
  have hkk : k ≤ 33554432 := by have := (cidRd_take hc).1; rw [List.length_drop, ba_len] at this; omega
  have wr : IntKind.u64.wrap (k : Int) = k := IntWalk.u64_in _ (by omega)
  obtain ⟨v0, hv0⟩ : ∃ v0 : Int, v0 = c.ver := ⟨_, rfl⟩
  obtain ⟨v1, hv1⟩ : ∃ v1 : Int, v1 = c.codec := ⟨_, rfl⟩
  obtain ⟨v2, hv2⟩ : ∃ v2 : Int, v2 = c.code := ⟨_, rfl⟩
  obtain ⟨v3, hv3⟩ : ∃ v3 : ByteArray, v3 = ⟨c.dig.toArray⟩ := ⟨_, rfl⟩
  rw [← hv0, ← hv1, ← hv2, ← hv3] at HS
  have HV0 := Lib.hid hv0
  have HV1 := Lib.hid hv1
  have HV2 := Lib.hid hv2
  have HV3 := Lib.hid hv3
  clear hv0 hv1 hv2 hv3
  have hx2 : ¬ (most : Int) < x := by omega
  have hk2 : ((x : Int) < k) = False := by simp; omega
  have wr2 : IntKind.u64.wrap ((x : Int) - k) = (x : Int) - k := IntWalk.u64_in _ (by omega)
  have wr3 : IntKind.i64.wrap ((m : Int) + k) = (m : Int) + k := IntWalk.i64_in _ (by omega)
  clear hd hx hc
  cases z
  · clear hz
    go_enter Tryd.func31, Tryd.ntmps31
    go_wp2_with fail
    refine HC.out.mono ?_
    rintro e w1 ⟨rfl, hb1⟩
    have hO1 := HO0.out.below hb1
    have hbA := below_next HA.out hb1
    have H1 := Lib.hid hO1
    have HBA := Lib.hid hbA
    clear hO1 hbA hb1 hA hO0
    go_wp2_with fail
    refine (HS w1).out.mono ?_
    rintro e w2 ⟨rfl, hb2⟩
    have hbX : Below w2.heap.size w2 (w2.alloc (.cells #[.int .u64 v0, .int .u64 v1, .int .u64 v2, .string v3] 26)) := (Below.refl _ _).alloc (Nat.le_refl _) _
    have hO2 := (H1.out.below hb2).below hbX
    have hb3 := below_next (below_next HBA.out hb2) hbX
    have hrn := heap_alloc_new w2 (.cells #[.int .u64 v0, .int .u64 v1, .int .u64 v2, .string v3] 26)
    have j0 := cell_of_row' (cur := [_, _, _, _]) hrn 0
    have j1 := cell_of_row' (cur := [_, _, _, _]) hrn 1
    have j2 := cell_of_row' (cur := [_, _, _, _]) hrn 2
    have j3 := cell_of_row' (cur := [_, _, _, _]) hrn 3
    obtain ⟨⟨k0, k1, k2, k3, k4, k5, k6, k7⟩, f0, f1, f2, f3, f4, f5, f6, f7⟩ := hO2.cells
    have p4 := Lib.hid (set8 hO2 (.int .u64 v0) (.int .u64 v1) (.int .u64 v2) (.string v3) (.int .u64 ((x : Int) - k)) (.int .i64 ((m : Int) + k)) (.int .u8 0) (.bool false))
    have HF := Lib.hid (below_set8 hb3 (Nat.le_refl _) (.int .u64 v0) (.int .u64 v1) (.int .u64 v2) (.string v3) (.int .u64 ((x : Int) - k)) (.int .i64 ((m : Int) + k)) (.int .u8 0) (.bool false))
    clear hO2 hb3 hbX hb2 hrn HS
    go_wp2
    refine bodyPost_ret (results_cell_row rfl _ _ (w.heap.size) 55 #[.int .u64 v0, .int .u64 v1, .int .u64 v2, .string v3, .int .u64 ((x : Int) - k), .int .i64 ((m : Int) + k), .int .u8 0, .bool false] (0, 0) _ rfl p4.out Tryd.underlying55 rfl (by kernel_rfl)) rfl ?_
    exact ⟨by rw [← HV0.out, ← HV1.out, ← HV2.out, ← HV3.out], HF.out⟩
  · have hz2 : ((x : Int) == 0) = false := by have := hz rfl; simp; omega
    clear hz
    go_enter Tryd.func31, Tryd.ntmps31
    go_wp2_with fail
    refine HC.out.mono ?_
    rintro e w1 ⟨rfl, hb1⟩
    have hO1 := HO0.out.below hb1
    have hbA := below_next HA.out hb1
    have H1 := Lib.hid hO1
    have HBA := Lib.hid hbA
    clear hO1 hbA hb1 hA hO0
    go_wp2_with fail
    refine (HS w1).out.mono ?_
    rintro e w2 ⟨rfl, hb2⟩
    have hbX : Below w2.heap.size w2 (w2.alloc (.cells #[.int .u64 v0, .int .u64 v1, .int .u64 v2, .string v3] 26)) := (Below.refl _ _).alloc (Nat.le_refl _) _
    have hO2 := (H1.out.below hb2).below hbX
    have hb3 := below_next (below_next HBA.out hb2) hbX
    have hrn := heap_alloc_new w2 (.cells #[.int .u64 v0, .int .u64 v1, .int .u64 v2, .string v3] 26)
    have j0 := cell_of_row' (cur := [_, _, _, _]) hrn 0
    have j1 := cell_of_row' (cur := [_, _, _, _]) hrn 1
    have j2 := cell_of_row' (cur := [_, _, _, _]) hrn 2
    have j3 := cell_of_row' (cur := [_, _, _, _]) hrn 3
    obtain ⟨⟨k0, k1, k2, k3, k4, k5, k6, k7⟩, f0, f1, f2, f3, f4, f5, f6, f7⟩ := hO2.cells
    have p4 := Lib.hid (set8 hO2 (.int .u64 v0) (.int .u64 v1) (.int .u64 v2) (.string v3) (.int .u64 ((x : Int) - k)) (.int .i64 ((m : Int) + k)) (.int .u8 0) (.bool false))
    have HF := Lib.hid (below_set8 hb3 (Nat.le_refl _) (.int .u64 v0) (.int .u64 v1) (.int .u64 v2) (.string v3) (.int .u64 ((x : Int) - k)) (.int .i64 ((m : Int) + k)) (.int .u8 0) (.bool false))
    clear hO2 hb3 hbX hb2 hrn HS
    go_wp2
    refine bodyPost_ret (results_cell_row rfl _ _ (w.heap.size) 55 #[.int .u64 v0, .int .u64 v1, .int .u64 v2, .string v3, .int .u64 ((x : Int) - k), .int .i64 ((m : Int) + k), .int .u8 0, .bool false] (0, 0) _ rfl p4.out Tryd.underlying55 rfl (by kernel_rfl)) rfl ?_
    exact ⟨by rw [← HV0.out, ← HV1.out, ← HV2.out, ← HV3.out], HF.out⟩
end Go.Proofs.YthfgnhgijgjggaaDoor
