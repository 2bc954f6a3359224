/- Contracts: the function of HasMultihash, HasMultihash. -/
import Derived.Test.YthfgnhgijgjggaaDoorIiJ
namespace Go.Proofs.YthfgnhgijgjggaaDoor
open Go.RowKit

/-- The multihash of an identifier's bytes. -/
def mhOf (us : ByteArray) : List UInt8 := match cidRd us.data.toList with
  | some (c, _) => mhEnc c.code c.dig
  | none => []
theorem mhOf_str {us : ByteArray} {c : CidD} (h : CidStr us c) : mhOf us = mhEnc c.code c.dig := by
  have h1 := cidRd_enc c [] h.tidy (by have := h.fits; omega)
  rw [List.append_nil, ← h.eq] at h1
  unfold mhOf
  rw [h1]

/-- What the function of HasMultihash asks of the world: the entry asked for, the multihash asked for, the variables of package varint. -/
structure MhEnv (eb mb fb : Nat) (A : Option Addr) (c : Nat) (u : List UInt8) (M : Option Addr) (mc : Nat) (L : List UInt8) (W : World) : Prop where
  ent : W.heap[eb]? = some (.cells #[.slice A u.length c, .string ⟨#[]⟩, .int .u64 0] 139 (0, 0))
  mh : W.heap[mb]? = some (.cells #[.slice M L.length mc] 88 (0, 0))
  bs : BSo (fun k => k = fb) W (.slice A u.length c) u
  bm : BSo (fun k => k = fb) W (.slice M L.length mc) L
  uv : UvS W
  n1 : eb ≠ fb
  n2 : mb ≠ fb
  n3 : 2 ≠ fb ∧ 3 ≠ fb ∧ 4 ≠ fb
theorem MhEnv.keep {eb mb fb : Nat} {A : Option Addr} {c : Nat} {u : List UInt8} {M : Option Addr} {mc : Nat} {L : List UInt8} (W W' : World) (h : MhEnv eb mb fb A c u M mc L W) (hk : Keep (fun k => k = fb) W W') : MhEnv eb mb fb A c u M mc L W' := by
  obtain ⟨T, ⟨p1, h1⟩, ⟨p2, h2⟩, ⟨p3, h3⟩⟩ := h.uv.T
  exact ⟨hk.row h.ent h.n1, hk.row h.mh h.n2, h.bs.keep hk, h.bm.keep hk, ⟨T, ⟨p1, hk.cell h1 h.n3.1⟩, ⟨p2, hk.cell h2 h.n3.2.1⟩, ⟨p3, hk.cell h3 h.n3.2.2⟩⟩, h.n1, h.n2, h.n3⟩

theorem enters_mh : ∀ args w, (callFunc 76 args).run Tryd.prog w = .ok (.enter 76 args) w := enters_of Tryd.func76 (by kernel_rfl) rfl

set_option maxRecDepth 100000 in
set_option maxHeartbeats 8000000 in
theorem mhLooks (eb mb fb : Nat) (A : Option Addr) (c : Nat) (u : List UInt8) (M : Option Addr) (mc : Nat) (L : List UInt8) :
    Looks 76 (.pointer (some ⟨eb, 0, none⟩)) (.pointer (some ⟨mb, 0, none⟩)) fb (MhEnv eb mb fb A c u M mc L) (fun y => ∃ x, CidStr y.us x) u (fun y => decide (mhOf y.us = L)) := by
  rintro ⟨B, d, dg, us, off⟩ W ⟨x, hx⟩ hE hin hf
  have hx' : CidStr us x := hx
  obtain ⟨w1, hw1⟩ : ∃ w1, w1 = W.alloc (.cells #[.slice B dg.length d, .string us, .int .u64 off] 139) := ⟨_, rfl⟩
  have hb : Below W.heap.size W w1 := hw1 ▸ (Below.refl _ W).alloc (Nat.le_refl _) _
  have HQ : Hid (Calls Tryd.prog 74 #[.slice B dg.length d, .slice A u.length c] w1 fun e w' => e = .returned (.bool (decide (dg = u))) ∧ w' = w1) := Lib.hid (bytesEq (BS.below hin hb) (hE.bs.1.below hb))
  have k0 := cell_of_row' (cur := [_, _, _]) (row_below hb (block_of_row hE.ent) hE.ent) 0
  have f0 := frozen_of_row' (cur := [_]) (row_below hb (block_of_row hf) hf) 0
  have c0 := cell_of_row' (cur := [_]) (row_below hb (block_of_row hE.mh) hE.mh) 0
  have hno := row_below hb (block_of_row hf) hf
  have HKn := Lib.hid (hb.keep (S := fun k => k = fb))
  have HSN := Lib.hid hno
  have hta := fun v W => assert_one v W
  have hr1 : w1.heap[W.heap.size]? = some (.cells #[.slice B dg.length d, .string us, .int .u64 off] 139 (0, 0)) := by rw [hw1]; exact heap_alloc_new W _
  have hd1 : Below w1.heap.size w1 w1.drew := below_drewN _ _ 1
  have HH := Lib.hid (cdHash us x hx' w1.drew ((hE.uv.below hb).below hd1))
  have HBM := Lib.hid ((hE.bm.1.below hb).below hd1)
  have HR1 := Lib.hid (row_below hd1 (block_of_row hr1) hr1)
  have HRM := Lib.hid (row_below hd1 (block_of_row (row_below hb (block_of_row hE.mh) hE.mh)) (row_below hb (block_of_row hE.mh) hE.mh))
  have HRF := Lib.hid (row_below hd1 (block_of_row hno) hno)
  have HKd := Lib.hid ((hb.keep (S := fun k => k = fb)).trans (hd1.keep))
  have j1 := cell_of_row' (cur := [_, _, _]) hr1 1
  rw [hw1] at HQ k0 c0 f0 HKn HSN HH j1
  have HW1 := Lib.hid hw1
  have HMO := Lib.hid (mhOf_str hx')
  clear hin hE hf hno hb hw1 hx hx' hr1 hd1
  show Calls Tryd.prog _ #[.iface 139 (.agg #[.slice B dg.length d, .string us, .int .u64 off]), _, _, _] W _
  unfold findStep
  dsimp only [ItD.dig, ItD.us]
  by_cases h1 : dg = u
  · rw [decide_eq_true h1] at HQ
    rw [if_pos h1]
    by_cases hr : mhEnc x.code x.dig = L
    · have HRR := Lib.hid (decide_eq_true hr)
      rw [if_pos (by rw [HMO.out]; exact HRR.out)]
      clear h1 hr HMO
      generalize mhEnc x.code x.dig = K at *
      generalize dg.length = n at *
      generalize u.length = m at *
      go_enter Tryd.func76, Tryd.ntmps76
      go_wp2_with fail
      refine HQ.out.mono ?_
      rintro e w2 ⟨rfl, rfl⟩
      clear HQ k0
      go_wp2_with fail
      obtain ⟨q, hq⟩ : ∃ q, q = L.length := ⟨_, rfl⟩
      rw [← hq] at c0 HBM HRM
      clear hq
      go_region_with (first
        | (go_at_call 43; (with_reducible refine HH.out.mono ?_); rw [← HW1.out]; rintro e w3 ⟨⟨A3, n3, c3, rfl, hbs3⟩, hb3⟩; have HE3 := Lib.hid (bytesEq hbs3 (HBM.out.below hb3)); rw [HRR.out] at HE3; have c3' := cell_of_row' (cur := [_]) (row_below hb3 (block_of_row HRM.out) HRM.out) 0; have f3 := frozen_of_row' (cur := [_]) (row_below hb3 (block_of_row HRF.out) HRF.out) 0; have g3 := cell_of_row' (cur := [_]) (row_below hb3 (block_of_row HRF.out) HRF.out) 0; have F3 := Lib.hid (row_below hb3 (block_of_row HRF.out) HRF.out); have K3 := Lib.hid (HKd.out.trans hb3.keep); clear hbs3 hb3)
        | (go_at_call 74; (with_reducible refine HE3.out.mono ?_); rintro e w4 ⟨rfl, rfl⟩))
      all_goals
        have HSY := Lib.hid (show _ = some (fbO true) from Lib.heap_setCell_same (i := 0) F3.out (.bool true))
        have HKy := Lib.hid (K3.out.setCell (S := fun k => k = fb) (p := fb) rfl 0 (.bool true))
        go_wp2
        go_ret
        exact ⟨rfl, HSY.out, HKy.out⟩
    · have HRR := Lib.hid (decide_eq_false hr)
      rw [if_neg (by rw [HMO.out, HRR.out]; simp)]
      clear h1 hr HMO
      generalize mhEnc x.code x.dig = K at *
      generalize dg.length = n at *
      generalize u.length = m at *
      go_enter Tryd.func76, Tryd.ntmps76
      go_wp2_with fail
      refine HQ.out.mono ?_
      rintro e w2 ⟨rfl, rfl⟩
      clear HQ k0
      go_wp2_with fail
      obtain ⟨q, hq⟩ : ∃ q, q = L.length := ⟨_, rfl⟩
      rw [← hq] at c0 HBM HRM
      clear hq
      go_region_with (first
        | (go_at_call 43; (with_reducible refine HH.out.mono ?_); rw [← HW1.out]; rintro e w3 ⟨⟨A3, n3, c3, rfl, hbs3⟩, hb3⟩; have HE3 := Lib.hid (bytesEq hbs3 (HBM.out.below hb3)); rw [HRR.out] at HE3; have c3' := cell_of_row' (cur := [_]) (row_below hb3 (block_of_row HRM.out) HRM.out) 0; have f3 := frozen_of_row' (cur := [_]) (row_below hb3 (block_of_row HRF.out) HRF.out) 0; have g3 := cell_of_row' (cur := [_]) (row_below hb3 (block_of_row HRF.out) HRF.out) 0; have F3 := Lib.hid (row_below hb3 (block_of_row HRF.out) HRF.out); have K3 := Lib.hid (HKd.out.trans hb3.keep); clear hbs3 hb3)
        | (go_at_call 74; (with_reducible refine HE3.out.mono ?_); rintro e w4 ⟨rfl, rfl⟩))
      all_goals
        go_wp2
        go_ret
        exact ⟨rfl, F3.out, K3.out⟩
  · rw [decide_eq_false h1] at HQ
    rw [if_neg h1]
    clear h1 HH HMO
    generalize dg.length = n at *
    generalize u.length = m at *
    go_enter Tryd.func76, Tryd.ntmps76
    go_wp2_with fail
    refine HQ.out.mono ?_
    rintro e w2 ⟨rfl, rfl⟩
    go_wp2
    go_ret
    exact ⟨rfl, HSN.out, HKn.out⟩

set_option maxRecDepth 100000 in
set_option maxHeartbeats 4000000 in
theorem hasMh (A : Option Addr) (n c : Nat) (x : CidD) (hc : x.code < 9223372036854775808) (hl : x.dig.length ≤ 2147483600) (g : Nat) (t : Tr ItD) (w : World) (hs : BS w (.slice A n c) (mhEnc x.code x.dig)) (hml : (mhEnc x.code x.dig).length ≤ 2147483647) (hu : UvS w) (hi : IdxAt w g t) (hp : ∀ y ∈ t.toList, ∃ z, CidStr y.us z) :
    Calls Tryd.prog 42 #[.pointer (some ⟨g, 0, none⟩), .slice A n c] w fun e w' => e = .returned (.tuple #[.bool (finds x.dig (fun y => decide (mhOf y.us = mhEnc x.code x.dig)) (t.asc (fun y => blt y.dig x.dig))).2, .nilIface]) ∧ Below w.heap.size w w' := by
  obtain ⟨hn, _⟩ := hs.slice
  subst hn
  have hrd := mhRd_own x.code x.dig hc (by omega)
  obtain ⟨w0, hw0⟩ : ∃ w0, w0 = w.alloc (.cells #[.slice A (mhEnc x.code x.dig).length c] 88) := ⟨_, rfl⟩
  have hA : Below w.heap.size w w0 := hw0 ▸ (Below.refl _ w).alloc (Nat.le_refl _) _
  have r0 : w0.heap[w.heap.size]? = some (.cells #[.slice A (mhEnc x.code x.dig).length c] 88 (0, 0)) := by rw [hw0]; exact heap_alloc_new w _
  obtain ⟨A', c', hs', hD⟩ := Decode_ok A _ c _ w0 (hs.below hA) hml (hu.below hA) x.code x.dig hrd
  have HD := Lib.hid (hD w0 (Below.refl _ _))
  have j0 := cell_of_row' (cur := [_]) r0 0
  have HU := Lib.hid hu
  have HA := Lib.hid hA
  have R0 := Lib.hid r0
  have HI := Lib.hid hi
  have HS := Lib.hid hs'
  have HM := Lib.hid hs
  have HP := Lib.hid hp
  rw [hw0] at j0 HD
  have HW0 := Lib.hid hw0
  clear hw0 hA r0 hu hi hs hs' hD hrd hml hc hl hp
  generalize mhEnc x.code x.dig = L at *
  have hmf : ∀ (fn : Fn) (first cap : Array Value) (w : World), (Instr.makeFunc fn first cap).run Tryd.prog w = .ok (.func fn first cap) w := fun _ _ _ _ => rfl
  obtain ⟨ML, hML⟩ : ∃ ML, ML = L.length := ⟨_, rfl⟩
  rw [← hML] at HD j0 R0 HM HW0 ⊢
  have HML := Lib.hid hML
  clear hML
  go_enter Tryd.func42, Tryd.ntmps42
  go_wp2_with fail
  refine HD.out.mono ?_
  rw [← HW0.out]
  rintro e w2 ⟨⟨dg, rfl, hg, hrow⟩, hb2⟩
  have k3 := cell_of_row' (cur := [_, _, _, _]) hrow 3
  have hs2 := BS.below HS.out hb2
  have hbw := below_next HA.out hb2
  have hm2 := HM.out.below hbw
  obtain ⟨w3, hw3⟩ : ∃ w3, w3 = ((w2.alloc (.cells #[.slice A' x.dig.length c', .string ⟨#[]⟩, .int .u64 0] 139)).alloc (.cells #[.bool false] 4)).drew := ⟨_, rfl⟩
  have h23 : Below w2.heap.size w2 w3 := hw3 ▸ (((Below.refl _ w2).alloc (Nat.le_refl _) _).alloc (by simp) _).trans (below_drewN _ _ 1)
  have re : w3.heap[w2.heap.size]? = some (.cells #[.slice A' x.dig.length c', .string ⟨#[]⟩, .int .u64 0] 139 (0, 0)) := by rw [hw3]; exact row_alloc (heap_alloc_new w2 _) _
  have rf : w3.heap[w2.heap.size + 1]? = some (fbO false) := by
    rw [hw3]
    have := heap_alloc_new (w2.alloc (.cells #[.slice A' x.dig.length c', .string ⟨#[]⟩, .int .u64 0] 139)) (.cells #[.bool false] 4)
    rw [World.size_alloc] at this
    exact this
  have r2 := row_below hb2 (block_of_row R0.out) R0.out
  have hcl : w.heap.size < w2.heap.size := block_of_row r2
  have hb3 := below_next hbw h23
  have hk23 := h23.keep (S := fun k => k = w2.heap.size + 1)
  have hne : 2 ≠ w2.heap.size + 1 ∧ 3 ≠ w2.heap.size + 1 ∧ 4 ≠ w2.heap.size + 1 := by
    obtain ⟨T, ⟨p1, h1⟩, ⟨p2, h2⟩, ⟨p3, h3⟩⟩ := (HU.out.below hbw).T
    have b1 := block_of_cell h1
    have b2 := block_of_cell h2
    have b3 := block_of_cell h3
    simp only at b1 b2 b3
    omega
  have hex : MhEnv w2.heap.size w.heap.size (w2.heap.size + 1) A' c' x.dig A c L w3 :=
    ⟨re, by rw [← HML.out]; exact row_below h23 (block_of_row r2) r2, (bso_of (fb := w2.heap.size + 1) hs2 (by omega)).keep hk23, (bso_of (fb := w2.heap.size + 1) (by rw [← HML.out]; exact hm2) (by omega)).keep hk23, HU.out.below hb3, by omega, by omega, hne⟩
  have HC := Lib.hid (ascAll _ enters_mh _ _ (w2.heap.size + 1) _ MhEnv.keep _ x.dig (fun y => decide (mhOf y.us = L)) (mhLooks w2.heap.size w.heap.size (w2.heap.size + 1) A' c' x.dig A c L) g ⟨A', c', x.dig, ⟨#[]⟩, 0⟩ t w3 (HI.out.below hb3) (asc_start HI.out hb3 _ hex A' c' x.dig (hs2.below h23) (by omega)) HP.out rf)
  have e0 := cell_of_row' (cur := [_, _, _]) re 0
  have e1 := cell_of_row' (cur := [_, _, _]) re 1
  have e2 := cell_of_row' (cur := [_, _, _]) re 2
  have HB3 := Lib.hid hb3
  have hsz : w.heap.size ≤ w2.heap.size + 1 := by omega
  obtain ⟨R, hR⟩ : ∃ R, R = (finds x.dig (fun y => decide (mhOf y.us = L)) (t.asc (fun y => blt y.dig x.dig))).2 := ⟨_, rfl⟩
  have HR := Lib.hid hR
  unfold ItD.item ItD.val at HC
  dsimp only at HC
  rw [← hR] at HC
  rw [hw3] at HC e0 e1 e2
  have HW3 := Lib.hid hw3
  clear hrow hs2 hbw h23 re rf hcl hex hb3 hw3 hR HD hb2 HS hg hm2 r2 hk23 hne HM
  generalize x.dig.length = DL at *
  go_wp2_with fail
  go_region_with (go_at_call 75; (with_reducible refine HC.out.mono ?_); rw [← HW3.out]; rintro e w4 ⟨rfl, hf4, hk4⟩; have j4 := cell_of_row' (cur := [_]) hf4 0; have HF := Lib.hid (HB3.out.trans (hk4.below (fun k h1 h2 => by omega) HB3.out.size)); clear hf4 hk4)
  all_goals
    go_wp2
    go_ret2
    exact ⟨by rw [← HR.out]; rfl, HF.out⟩
end Go.Proofs.YthfgnhgijgjggaaDoor
