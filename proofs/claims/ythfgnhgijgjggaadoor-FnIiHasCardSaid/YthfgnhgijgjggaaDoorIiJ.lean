/- Contracts: HasExactCID; the function of HasMultihash, HasMultihash. -/
import Derived.Test.YthfgnhgijgjggaaDoorIiI
namespace Go.Proofs.YthfgnhgijgjggaaDoor
open Go.RowKit

theorem bso_of {w : World} {A : Option Addr} {c : Nat} {u : List UInt8} {fb : Nat} (h : BS w (.slice A u.length c) u) (hfb : w.heap.size ≤ fb) : BSo (fun k => k = fb) w (.slice A u.length c) u := by
  refine ⟨h, fun hl A' n' c' a e1 e2 => ?_⟩
  injection e1 with e1 _ _
  subst e1
  obtain ⟨b, o, e3, hc⟩ := h.at_ hl
  rw [e2] at e3
  injection e3 with e3
  subst e3
  have := block_of_cell (hc 0 hl)
  show ¬ b = fb
  have h2 : (⟨b, o + 0, none⟩ : Addr).block = b := rfl
  omega
theorem mh_size {us : ByteArray} {x : CidD} (h : CidStr us x) : (mhEnc x.code x.dig).length ≤ 2147483647 := by
  have h1 : (mhEnc x.code x.dig).length ≤ (cidEnc x).length := by unfold cidEnc; split <;> simp <;> omega
  have h2 := h.size.2
  rw [← ba_len, h.eq] at h2
  omega

/-- The worlds of the two searches: the index and a digest, two new blocks. -/
theorem asc_start {w w2 : World} {g fb : Nat} {t : Tr ItD} (hi : IdxAt w g t) (hb : Below w.heap.size w w2) (E : World → Prop) (hE : E w2) (A : Option Addr) (c : Nat) (u : List UInt8) (hs : BS w2 (.slice A u.length c) u) (hfb : w.heap.size ≤ fb) :
    AscAt E fb t ⟨A, c, u, ⟨#[]⟩, 0⟩ w2 :=
  ⟨(hi.below hb).at_, (hi.below hb).in_, hs, hE, fun hm => by have := hi.at_.lt fb hm; omega⟩

set_option maxRecDepth 100000 in
set_option maxHeartbeats 4000000 in
theorem hasExact (cs : ByteArray) (x : CidD) (h : CidStr cs x) (g : Nat) (t : Tr ItD) (w : World) (hu : UvS w) (hi : IdxAt w g t) :
    Calls Tryd.prog 41 #[.pointer (some ⟨g, 0, none⟩), .agg #[.string cs]] w fun e w' => e = .returned (.tuple #[.bool (finds x.dig (fun y => decide (y.us = cs)) (t.asc (fun y => blt y.dig x.dig))).2, .nilIface]) ∧ Below w.heap.size w w' := by
  obtain ⟨w0, hw0⟩ : ∃ w0, w0 = w.alloc (.cells #[.string cs] 80) := ⟨_, rfl⟩
  have hA : Below w.heap.size w w0 := hw0 ▸ (Below.refl _ w).alloc (Nat.le_refl _) _
  have r0 : w0.heap[w.heap.size]? = some (.cells #[.string cs] 80 (0, 0)) := by rw [hw0]; exact heap_alloc_new w _
  have HH := Lib.hid (cdHash cs x h w0 (hu.below hA))
  have HM := Lib.hid (mh_size h)
  have HRD := Lib.hid (mhRd_own x.code x.dig h.code_lt (by have := h.fits; omega))
  have j0 := cell_of_row' (cur := [_]) r0 0
  have HU := Lib.hid hu
  have HA := Lib.hid hA
  have R0 := Lib.hid r0
  have HI := Lib.hid hi
  rw [hw0] at j0 HH
  have HW0 := Lib.hid hw0
  clear hw0 hA r0 hu hi h
  generalize mhEnc x.code x.dig = L at *
  have hmf : ∀ (fn : Fn) (first cap : Array Value) (w : World), (Instr.makeFunc fn first cap).run Tryd.prog w = .ok (.func fn first cap) w := fun _ _ _ _ => rfl
  go_enter Tryd.func41, Tryd.ntmps41
  go_wp2_with fail
  refine HH.out.mono ?_
  rw [← HW0.out]
  rintro e w1 ⟨⟨A, n, c, rfl, hbs⟩, hb1⟩
  obtain ⟨hn, _⟩ := hbs.slice
  have hb := below_next HA.out hb1
  obtain ⟨A', c', hs', hD⟩ := Decode_ok A n c L w1 hbs HM.out (HU.out.below hb) x.code x.dig (by rw [hn]; exact HRD.out)
  have HD := Lib.hid (hD w1 (Below.refl _ _))
  have Q0 := Lib.hid (row_below hb1 (block_of_row R0.out) R0.out)
  have HB := Lib.hid hb
  have HS := Lib.hid hs'
  clear hbs hD hs' hb1 hb hn HH HRD HM j0
  go_wp2_with fail
  refine HD.out.mono ?_
  rintro e w2 ⟨⟨dg, rfl, hg, hrow⟩, hb2⟩
  have k3 := cell_of_row' (cur := [_, _, _, _]) hrow 3
  have hs2 := BS.below HS.out hb2
  have hbw := below_next HB.out hb2
  obtain ⟨w3, hw3⟩ : ∃ w3, w3 = ((w2.alloc (.cells #[.slice A' x.dig.length c', .string ⟨#[]⟩, .int .u64 0] 139)).alloc (.cells #[.bool false] 4)).drew := ⟨_, rfl⟩
  have h23 : Below w2.heap.size w2 w3 := hw3 ▸ (((Below.refl _ w2).alloc (Nat.le_refl _) _).alloc (by simp) _).trans (below_drewN _ _ 1)
  have re : w3.heap[w2.heap.size]? = some (.cells #[.slice A' x.dig.length c', .string ⟨#[]⟩, .int .u64 0] 139 (0, 0)) := by rw [hw3]; exact row_alloc (heap_alloc_new w2 _) _
  have rf : w3.heap[w2.heap.size + 1]? = some (fbO false) := by
    rw [hw3]
    have := heap_alloc_new (w2.alloc (.cells #[.slice A' x.dig.length c', .string ⟨#[]⟩, .int .u64 0] 139)) (.cells #[.bool false] 4)
    rw [World.size_alloc] at this
    exact this
  have hcl : w.heap.size < w2.heap.size := block_of_row (row_below hb2 (block_of_row Q0.out) Q0.out)
  have hbs3 := hs2.below h23
  have hex : ExEnv w2.heap.size w.heap.size (w2.heap.size + 1) A' c' x.dig cs w3 :=
    ⟨re, row_below h23 (block_of_row (row_below hb2 (block_of_row Q0.out) Q0.out)) (row_below hb2 (block_of_row Q0.out) Q0.out), (bso_of (fb := w2.heap.size + 1) hs2 (by omega)).keep (h23.keep (S := fun k => k = w2.heap.size + 1)), by omega, by omega⟩
  have hb3 := below_next hbw h23
  have HC := Lib.hid (ascAll _ enters_ex _ _ (w2.heap.size + 1) _ ExEnv.keep (fun _ => True) x.dig (fun y => decide (y.us = cs)) (exLooks w2.heap.size w.heap.size (w2.heap.size + 1) A' c' x.dig cs) g ⟨A', c', x.dig, ⟨#[]⟩, 0⟩ t w3 (HI.out.below hb3) (asc_start HI.out hb3 _ hex A' c' x.dig hbs3 (by omega)) (fun _ _ => trivial) rf)
  have e0 := cell_of_row' (cur := [_, _, _]) re 0
  have e1 := cell_of_row' (cur := [_, _, _]) re 1
  have e2 := cell_of_row' (cur := [_, _, _]) re 2
  have HB3 := Lib.hid hb3
  have hsz : w.heap.size ≤ w2.heap.size + 1 := by omega
  obtain ⟨R, hR⟩ : ∃ R, R = (finds x.dig (fun y => decide (y.us = cs)) (t.asc (fun y => blt y.dig x.dig))).2 := ⟨_, rfl⟩
  have HR := Lib.hid hR
  unfold ItD.item ItD.val at HC
  dsimp only at HC
  rw [← hR] at HC
  rw [hw3] at HC e0 e1 e2
  have HW3 := Lib.hid hw3
  clear hrow hs2 hbw h23 re rf hcl hbs3 hex hb3 hw3 hR HD hb2 Q0 HS HB hg
  generalize x.dig.length = DL at *
  go_wp2_with fail
  go_region_with (go_at_call 75; (with_reducible refine HC.out.mono ?_); rw [← HW3.out]; rintro e w4 ⟨rfl, hf4, hk4⟩; have j4 := cell_of_row' (cur := [_]) hf4 0; have HF := Lib.hid (HB3.out.trans (hk4.below (fun k h1 h2 => by omega) HB3.out.size)); clear hf4 hk4)
  all_goals
    go_wp2
    go_ret2
    exact ⟨by rw [← HR.out]; rfl, HF.out⟩
end Go.Proofs.YthfgnhgijgjggaaDoor
