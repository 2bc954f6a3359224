/- Contract: the first Write to a bytes.Buffer. -/
import Derived.Test.YthfgnhgijgjggaaDoorLwB
namespace Go.Proofs.YthfgnhgijgjggaaDoor
open Go.RowKit

set_option maxRecDepth 100000 in
set_option maxHeartbeats 8000000 in
theorem bufWrite_nil (b : Nat) (cs : List Value) (ad : Addr) (n c : Nat) (w : World) (h : BufNil w b) (hn0 : 1 ≤ n) (h64 : n ≤ 64)
    (hn : cs.length = n) (hab : ad.block ≠ b) (hsrc : ∀ j v, cs[j]? = some v → w.cell? (ad.add j) = some v) (h1c : ∀ v ∈ cs, v.oneCell' = true) :
    Calls Tryd.prog 146 #[.pointer (some ⟨b, 0, none⟩), .slice (some ad) n c] w fun e w' => e = .returned (.tuple #[.int .i64 n, .nilIface]) ∧ BufRow w' w.heap.size b cs ∧ Keep (fun k => k = b) w w' := by
  obtain ⟨lr, hbk⟩ := h
  have hbw := block_of_row hbk
  have hbk1 := bufSet3c hbk (.int .i8 0)
  have hk1 : Keep (fun k => k = b) w (w.setCell ⟨b, 2, none⟩ (.int .i8 0)) := Keep.setCell (S := fun k => k = b) (Keep.refl _ _) rfl _ _
  have c2 : w.cell? ⟨b, 2, none⟩ = some (.int .i8 lr) := by rw [Lib.cell_of_heap hbk]; rfl
  have f2 : w.frozen? ⟨b, 2, none⟩ = false := Lib.frozen_of_heap hbk 2
  have hws1 : (w.setCell ⟨b, 2, none⟩ (.int .i8 0)).heap.size = w.heap.size := by simp [World.setCell]
  obtain ⟨w1, hw1⟩ : ∃ w1, w1 = w.setCell ⟨b, 2, none⟩ (.int .i8 0) := ⟨_, rfl⟩
  rw [← hw1] at hbk1 hk1 hws1
  have c0 : w1.cell? ⟨b, 0, none⟩ = some (.slice none 0 0) := by rw [Lib.cell_of_heap hbk1]; rfl
  have HT := Lib.hid (Tryd.Buffer_tryGrow_none b none 0 0 n w1 c0 (Nat.le_refl _) (Nat.zero_le _) (by omega))
  have HGR := Lib.hid (bufGrow_nil b n 0 w1 hbk1 hn0 h64)
  have hsrc1 : ∀ j v, cs[j]? = some v → w1.cell? (ad.add j) = some v := fun j v hj => hk1.cell (hsrc j v hj) (by rw [Lib.block_add]; exact hab)
  have HS1 := Lib.hid hsrc1
  have HK1 := Lib.hid hk1
  have HWS := Lib.hid hws1
  have HN := Lib.hid hn
  have H1C := Lib.hid h1c
  rw [hw1] at HT
  clear hsrc hsrc1 hk1 hn h1c hbk hbk1 c0 hws1
  go_enter Tryd.func146, Tryd.ntmps146
  go_wp2_with (go_at_call 148; with_reducible refine HT.out.mono ?_; rintro e w' ⟨rfl, rfl⟩)
  rw [← hw1]
  clear hw1
  refine HGR.out.mono ?_
  rintro e w3 ⟨rfl, hat, hkg⟩
  obtain ⟨g, cap, cur, lr, hbk3, hgN, hgb, hg3, hlc, hcm, hcs, htk⟩ := hat
  have hn := HN.out
  have h1c := H1C.out
  have hk3 : Keep (fun k => k = b) w w3 := HK1.out.trans hkg
  have hsrc3 : ∀ j v, cs[j]? = some v → w3.cell? (ad.add j) = some v := fun j v hj => hkg.cell (HS1.out j v hj) (by rw [Lib.block_add]; exact hab)
  have hgN2 : w.heap.size ≤ g := by have := HWS.out; omega
  rw [List.length_nil, Nat.zero_add] at hbk3 hlc
  have d0 : w3.cell? ⟨b, 0, none⟩ = some (.slice (some ⟨g, 0, none⟩) n cap) := by rw [Lib.cell_of_heap hbk3]; rfl
  have hcm' := hcm
  unfold maxLen at hcm'
  have hsl : ∀ W, (Instr.slice 43 (.slice (some ⟨g, 0, none⟩) n cap) (some (.int .i64 0)) none none).run Tryd.prog W = .ok (.slice (cutA (some ⟨g, 0, none⟩) cap 0) n cap) W := fun W => run_from (P := Tryd.prog) Tryd.underlying43 info_u8 (some ⟨g, 0, none⟩) n cap 0 (by omega) W
  obtain ⟨w4, hcp, hg4, hk4⟩ := run_copy_keep (P := Tryd.prog) w3 43 43 3 5 Tryd.underlying43 hsz1 (cutA (some ⟨g, 0, none⟩) cap 0) n cap ad n c g 0 cur 5 hg3 cs hn (Nat.le_refl _) (fun hp => by rw [cutA_own _ _ _ _ (by omega)]) hsrc3 (by omega) h1c
  have hbk4 := hk4.row hbk3 (by omega)
  have hk5 : Keep (fun k => k = b) w w4 := hk3.trans2 hk4 (fun i hi e => by omega)
  have HF : Hid (BufRow w4 w.heap.size b cs ∧ Keep (fun k => k = b) w w4) := by
    refine Lib.hid ⟨⟨g, cap, _, lr, ?_, hgN2, hgb, hg4, ?_, hcm, ?_, ?_⟩, hk5⟩
    · rw [hn]; exact hbk4
    · rw [hn]; omega
    · rw [← Array.length_toList]; simp; omega
    · rw [hn]; simp [← hn]
  clear hsrc3 h1c hg3 hbk3 hk3 hn htk hcs hbk4 hk5 hg4 hk4 hgN hcm hkg
  go_wp2
  go_ret2
  exact ⟨rfl, HF.out.1, HF.out.2⟩
end Go.Proofs.YthfgnhgijgjggaaDoor
