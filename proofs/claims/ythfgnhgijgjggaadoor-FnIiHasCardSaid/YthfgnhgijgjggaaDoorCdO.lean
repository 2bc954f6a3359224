/- Contracts: impl.cidOut. -/
import Derived.Test.YthfgnhgijgjggaaDoorCdN
import Derived.StillTailTactics
namespace Go.Proofs.YthfgnhgijgjggaaDoor
open Go.RowKit

abbrev outZ : Obj := .cells #[.int .u64 0, .int .u64 0, .int .u64 0, .string ⟨#[]⟩] 26

set_option maxRecDepth 100000 in
set_option maxHeartbeats 8000000 in
theorem cidOut_ok (s : ByteArray) (x : CidD) (h : CidStr s x) (w : World) (hu : UvS w) :
    Calls Tryd.prog 60 #[.agg #[.string s]] w fun e w' => e = .returned (.agg #[.int .u64 x.ver, .int .u64 x.codec, .int .u64 x.code, .string ⟨x.dig.toArray⟩]) ∧ Below w.heap.size w w' := by
  have hA : Below w.heap.size w ((w.alloc (.cells #[.string s] 80)).alloc outZ) := ((Below.refl _ _).alloc (Nat.le_refl _) _).alloc (by simp) _
  have HR0 := Lib.hid (heap_alloc2_old w (.cells #[.string s] 80) outZ)
  have HR1 := Lib.hid (heap_alloc2_new w (.cells #[.string s] 80) outZ)
  have HP := fun W => Lib.hid (cdPrefix s x h W)
  have HH := fun W (hb : Below w.heap.size w W) => Lib.hid (cdHash s x h W (hu.below hb))
  have hfit := h.fits
  have hcode : x.code < 9223372036854775808 := by rcases h.tidy with ⟨_, _, h2, _⟩ | ⟨_, _, h2⟩ <;> omega
  have hmr := mhRd_enc x.code x.dig [] hcode (by omega)
  rw [List.append_nil] at hmr
  have hml := (mhEnc_len_le x.code x.dig (by omega) (by omega)).2
  have HMR := Lib.hid hmr
  clear h hcode hmr
  generalize mhEnc x.code x.dig = M at *
  generalize hdl : (x.dig.length : Int) = dl at HP
  have HDL := Lib.hid hdl
  clear hdl
  generalize (x.ver : Int) = v0 at *
  generalize (x.codec : Int) = v1 at *
  generalize hS : (⟨x.dig.toArray⟩ : ByteArray) = S at *
  have HSS := Lib.hid hS
  clear hS
  go_enter Tryd.func60, Tryd.ntmps60
  go_wp2_with fail
  refine (HP _).out.mono ?_
  rintro e w1 ⟨rfl, hb1⟩
  have hb := below_next hA hb1
  have r0 := row_below hb1 (block_of_row HR0.out) HR0.out
  have r1 := row_below hb1 (block_of_row HR1.out) HR1.out
  have hz1 : w.heap.size + 2 ≤ w1.heap.size := by have := hb1.size; simpa using this
  obtain ⟨w2, hw2⟩ : ∃ w2, w2 = w1.alloc (.cells #[.int .u64 v0, .int .u64 v1, .int .u64 x.code, .int .i64 dl] 91) := ⟨_, rfl⟩
  have hb12 : Below w1.heap.size w1 w2 := by rw [hw2]; exact (Below.refl _ _).alloc (Nat.le_refl _) _
  have r2 : w2.heap[w1.heap.size]? = some (.cells #[.int .u64 v0, .int .u64 v1, .int .u64 x.code, .int .i64 dl] 91 (0, 0)) := by rw [hw2]; exact heap_alloc_new _ _
  have c0 : (w1.alloc (.cells #[.int .u64 v0, .int .u64 v1, .int .u64 x.code, .int .i64 dl] 91)).cell? ⟨w.heap.size, 0, none⟩ = some (.string s) := by rw [← hw2]; exact cell_of_row' (cur := [_]) (row_below hb12 (block_of_row r0) r0) 0
  have hb2 := below_next hb hb12
  have HR2 := Lib.hid r2
  have HRO := Lib.hid (row_below hb12 (block_of_row r1) r1)
  have HC := HH w2 hb2
  rw [hw2] at HC
  have HW2 := Lib.hid hw2
  clear hw2 r0 r1 r2 hb1 HH hA HR0 HR1 hb hb12 HP
  go_wp2_with fail
  refine HC.out.mono ?_
  rw [← HW2.out]
  rintro e w3 ⟨⟨A, n, c, rfl, hbs⟩, hb3⟩
  have hb3' := below_next hb2 hb3
  have hnM := hbs.slice.1
  have hmr := HMR.out
  rw [← hnM] at hmr
  obtain ⟨A', c', hs', hc⟩ := Decode_ok A n c M w3 hbs (by rw [← hnM]; omega) (hu.below hb3') x.code x.dig hmr
  have HC3 := Lib.hid (hc w3 (Below.refl _ _))
  have HS3 := Lib.hid hs'
  clear hc hs' hmr hbs hnM c0 HC
  go_wp2_with fail
  refine HC3.out.mono ?_
  rintro e w4 ⟨⟨g, rfl, hg, hrow⟩, hb4⟩
  have hb34 := below_next hb3 hb4
  have hb4' := below_next hb2 hb34
  have ro := row_below hb34 (block_of_row HRO.out) HRO.out
  have rp := row_below hb34 (block_of_row HR2.out) HR2.out
  have p0 := cell_of_row' (cur := [_, _, _, _]) rp 0
  have p1 := cell_of_row' (cur := [_, _, _, _]) rp 1
  have g0 : w4.cell? ⟨g, 0, none⟩ = some (.int .u64 x.code) := by simp [World.cell?, hrow]
  have g3 : w4.cell? ⟨g, 3, none⟩ = some (.slice A' x.dig.length c') := by simp [World.cell?, hrow]
  have hcv : ∀ q, (convert 43 9 (.slice A' x.dig.length c')).run Tryd.prog (w4.drewN q) = .ok (.string ⟨x.dig.toArray⟩) (w4.drewN q) := fun q =>
    (((HS3.out.below hb4).drewN q).str Tryd.underlying43 Tryd.underlying5 Tryd.underlying9)
  rw [HSS.out] at hcv
  have HO := Lib.hid ro
  clear hrow rp ro HC3 HS3 HRO HR2 HW2 HMR HDL
  generalize x.dig.length = D at *
  have hcvd : (convert 43 9 (.slice A' D c')).run Tryd.prog w4.drew = .ok (.string S) w4.drew := hcv 1
  clear hcv
  go_wp2_with fail
  go_still_tail 14, (by kernel_rfl)
  change wpList _ _ _ _ _ w4.drew
  have k0 : w4.drew.cell? ⟨w.heap.size + 1, 0, none⟩ = _ := cell_of_row' (cur := [_, _, _, _]) HO.out 0
  have k1 : w4.drew.cell? ⟨w.heap.size + 1, 1, none⟩ = _ := cell_of_row' (cur := [_, _, _, _]) HO.out 1
  have k2 : w4.drew.cell? ⟨w.heap.size + 1, 2, none⟩ = _ := cell_of_row' (cur := [_, _, _, _]) HO.out 2
  have k3 : w4.drew.cell? ⟨w.heap.size + 1, 3, none⟩ = _ := cell_of_row' (cur := [_, _, _, _]) HO.out 3
  have f0 : w4.drew.frozen? ⟨w.heap.size + 1, 0, none⟩ = _ := frozen_of_row' (cur := [_, _, _, _]) HO.out 0
  have f1 : w4.drew.frozen? ⟨w.heap.size + 1, 1, none⟩ = _ := frozen_of_row' (cur := [_, _, _, _]) HO.out 1
  have f2 : w4.drew.frozen? ⟨w.heap.size + 1, 2, none⟩ = _ := frozen_of_row' (cur := [_, _, _, _]) HO.out 2
  have f3 : w4.drew.frozen? ⟨w.heap.size + 1, 3, none⟩ = _ := frozen_of_row' (cur := [_, _, _, _]) HO.out 3
  have HO5 : Hid (w4.drew.heap[w.heap.size + 1]? = some outZ) := HO
  have hb5 : Below w.heap.size w w4.drew := hb4'.drewN 1
  clear HO p0 p1 g0 g3 hcvd hb34 hb4 hb3 hb4' hb3'
  generalize w4.drew = w5 at *
  go_wp2
  refine bodyPost_ret (results_cell_row rfl _ _ (w.heap.size + 1) 26 #[.int .u64 v0, .int .u64 v1, .int .u64 x.code, .string S] (0, 0) _ rfl (by simp [World.setCell, Array.getElem?_modify, HO5.out]) Tryd.underlying26 rfl (by kernel_rfl)) rfl ?_
  exact ⟨rfl, (((hb5.setCell (by show w.heap.size ≤ w.heap.size + 1; omega) _).setCell (by show w.heap.size ≤ w.heap.size + 1; omega) _).setCell (by show w.heap.size ≤ w.heap.size + 1; omega) _).setCell (by show w.heap.size ≤ w.heap.size + 1; omega) _⟩
end Go.Proofs.YthfgnhgijgjggaaDoor
