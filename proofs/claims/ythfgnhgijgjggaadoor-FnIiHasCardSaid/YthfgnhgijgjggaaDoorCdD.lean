/- Contracts of package cid: tryNewCidV0, NewCidV0. -/
import Derived.Test.YthfgnhgijgjggaaDoorCdC
import Derived.WalkLawsBesides
namespace Go.Proofs.YthfgnhgijgjggaaDoor
open Go.RowKit

/-- The variables that package cid reads. -/
structure CdS (w : World) : Prop extends MhS w where
  undef : ∃ s : ByteArray, w.cell? ⟨1, 0, none⟩ = some (.string s)
theorem CdS.below {w w' : World} (h : CdS w) (hb : Below w.heap.size w w') : CdS w' := by
  obtain ⟨s, h2⟩ := h.undef
  exact ⟨h.toMhS.below hb, s, below_cell hb h2⟩

set_option maxRecDepth 100000 in
set_option maxHeartbeats 2000000 in
theorem tryV0_ok (A : Option Addr) (n c : Nat) (l : List UInt8) (w : World) (hs : BS w (.slice A n c) l) (hm : l.length ≤ 2147483647) (hu : UvS w) (d : List UInt8) (hd : mhRd l = some (n, 18, d)) (h32 : d.length = 32) :
    Calls Tryd.prog 93 #[.slice A n c] w fun e w' => e = .returned (.tuple #[.agg #[.string ⟨l.toArray⟩], .nilIface]) ∧ Below w.heap.size w w' := by
  have hA : Below w.heap.size w (w.alloc (.cells #[.string ⟨#[]⟩] 80)) := (Below.refl _ _).alloc (Nat.le_refl _) _
  obtain ⟨A', c', hs', hc⟩ := Decode_ok A n c l _ (hs.below hA) hm (hu.below hA) 18 d hd
  rw [h32] at hc
  have HC := Lib.hid (hc _ (Below.refl _ _))
  have HS := Lib.hid (hs.below hA)
  have hr0 := heap_alloc_new w (.cells #[.string ⟨#[]⟩] 80)
  clear hs hs' hc hu hd h32 hm
  go_enter Tryd.func93, Tryd.ntmps93
  go_wp2_with fail
  generalize hw1 : w.alloc (.cells #[.string ⟨#[]⟩] 80) = w1 at *
  have hz1 : w1.heap.size = w.heap.size + 1 := by rw [← hw1]; simp
  clear hw1
  refine HC.out.mono ?_
  rintro e w2 ⟨⟨g, rfl, hg, hrow⟩, hb2⟩
  have hr2 := (hb2.block _ (by omega)).trans hr0
  have c0 : w2.cell? ⟨g, 0, none⟩ = some (.int .u64 18) := by simp [World.cell?, hrow]
  have c2 : w2.cell? ⟨g, 2, none⟩ = some (.int .i64 32) := by simp [World.cell?, hrow]
  have k0 := cell_of_row' (cur := [_]) hr2 0
  have f0 := frozen_of_row' (cur := [_]) hr2 0
  have hcv := ((HS.out.below hb2).str (dst := 9) Tryd.underlying88 Tryd.underlying5 Tryd.underlying9)
  have hb := hA.trans (hb2.mono (by omega))
  have HR2 := Lib.hid hr2
  clear hrow hr2 hr0 hA hb2 hz1
  go_wp2
  refine bodyPost_ret (results_row_tmp rfl _ _ (w.heap.size) 80 #[.string ⟨l.toArray⟩] (0, 0) _ ?h1 ?h2 Tryd.underlying80 rfl ?h5) ?h6 ?h7
  case h1 => rfl
  case h2 => simp [World.setCell, Array.getElem?_modify, HR2.out]
  case h5 => kernel_rfl
  case h6 => rfl
  exact ⟨rfl, hb.setCell (by exact Nat.le_refl _) _⟩

/-- A struct with one string, and an error. -/
def CidBad (e : Ending) : Prop := ∃ (s : ByteArray) (t : TypeId) (p : Value), e = .returned (.tuple #[.agg #[.string s], .iface t p])

set_option maxRecDepth 100000 in
set_option maxHeartbeats 2000000 in
theorem tryV0_bad (A : Option Addr) (n c : Nat) (l : List UInt8) (w : World) (hs : BS w (.slice A n c) l) (hm : l.length ≤ 2147483647) (hu : CdS w) (code : Nat) (d : List UInt8) (hd : mhRd l = some (n, code, d)) (h32 : ¬ (code = 18 ∧ d.length = 32)) :
    Calls Tryd.prog 93 #[.slice A n c] w fun e w' => CidBad e ∧ Below w.heap.size w w' := by
  have hA : Below w.heap.size w (w.alloc (.cells #[.string ⟨#[]⟩] 80)) := (Below.refl _ _).alloc (Nat.le_refl _) _
  obtain ⟨A', c', hs', hc⟩ := Decode_ok A n c l _ (hs.below hA) hm (hu.below hA).toUvS code d hd
  have HC := Lib.hid (hc _ (Below.refl _ _))
  have hr0 := heap_alloc_new w (.cells #[.string ⟨#[]⟩] 80)
  obtain ⟨us, hus⟩ := (hu.below hA).undef
  have hlt : 1 < w.heap.size := by obtain ⟨s, h⟩ := hu.undef; exact block_of_cell h
  generalize d.length = D at *
  clear hs hs' hc hu hd hm
  go_enter Tryd.func93, Tryd.ntmps93
  go_wp2_with fail
  generalize hw1 : w.alloc (.cells #[.string ⟨#[]⟩] 80) = w1 at *
  have hz1 : w1.heap.size = w.heap.size + 1 := by rw [← hw1]; simp
  clear hw1
  refine HC.out.mono ?_
  rintro e w2 ⟨⟨g, rfl, hg, hrow⟩, hb2⟩
  have hr2 := (hb2.block _ (by omega)).trans hr0
  have c0 : w2.cell? ⟨g, 0, none⟩ = some (.int .u64 code) := by simp [World.cell?, hrow]
  have c2 : w2.cell? ⟨g, 2, none⟩ = some (.int .i64 D) := by simp [World.cell?, hrow]
  have hus2 := below_cell hb2 hus
  have hb := hA.trans (hb2.mono (by omega))
  have hz2 : w.heap.size + 1 ≤ w2.heap.size := by have := hb2.size; omega
  have HR2 := Lib.hid hr2
  clear hrow hr2 hr0 hA hb2 hz1 hus
  have hcode : ((code : Int) != 18) = true ∨ (((code : Int) != 18) = false ∧ ((D : Int) != 32) = true) := by
    by_cases h : code = 18
    · refine .inr ⟨by rw [h]; rfl, ?_⟩
      rw [bne_iff_ne]
      intro e; exact h32 ⟨h, by omega⟩
    · refine .inl ?_
      rw [bne_iff_ne]; omega
  clear h32
  rcases hcode with h1 | ⟨h1, h2⟩
  all_goals
    go_wp2_with fail
    go_region_with (go_at_call 103; refine (errorsNew _ w2.drew).mono ?_; rintro e w3 ⟨t, p, rfl, hb3⟩; have hr3 := row_below hb3 (show w.heap.size < w2.drew.heap.size by show w.heap.size < w2.heap.size; omega) (show w2.drew.heap[w.heap.size]? = _ from HR2.out); have k0 := cell_of_row' (cur := [_]) hr3 0; have f0 := frozen_of_row' (cur := [_]) hr3 0; have hus3 := below_cell hb3 hus2)
    all_goals
      go_wp2
      refine bodyPost_ret (results_row_tmp rfl _ _ (w.heap.size) 80 #[.string us] (0, 0) _ rfl (by simp [World.setCell, Array.getElem?_modify, hr3]) Tryd.underlying80 rfl (by kernel_rfl)) rfl ?_
      exact ⟨⟨_, _, _, rfl⟩, ((hb.drewN 1).trans (hb3.mono (show w.heap.size ≤ w2.heap.size by omega))).setCell (by exact Nat.le_refl _) _⟩

theorem row_alloc {w : World} {g : Nat} {o' : Obj} (h : w.heap[g]? = some o') (o : Obj) : (w.alloc o).heap[g]? = some o' := (Below.heap_alloc w o g (block_of_row h)).trans h

set_option maxRecDepth 100000 in
set_option maxHeartbeats 2000000 in
theorem newCidV0_ok (A : Option Addr) (n c : Nat) (l : List UInt8) (w : World) (hs : BS w (.slice A n c) l) (hm : l.length ≤ 2147483647) (hu : UvS w) (d : List UInt8) (hd : mhRd l = some (n, 18, d)) (h32 : d.length = 32) :
    Calls Tryd.prog 70 #[.slice A n c] w fun e w' => e = .returned (.agg #[.string ⟨l.toArray⟩]) ∧ Below w.heap.size w w' := by
  have hA : Below w.heap.size w (w.alloc (.cells #[.string ⟨#[]⟩] 80)) := (Below.refl _ _).alloc (Nat.le_refl _) _
  have HC := Lib.hid (tryV0_ok A n c l _ (hs.below hA) hm (hu.below hA) d hd h32)
  have hr0 := heap_alloc_new w (.cells #[.string ⟨#[]⟩] 80)
  clear hs hu hd h32 hm
  go_enter Tryd.func70, Tryd.ntmps70
  go_wp2_with fail
  generalize hw1 : w.alloc (.cells #[.string ⟨#[]⟩] 80) = w1 at *
  have hz1 : w1.heap.size = w.heap.size + 1 := by rw [← hw1]; simp
  clear hw1
  refine HC.out.mono ?_
  rintro e w2 ⟨rfl, hb2⟩
  have hr2 := (hb2.block _ (by omega)).trans hr0
  have hb := hA.trans (hb2.mono (by omega))
  have hz2 : w.heap.size + 1 ≤ w2.heap.size := by have := hb2.size; omega
  have k0 := fun o => cell_of_row' (cur := [_]) (row_alloc hr2 o) 0
  have f0 := fun o => frozen_of_row' (cur := [_]) (row_alloc hr2 o) 0
  have HR2 := Lib.hid hr2
  clear hr2 hr0 hA hb2 hz1
  go_wp2
  refine bodyPost_ret (results_cell_row rfl _ _ (w.heap.size) 80 #[.string ⟨l.toArray⟩] (0, 0) _ rfl (by simp [World.setCell, Array.getElem?_modify, row_alloc HR2.out, -World.alloc_eq]) Tryd.underlying80 rfl (by kernel_rfl)) rfl ?_
  exact ⟨rfl, (hb.alloc (by omega) _).setCell (by exact Nat.le_refl _) _⟩

set_option maxRecDepth 100000 in
set_option maxHeartbeats 2000000 in
theorem newCidV0_bad (A : Option Addr) (n c : Nat) (l : List UInt8) (w : World) (hs : BS w (.slice A n c) l) (hm : l.length ≤ 2147483647) (hu : CdS w) (code : Nat) (d : List UInt8) (hd : mhRd l = some (n, code, d)) (h32 : ¬ (code = 18 ∧ d.length = 32)) :
    Calls Tryd.prog 70 #[.slice A n c] w fun e w' => (∃ t p, e = .panicked [{ v := .iface t p, recovered := false }]) ∧ Below w.heap.size w w' := by
  have hA : Below w.heap.size w (w.alloc (.cells #[.string ⟨#[]⟩] 80)) := (Below.refl _ _).alloc (Nat.le_refl _) _
  have HC := Lib.hid (tryV0_bad A n c l _ (hs.below hA) hm (hu.below hA) code d hd h32)
  clear hs hu hd h32 hm
  go_enter Tryd.func70, Tryd.ntmps70
  go_wp2_with fail
  refine HC.out.mono ?_
  rintro e w2 ⟨⟨s, t, p, rfl⟩, hb2⟩
  have hb := below_next hA hb2
  have hz := hb2.size
  clear hA
  go_wp2
  exact ⟨rfl, ⟨t, p, rfl⟩, hb.alloc hb.size _⟩
end Go.Proofs.YthfgnhgijgjggaaDoor
