/- The contracts of impl's header arithmetic: a header made, padded, its size said. -/
import Derived.Test.YticnifjmicipnaaC2A
namespace Go.Proofs.Yticnifjmicipnaa
open Go.RowKit

set_option maxRecDepth 100000 in
set_option maxHeartbeats 1000000 in
theorem newHeader_any (a : Int) (w : World) :
    Calls Try.prog 12 #[.int .u64 a] w fun e' w' => e' = .returned (.agg #[.int .u64 0, .int .u64 0, .int .u64 51, .int .u64 a, .int .u64 (IntKind.u64.wrap (51 + a))]) ∧ Below w.heap.size w w' := by
  go_enter Try.func12, Try.ntmps12
  go_wp2
  refine bodyPost_ret (results_cell_row rfl _ _ w.heap.size 33 #[.int .u64 0, .int .u64 0, .int .u64 51, .int .u64 a, .int .u64 (IntKind.u64.wrap (51 + a))] (0, 0) _ ?h1 ?h2 Try.underlying33 rfl ?h5) ?h6 ?h7
  case h1 => rfl
  case h2 => exact (Below.heap_alloc _ _ _ (by simp)).trans (heap_alloc_new _ _)
  case h5 => kernel_rfl
  case h6 => rfl
  exact ⟨rfl, ((Below.refl _ _).alloc (Nat.le_refl _) _).alloc (by simp) _⟩

theorem bcell {W w1 : World} (hb : Below W.heap.size W w1) : (∀ b o, b < W.heap.size → w1.cell? ⟨b, o, none⟩ = W.cell? ⟨b, o, none⟩) ∧ (∀ b o, b < W.heap.size → w1.frozen? ⟨b, o, none⟩ = W.frozen? ⟨b, o, none⟩) :=
  ⟨fun b o h => hb.cell (p := ⟨b, o, none⟩) h, fun b o h => hb.frozen (p := ⟨b, o, none⟩) h⟩
theorem row_below {w w' : World} {B g : Nat} {o : Obj} (hb : Below B w w') (hg : g < B) (h : w.heap[g]? = some o) : w'.heap[g]? = some o := (hb.block g hg).trans h
set_option maxRecDepth 100000 in
set_option maxHeartbeats 1000000 in
theorem c2New_any (a : Int) (w : World) :
    Calls Try.prog 6 #[.int .u64 a] w fun e' w' => e' = .returned (.agg #[.int .u64 0, .int .u64 0, .int .u64 51, .int .u64 a, .int .u64 (IntKind.u64.wrap (51 + a))]) ∧ Below w.heap.size w w' := by
  go_enter Try.func6, Try.ntmps6
  go_wp2_with fail
  refine (newHeader_any a _).mono ?_
  rintro e w1 ⟨rfl, hb1⟩
  go_wp2_with fail
  refine (headOut_any _ _ _ _ _ w1).mono ?_
  rintro e w2 ⟨rfl, hb2⟩
  have h0 := below_next ((Below.refl w.heap.size w).alloc (Nat.le_refl _) (Obj.cells #[.int .u64 0, .int .u64 0, .int .u64 0, .int .u64 0, .int .u64 0] 24)) (below_next hb1 hb2)
  have hb3 := below_next hb1 hb2
  obtain ⟨hc, hf⟩ := bcell hb3
  have hz := hb3.size
  simp only [World.size_alloc] at hz hc hf
  have hrow : w2.heap[w.heap.size]? = some (.cells #[.int .u64 0, .int .u64 0, .int .u64 0, .int .u64 0, .int .u64 0] 24 (0, 0)) := row_below hb3 (by simp) (heap_alloc_new _ _)
  go_wp2
  refine bodyPost_ret (results_cell_row rfl _ _ w.heap.size 24 #[.int .u64 0, .int .u64 0, .int .u64 51, .int .u64 a, .int .u64 (IntKind.u64.wrap (51 + a))] (0, 0) _ ?h1 ?h2 Try.underlying24 rfl ?h5) ?h6 ?h7
  case h1 => rfl
  case h2 => simp [World.setCell, Array.getElem?_modify, hrow]
  case h5 => kernel_rfl
  case h6 => rfl
  exact ⟨rfl, ((((h0.setCell (by exact Nat.le_refl _) _).setCell (by exact Nat.le_refl _) _).setCell (by exact Nat.le_refl _) _).setCell (by exact Nat.le_refl _) _).setCell (by exact Nat.le_refl _) _⟩

set_option maxRecDepth 100000 in
set_option maxHeartbeats 1000000 in
theorem c2Pad_any (a b c d e p q : Int) (w : World) :
    Calls Try.prog 5 #[.agg #[.int .u64 a, .int .u64 b, .int .u64 c, .int .u64 d, .int .u64 e], .int .u64 p, .int .u64 q] w fun e' w' => e' = .returned (.agg #[.int .u64 a, .int .u64 b, .int .u64 (IntKind.u64.wrap (51 + p)), .int .u64 d, .int .u64 (IntKind.u64.wrap (IntKind.u64.wrap (e + p) + q))]) ∧ Below w.heap.size w w' := by
  go_enter Try.func5, Try.ntmps5
  go_wp2_with fail
  refine (headIn_any _ _ _ _ _ _).mono ?_
  rintro e1 w1 ⟨rfl, hb1⟩
  go_wp2_with fail
  refine (dataPad_any _ _ _ _ _ _ w1).mono ?_
  rintro e2 w2 ⟨rfl, hb2⟩
  go_wp2_with fail
  refine (indexPad_any _ _ _ _ _ _ w2).mono ?_
  rintro e3 w3 ⟨rfl, hb3⟩
  go_wp2_with fail
  refine (headOut_any _ _ _ _ _ w3).mono ?_
  rintro e4 w4 ⟨rfl, hb4⟩
  have hb := below_next (below_next (below_next (hb1) hb2) hb3) hb4
  have h0 : Below w.heap.size w w4 := below_next (((Below.refl w.heap.size w).alloc (Nat.le_refl _) (Obj.cells #[.int .u64 a, .int .u64 b, .int .u64 c, .int .u64 d, .int .u64 e] 24)).alloc (by simp) (Obj.cells #[.int .u64 0, .int .u64 0, .int .u64 0, .int .u64 0, .int .u64 0] 24)) hb
  obtain ⟨hc, hf⟩ := bcell hb
  have hz := hb.size
  simp only [World.size_alloc] at hz hc hf
  have hrow : w4.heap[w.heap.size + 1]? = some (.cells #[.int .u64 0, .int .u64 0, .int .u64 0, .int .u64 0, .int .u64 0] 24 (0, 0)) := row_below hb (by simp) (heap_alloc2_new _ _ _)
  go_wp2
  refine bodyPost_ret (results_cell_row rfl _ _ (w.heap.size + 1) 24 #[.int .u64 a, .int .u64 b, .int .u64 (IntKind.u64.wrap (51 + p)), .int .u64 d, .int .u64 (IntKind.u64.wrap (IntKind.u64.wrap (e + p) + q))] (0, 0) _ ?h1 ?h2 Try.underlying24 rfl ?h5) ?h6 ?h7
  case h1 => rfl
  case h2 => simp [World.setCell, Array.getElem?_modify, hrow]
  case h5 => kernel_rfl
  case h6 => rfl
  exact ⟨rfl, ((((h0.setCell (by exact Nat.le_succ _) _).setCell (by exact Nat.le_succ _) _).setCell (by exact Nat.le_succ _) _).setCell (by exact Nat.le_succ _) _).setCell (by exact Nat.le_succ _) _⟩

set_option maxRecDepth 100000 in
set_option maxHeartbeats 1000000 in
theorem c2Size_any (a b c d e p : Int) (w : World) :
    Calls Try.prog 7 #[.agg #[.int .u64 a, .int .u64 b, .int .u64 c, .int .u64 d, .int .u64 e], .int .u64 p] w fun e' w' => e' = .returned (.agg #[.int .u64 a, .int .u64 b, .int .u64 c, .int .u64 p, .int .u64 (IntKind.u64.wrap (p + e))]) ∧ Below w.heap.size w w' := by
  go_enter Try.func7, Try.ntmps7
  go_wp2_with fail
  refine (headIn_any _ _ _ _ _ _).mono ?_
  rintro e1 w1 ⟨rfl, hb1⟩
  go_wp2_with fail
  refine (dataSize_any _ _ _ _ _ _ w1).mono ?_
  rintro e2 w2 ⟨rfl, hb2⟩
  go_wp2_with fail
  refine (headOut_any _ _ _ _ _ w2).mono ?_
  rintro e3 w3 ⟨rfl, hb3⟩
  have hb := below_next (below_next (hb1) hb2) hb3
  have h0 : Below w.heap.size w w3 := below_next (((Below.refl w.heap.size w).alloc (Nat.le_refl _) (Obj.cells #[.int .u64 a, .int .u64 b, .int .u64 c, .int .u64 d, .int .u64 e] 24)).alloc (by simp) (Obj.cells #[.int .u64 0, .int .u64 0, .int .u64 0, .int .u64 0, .int .u64 0] 24)) hb
  obtain ⟨hc, hf⟩ := bcell hb
  have hz := hb.size
  simp only [World.size_alloc] at hz hc hf
  have hrow : w3.heap[w.heap.size + 1]? = some (.cells #[.int .u64 0, .int .u64 0, .int .u64 0, .int .u64 0, .int .u64 0] 24 (0, 0)) := row_below hb (by simp) (heap_alloc2_new _ _ _)
  go_wp2
  refine bodyPost_ret (results_cell_row rfl _ _ (w.heap.size + 1) 24 #[.int .u64 a, .int .u64 b, .int .u64 c, .int .u64 p, .int .u64 (IntKind.u64.wrap (p + e))] (0, 0) _ ?h1 ?h2 Try.underlying24 rfl ?h5) ?h6 ?h7
  case h1 => rfl
  case h2 => simp [World.setCell, Array.getElem?_modify, hrow]
  case h5 => kernel_rfl
  case h6 => rfl
  exact ⟨rfl, ((((h0.setCell (by exact Nat.le_succ _) _).setCell (by exact Nat.le_succ _) _).setCell (by exact Nat.le_succ _) _).setCell (by exact Nat.le_succ _) _).setCell (by exact Nat.le_succ _) _⟩

end Go.Proofs.Yticnifjmicipnaa
