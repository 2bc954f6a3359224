/- The contracts of the header arithmetic of version 2: each function of five numbers and what it makes of them. -/
import Derived.Test.YticnifjmicipnaaProg
import Derived.WalkKit
import Derived.Below
import Derived.Lib.Hide
import Derived.Laws.Rows
import Derived.Outline
namespace Go.Proofs.Yticnifjmicipnaa
open Go.RowKit

theorem below_next {w a b : World} (h : Below w.heap.size w a) (k : Below a.heap.size a b) : Below w.heap.size w b := h.trans (k.mono h.size)
set_option maxRecDepth 100000 in
set_option maxHeartbeats 1000000 in
theorem headIn_any (a b c d e : Int) (w : World) :
    Calls Try.prog 9 #[.agg #[.int .u64 a, .int .u64 b, .int .u64 c, .int .u64 d, .int .u64 e]] w fun e' w' => e' = .returned (.agg #[.int .u64 a, .int .u64 b, .int .u64 c, .int .u64 d, .int .u64 e]) ∧ Below w.heap.size w w' := by
  go_enter Try.func9, Try.ntmps9
  go_wp2
  refine bodyPost_ret (results_cell_row rfl _ _ (w.heap.size + 1) 33 #[.int .u64 a, .int .u64 b, .int .u64 c, .int .u64 d, .int .u64 e] (0, 0) _ ?h1 ?h2 Try.underlying33 rfl ?h5) ?h6 ?h7
  case h1 => rfl
  case h2 => first | exact heap_alloc2_new _ _ _ | simp
  case h5 => kernel_rfl
  case h6 => rfl
  exact ⟨rfl, ((Below.refl _ _).alloc (Nat.le_refl _) _).alloc (by simp) _⟩

set_option maxRecDepth 100000 in
set_option maxHeartbeats 1000000 in
theorem headOut_any (a b c d e : Int) (w : World) :
    Calls Try.prog 8 #[.agg #[.int .u64 a, .int .u64 b, .int .u64 c, .int .u64 d, .int .u64 e]] w fun e' w' => e' = .returned (.agg #[.int .u64 a, .int .u64 b, .int .u64 c, .int .u64 d, .int .u64 e]) ∧ Below w.heap.size w w' := by
  go_enter Try.func8, Try.ntmps8
  go_wp2
  refine bodyPost_ret (results_cell_row rfl _ _ (w.heap.size + 1) 24 #[.int .u64 a, .int .u64 b, .int .u64 c, .int .u64 d, .int .u64 e] (0, 0) _ ?h1 ?h2 Try.underlying24 rfl ?h5) ?h6 ?h7
  case h1 => rfl
  case h2 => first | exact heap_alloc2_new _ _ _ | simp
  case h5 => kernel_rfl
  case h6 => rfl
  exact ⟨rfl, ((Below.refl _ _).alloc (Nat.le_refl _) _).alloc (by simp) _⟩

set_option maxRecDepth 100000 in
set_option maxHeartbeats 1000000 in
theorem dataPad_any (a b c d e p : Int) (w : World) :
    Calls Try.prog 10 #[.agg #[.int .u64 a, .int .u64 b, .int .u64 c, .int .u64 d, .int .u64 e], .int .u64 p] w fun e' w' => e' = .returned (.agg #[.int .u64 a, .int .u64 b, .int .u64 (IntKind.u64.wrap (51 + p)), .int .u64 d, .int .u64 (IntKind.u64.wrap (e + p))]) ∧ Below w.heap.size w w' := by
  go_enter Try.func10, Try.ntmps10
  go_wp2
  refine bodyPost_ret (results_cell_row rfl _ _ (w.heap.size + 1) 33 #[.int .u64 a, .int .u64 b, .int .u64 (IntKind.u64.wrap (51 + p)), .int .u64 d, .int .u64 (IntKind.u64.wrap (e + p))] (0, 0) _ ?h1 ?h2 Try.underlying33 rfl ?h5) ?h6 ?h7
  case h1 => rfl
  case h2 => first | exact heap_alloc2_new _ _ _ | simp
  case h5 => kernel_rfl
  case h6 => rfl
  exact ⟨rfl, ((Below.refl _ _).alloc (Nat.le_refl _) _).alloc (by simp) _⟩

set_option maxRecDepth 100000 in
set_option maxHeartbeats 1000000 in
theorem indexPad_any (a b c d e p : Int) (w : World) :
    Calls Try.prog 11 #[.agg #[.int .u64 a, .int .u64 b, .int .u64 c, .int .u64 d, .int .u64 e], .int .u64 p] w fun e' w' => e' = .returned (.agg #[.int .u64 a, .int .u64 b, .int .u64 c, .int .u64 d, .int .u64 (IntKind.u64.wrap (e + p))]) ∧ Below w.heap.size w w' := by
  go_enter Try.func11, Try.ntmps11
  go_wp2
  refine bodyPost_ret (results_cell_row rfl _ _ (w.heap.size + 1) 33 #[.int .u64 a, .int .u64 b, .int .u64 c, .int .u64 d, .int .u64 (IntKind.u64.wrap (e + p))] (0, 0) _ ?h1 ?h2 Try.underlying33 rfl ?h5) ?h6 ?h7
  case h1 => rfl
  case h2 => first | exact heap_alloc2_new _ _ _ | simp
  case h5 => kernel_rfl
  case h6 => rfl
  exact ⟨rfl, ((Below.refl _ _).alloc (Nat.le_refl _) _).alloc (by simp) _⟩

set_option maxRecDepth 100000 in
set_option maxHeartbeats 1000000 in
theorem dataSize_any (a b c d e p : Int) (w : World) :
    Calls Try.prog 13 #[.agg #[.int .u64 a, .int .u64 b, .int .u64 c, .int .u64 d, .int .u64 e], .int .u64 p] w fun e' w' => e' = .returned (.agg #[.int .u64 a, .int .u64 b, .int .u64 c, .int .u64 p, .int .u64 (IntKind.u64.wrap (p + e))]) ∧ Below w.heap.size w w' := by
  go_enter Try.func13, Try.ntmps13
  go_wp2
  refine bodyPost_ret (results_cell_row rfl _ _ (w.heap.size + 1) 33 #[.int .u64 a, .int .u64 b, .int .u64 c, .int .u64 p, .int .u64 (IntKind.u64.wrap (p + e))] (0, 0) _ ?h1 ?h2 Try.underlying33 rfl ?h5) ?h6 ?h7
  case h1 => rfl
  case h2 => first | exact heap_alloc2_new _ _ _ | simp
  case h5 => kernel_rfl
  case h6 => rfl
  exact ⟨rfl, ((Below.refl _ _).alloc (Nat.le_refl _) _).alloc (by simp) _⟩

end Go.Proofs.Yticnifjmicipnaa
