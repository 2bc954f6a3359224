/- Contracts: impl.cidIn's deferred closure. -/
import Derived.Test.YthfgnhgijgjggaaDoorCdD
import Derived.Defers
import Derived.Recover
namespace Go.Proofs.YthfgnhgijgjggaaDoor
open Go.RowKit

set_option maxRecDepth 100000 in
set_option maxHeartbeats 2000000 in
theorem cidIn_catch (a b : Nat) (hab : a ≠ b) (s0 : ByteArray) (o0 : Bool) (u : TypeId) (pv : Value) (older : List PanicEntry) (w : World)
    (ha : w.cell? ⟨a, 0, none⟩ = some (.string s0)) (fa : w.frozen? ⟨a, 0, none⟩ = false) (hb : w.cell? ⟨b, 0, none⟩ = some (.bool o0)) (fb : w.frozen? ⟨b, 0, none⟩ = false) :
    CallsD Tryd.prog 68 #[.pointer (some ⟨a, 0, none⟩), .pointer (some ⟨b, 0, none⟩)] (.panicking ({ v := .iface u pv, recovered := false } :: older)) w fun e u' w' =>
      e = .returned (.tuple #[]) ∧ u' = .panicking ({ v := .iface u pv, recovered := true } :: older) ∧ w' = (w.setCell ⟨a, 0, none⟩ (.string ⟨#[]⟩)).setCell ⟨b, 0, none⟩ (.bool false) := by
  refine callsD_of_wpS Tryd.func68 rfl fun c₀ cs hu => ?_
  apply wpS_seq
  apply wpS_region
  simp [wpOpsS, go_sem, recoverD, hu, Tryd.ntmps68, Exit.thenS]
  refine wpS_cond (t := true) (by simp [Act.eval, Array.replicate]) ?_
  simp only [if_true]
  have hb' : (w.setCell ⟨a, 0, none⟩ (.string ⟨#[]⟩)).cell? ⟨b, 0, none⟩ = some (.bool o0) := by
    rw [World.cell?_setCell_other _ _ _ _ (by simp)]; exact hb
  have fb' : (w.setCell ⟨a, 0, none⟩ (.string ⟨#[]⟩)).frozen? ⟨b, 0, none⟩ = false := by simpa using fb
  apply wpS_region
  simp [wpOpsS, go_sem, ha, fa, hb', fb', bodyPostS, results, Tryd.results68]
  trace_state

set_option maxRecDepth 100000 in
set_option maxHeartbeats 2000000 in
theorem cidIn_idle (p q : Addr) (w : World) :
    CallsD Tryd.prog 68 #[.pointer (some p), .pointer (some q)] .returning w fun e u' w' => e = .returned (.tuple #[]) ∧ u' = .returning ∧ w' = w := by
  refine callsD_of_wpS Tryd.func68 rfl fun c₀ cs hu => ?_
  apply wpS_seq
  apply wpS_region
  simp [wpOpsS, go_sem, recoverD, hu, Tryd.ntmps68, Exit.thenS]
  refine wpS_cond (t := false) (by simp [Act.eval, Array.replicate]) ?_
  simp only [Bool.false_eq_true, if_false]
  refine wpS_of_wp (wp_skip ?_)
  cases c₀
  simp_all [bodyPostS, results, Tryd.results68]
end Go.Proofs.YthfgnhgijgjggaaDoor
