/- For every list of at most 50 texts of at most 2^14 bytes: impl.LdWrite writes how many bytes they have together as a varint, and them, one behind the other; impl.LdSize is how many bytes that has; other lists are let by; besides, laws.ldOne is true. The tied card: the listed sentinels are what their initialisers lay (the tie leans on the pruned copy of the project that the seat gives). No other condition. -/
import Derived.Test.YthfgnhgijgjggaaDoorCards
import Derived.Test.YthfgnhgijgjggaaDoorTie
import Derived.Test.YthfgnhgijgjggaaDoorLwH
import Derived.Test.YthfgnhgijgjggaaDoorVars
import Derived.ProofKit
import Derived.LaidMore
import Derived.OpenShut
import Derived.Stop.Joined
import Derived.ShutString
import Derived.Test.YthfgnhgijgjggaaDoorSents
import Derived.Test.YthfgnhgijgjggaaDoorOpenSS
namespace Go.Proofs.YthfgnhgijgjggaaDoor.fnLdWrite
open Go.ChangeShapes Go.WideShapes Go.ChangeAt Go.RowKit
open Go.ChangeMaps (open_string shut_string)

theorem own : ownKnob Tryd.prog.godebug = none := by kernel_rfl
theorem door_met (os : Os) (args : Array Value) : laidMetH Tryd.prog Rows.fnLdWriteRow.laid ((World.doorLaid Tryd.prog 420 os).forCall (fun _ _ => 0) ⟨#[], args, []⟩).memory :=
  laidMetH_of_parts3 (fuel := 8) (laidMet_of_run' 8 (by kernel_rfl) (by kernel_rfl)) (by kernel_rfl) (by kernel_rfl)

set_option maxRecDepth 100000 in
theorem lifted (os : Os) (started : os.Started) (H : Type) (enc : TypeId × Value → H) :
    ReturnsInHanded {} Tryd.checked os 7 .any (fun w args => (Rows.fnLdWriteSpec.pre enc Tryd.prog Tryd.f7 [] false w args ∧ laidMetH Tryd.prog Rows.fnLdWriteRow.laid w) ∧ sizedMet enc Tryd.prog Tryd.f7 (OpenSpec.ofChange Rows.fnLdWriteSpec) false w args)
      (Rows.fnLdWriteSpec.post enc Tryd.prog Tryd.f7 false true false false) := by
  refine returnsInHanded_of_change_and (C := Tryd.checked) (X := fun w _ => laidMetH Tryd.prog Rows.fnLdWriteRow.laid w) (fun _ _ _ hh h => h.of_heap hh) own started (by kernel_rfl) Tryd.func7
    (ChangeSpec.witness_shaped (enc := enc) (C := Tryd.checked) (os := os) (X := fun w _ => laidMetH Tryd.prog Rows.fnLdWriteRow.laid w) false (World.doorLaid Tryd.prog 420 os) #[.slice none 0 0] 8 rfl (World.shaped_of_RefB (by kernel_rfl) (by kernel_rfl)) (by kernel_rfl) (by kernel_rfl) (by kernel_rfl) (door_met os _)) ?_
  intro W base args ds gs before hval0 hW _ _ hL _
  have hval : ∀ (j : Nat) t v, Tryd.f7.params[j]? = some t → args[j]? = some v → Value.okWide Tryd.prog W .any base t v := hval0
  have hW' := hW
  obtain ⟨p, q, hA0, hV, rfl, hfz, hnd⟩ := hW
  have hA : DataW.TrodAll enc Tryd.prog W 0 (fun _ => true) true Tryd.f7.params.toList args.toList ds p := hA0
  rw [Tryd.params7] at hA hval
  obtain ⟨v0, vs0, d0, ds0, p0, q0, hargs, rfl, rfl, h0, r0⟩ := trodAll_cons hA
  obtain ⟨rfl, rfl, rfl⟩ := trodAll_nil r0
  obtain rfl : args = #[v0] := by cases args; simp_all
  obtain ⟨rfl, rfl⟩ := trodVars_none hV
  have hk0 := h0
  have hlt0 := trod_places_lt h0
  obtain ⟨ss0, hss0, hln0⟩ := open_ss (hval 0 49 v0 rfl rfl) h0
  clear hA0 hval0
  rw [MakeChecks.laidMetH_plain _ _ _ (by kernel_rfl)] at hL
  obtain ⟨x0, g0, s0', k0, l0⟩ := sent_err hL.tail gEOF gEOFT
  obtain ⟨x1, g1, s1', k1, l1⟩ := sent_err hL.tail.tail gUnexp gUnexpT
  obtain ⟨x2, g2⟩ := sent_cell hL.tail.tail.tail gOver gOverT
  obtain ⟨x4, g4⟩ := sent_cell hL.tail.tail.tail.tail gNotMin gNotMinT
  refine (law_LdWrite v0 ss0 W hss0 (by unfold maxLen at hln0; omega) x0 x1 _ _ _ _ ⟨g0, g1, g2, block_of_cell g2, g4, block_of_cell g4⟩).mono fun e W' ⟨he, bel⟩ => ?_
  subst he
  exact ⟨_, rfl, _, _, _, [], _, [], hW', trodAll_mk1 (shut_bool Tryd.underlying4 _), trodAll_cons_mk (Below.trod laidOutP (by kernel_rfl) (of_decide_eq_true (by kernel_rfl)) hk0 bel hlt0) trodAll_mk0, rfl, bel.frame _, fun h => by cases h⟩

theorem said : Rows.FnLdWriteSaid :=
  OpenClaim.holds_of_wide 7 Tryd.f7 rfl rfl rfl rfl rfl rfl rfl ⟨rfl, rfl, rfl, rfl, rfl⟩ rfl rfl rfl rfl rfl (by kernel_rfl) Tryd.func7 (by kernel_rfl)
    (of_decide_eq_true (by kernel_rfl)) (by unfold Func.isWrapper; first | (rw [if_pos (by decide +kernel)]; kernel_rfl) | (rw [if_neg (by decide +kernel)]; exact ⟨rfl, rfl⟩))
    (fun os started H enc _ => lifted os started H enc)

theorem plain (f : FuncId) (fn : Func) (hf : Tryd.pinned.checked.prog.funcNamed "pub-droshky/laws.FnLdWrite" = some f) (hfn : Tryd.pinned.checked.prog.funcs[f]? = some fn) :
    true = Tryd.pinned.checked.prog.looks [] ∧ ∀ (j : Nat) t, fn.params[j]? = some t → Tryd.pinned.checked.prog.wantsStandIn t = false := by
  obtain rfl : f = 7 := Option.some.inj ((show Tryd.prog.funcNamed "pub-droshky/laws.FnLdWrite" = some 7 by kernel_rfl).symm.trans hf) |>.symm
  obtain rfl : fn = Tryd.f7 := (Option.some.inj (Tryd.func7.symm.trans hfn)).symm
  refine ⟨by kernel_rfl, fun j t ht => ?_⟩
  rw [Tryd.params7] at ht
  have hm : t ∈ [49] := by simpa using Array.mem_of_getElem? ht
  have hall : ([49].all fun u => !Tryd.prog.wantsStandIn u) = true := by kernel_rfl
  exact (show Tryd.prog.wantsStandIn t = false by simpa using List.all_eq_true.1 hall t hm)

theorem card : Rows.FnLdWriteCardSaid :=
  Claim7.holds_tied_plain_at .later [] _ _ _ _ said (fun _ h => by cases h) (by kernel_rfl) (fun _ h => by cases h) fnLdWrite_row_tie rfl ⟨rfl, rfl⟩ (by kernel_rfl) rfl plain (by kernel_rfl)
#print axioms card
end Go.Proofs.YthfgnhgijgjggaaDoor.fnLdWrite
