/- For every text of at most 2^14 bytes and sections of at most 2^20: where impl.SeRead reads a section that is a block, impl.SeHead reads its beginning with the same identifier, the length of the data, up to the data; where the one tells the end the other does; texts that end exactly behind a length that is not 0, and longer ones, are let by; besides, laws.ldOne is true where it is asked. The tied card: the listed sentinels are what their initialisers lay (the tie leans on the pruned copy of the project that the seat gives). No other condition. -/
import Derived.Test.YthfgnhgijgjggaaDoorCards
import Derived.Test.YthfgnhgijgjggaaDoorTie
import Derived.Test.YthfgnhgijgjggaaDoorJSb13
import Derived.ProofKit
import Derived.LaidMore
import Derived.OpenShut
import Derived.Stop.Joined
import Derived.ShutString
namespace Go.Proofs.YthfgnhgijgjggaaDoor.fnSeBoth
open Go.ChangeShapes Go.WideShapes Go.ChangeAt Go.RowKit
open Go.ChangeMaps (open_string shut_string)

theorem own : ownKnob Tryd.prog.godebug = none := by kernel_rfl
theorem door_met (os : Os) (args : Array Value) : laidMetH Tryd.prog Rows.fnSeBothRow.laid ((World.doorLaid Tryd.prog 420 os).forCall (fun _ _ => 0) ⟨#[], args, []⟩).memory :=
  laidMetH_of_parts3 (fuel := 8) (laidMet_of_run' 8 (by kernel_rfl) (by kernel_rfl)) (by kernel_rfl) (by kernel_rfl)

set_option maxRecDepth 100000 in
theorem lifted (os : Os) (started : os.Started) (H : Type) (enc : TypeId × Value → H) :
    ReturnsInHanded {} Tryd.checked os 9 .any (fun w args => (Rows.fnSeBothSpec.pre enc Tryd.prog Tryd.f9 [] false w args ∧ laidMetH Tryd.prog Rows.fnSeBothRow.laid w) ∧ sizedMet enc Tryd.prog Tryd.f9 (OpenSpec.ofChange Rows.fnSeBothSpec) false w args)
      (Rows.fnSeBothSpec.post enc Tryd.prog Tryd.f9 false true false false) := by
  refine returnsInHanded_of_change_and (C := Tryd.checked) (X := fun w _ => laidMetH Tryd.prog Rows.fnSeBothRow.laid w) (fun _ _ _ hh h => h.of_heap hh) own started (by kernel_rfl) Tryd.func9
    (ChangeSpec.witness_shaped (enc := enc) (C := Tryd.checked) (os := os) (X := fun w _ => laidMetH Tryd.prog Rows.fnSeBothRow.laid w) false (World.doorLaid Tryd.prog 420 os) #[.string ByteArray.empty, .bool false] 8 rfl (World.shaped_of_RefB (by kernel_rfl) (by kernel_rfl)) (by kernel_rfl) (by kernel_rfl) (by kernel_rfl) (door_met os _)) ?_
  intro W base args ds gs before hval0 hW _ _ hL _
  have hval : ∀ (j : Nat) t v, Tryd.f9.params[j]? = some t → args[j]? = some v → Value.okWide Tryd.prog W .any base t v := hval0
  have hW' := hW
  obtain ⟨p, q, hA0, hV, rfl, hfz, hnd⟩ := hW
  have hA : DataW.TrodAll enc Tryd.prog W 0 (fun _ => true) true Tryd.f9.params.toList args.toList ds p := hA0
  rw [Tryd.params9] at hA hval
  obtain ⟨v0, vs0, d0, ds0, p0, q0, hargs, rfl, rfl, h0, r0⟩ := trodAll_cons hA
  obtain ⟨v1, vs1, d1, ds1, p1, q1, rfl, rfl, rfl, h1, r1⟩ := trodAll_cons r0
  obtain ⟨rfl, rfl, rfl⟩ := trodAll_nil r1
  obtain rfl : args = #[v0, v1] := by cases args; simp_all
  obtain ⟨rfl, rfl⟩ := trodVars_none hV
  obtain ⟨a0, rfl, rfl, rfl, w0⟩ := open_string Tryd.underlying9 (hval 0 9 v0 rfl rfl) h0
  obtain ⟨a1, rfl, rfl, rfl⟩ := open_bool Tryd.underlying4 (hval 1 4 v1 rfl rfl) h1
  clear hA0 hval0
  rw [MakeChecks.laidMetH_plain _ _ _ (by kernel_rfl)] at hL
  obtain ⟨x0, g0, s0', k0, l0⟩ := sent_err hL.tail gEOF gEOFT
  obtain ⟨x1, g1, s1', k1, l1⟩ := sent_err hL.tail.tail gUnexp gUnexpT
  obtain ⟨x2, g2, s2', k2, l2⟩ := sent_err hL.tail.tail.tail gOver gOverT
  obtain ⟨x3, g3⟩ := sent_cell hL.tail.tail.tail.tail gUnder gUnderT
  obtain ⟨x4, g4, s4', k4, l4⟩ := sent_err hL.tail.tail.tail.tail.tail gNotMin gNotMinT
  obtain ⟨x5, g5⟩ := sent_cell hL.tail.tail.tail.tail.tail.tail gShort gShortT
  have g6 := undef_cell hL.tail.tail.tail.tail.tail.tail.tail.tail.tail gUndef gUndefT
  obtain ⟨x7, g7, s7', k7, l7⟩ := sent_err (g := 6) hL.tail.tail.tail.tail.tail.tail.tail.tail.tail.tail (by kernel_rfl) (by kernel_rfl)
  refine (law_SeBoth a0 a1 W ⟨⟨⟨⟨_, ⟨_, g2.cell⟩, ⟨_, g4.cell⟩, ⟨_, g3⟩⟩⟩, ⟨_, _, g5⟩⟩, g6⟩ x0 x1 x2 x4 x7 ⟨g0, g1, g2, g4, sent_ne k1 k0 l1 l0 (by decide), sent_ne k2 k0 l2 l0 (by decide), sent_ne k4 k0 l4 l0 (by decide)⟩ g7 (sent_ne k7 k0 l7 l0 (by decide))).mono fun e W' ⟨he, bel⟩ => ?_
  subst he
  exact ⟨_, rfl, _, _, _, [], _, [], hW', trodAll_mk1 (shut_bool Tryd.underlying4 _), trodAll_cons_mk (shut_string Tryd.underlying9 w0) (trodAll_cons_mk (shut_bool Tryd.underlying4 a1) trodAll_mk0), rfl, bel.frame _, fun h => by cases h⟩

theorem said : Rows.FnSeBothSaid :=
  OpenClaim.holds_of_wide 9 Tryd.f9 rfl rfl rfl rfl rfl rfl rfl ⟨rfl, rfl, rfl, rfl, rfl⟩ rfl rfl rfl rfl rfl (by kernel_rfl) Tryd.func9 (by kernel_rfl)
    (of_decide_eq_true (by kernel_rfl)) (by unfold Func.isWrapper; first | (rw [if_pos (by decide +kernel)]; kernel_rfl) | (rw [if_neg (by decide +kernel)]; exact ⟨rfl, rfl⟩))
    (fun os started H enc _ => lifted os started H enc)

theorem plain (f : FuncId) (fn : Func) (hf : Tryd.pinned.checked.prog.funcNamed "pub-droshky/laws.FnSeBoth" = some f) (hfn : Tryd.pinned.checked.prog.funcs[f]? = some fn) :
    true = Tryd.pinned.checked.prog.looks [] ∧ ∀ (j : Nat) t, fn.params[j]? = some t → Tryd.pinned.checked.prog.wantsStandIn t = false := by
  obtain rfl : f = 9 := Option.some.inj ((show Tryd.prog.funcNamed "pub-droshky/laws.FnSeBoth" = some 9 by kernel_rfl).symm.trans hf) |>.symm
  obtain rfl : fn = Tryd.f9 := (Option.some.inj (Tryd.func9.symm.trans hfn)).symm
  refine ⟨by kernel_rfl, fun j t ht => ?_⟩
  rw [Tryd.params9] at ht
  have hm : t ∈ [9, 4] := by simpa using Array.mem_of_getElem? ht
  have hall : ([9, 4].all fun u => !Tryd.prog.wantsStandIn u) = true := by kernel_rfl
  exact (show Tryd.prog.wantsStandIn t = false by simpa using List.all_eq_true.1 hall t hm)

theorem card : Rows.FnSeBothCardSaid :=
  Claim7.holds_tied_plain_at .later [] _ _ _ _ said (fun _ h => by cases h) (by kernel_rfl) (fun _ h => by cases h) fnSeBoth_row_tie rfl ⟨rfl, rfl⟩ (by kernel_rfl) rfl plain (by kernel_rfl)
#print axioms card
end Go.Proofs.YthfgnhgijgjggaaDoor.fnSeBoth
