/- For every text of at most 2^14 bytes and every limit of at most 2^25: impl.SeHead reads the beginning of a section (length, identifier) as spec.ReadBlockHead says; what that leaves out, and others, are let by; besides, laws.ldOne is true. The tied card: the listed sentinels are what their initialisers lay (the tie leans on the pruned copy of the project that the seat gives). No other condition. -/
import Derived.Test.YthfgnhgijgjggaaDoorCards
import Derived.Test.YthfgnhgijgjggaaDoorTie
import Derived.Test.YthfgnhgijgjggaaDoorJSh11
import Derived.ProofKit
import Derived.LaidMore
import Derived.OpenShut
import Derived.Stop.Joined
import Derived.ShutString
namespace Go.Proofs.YthfgnhgijgjggaaDoor.fnSeHead
open Go.ChangeShapes Go.WideShapes Go.ChangeAt Go.RowKit
open Go.ChangeMaps (open_string shut_string)

theorem own : ownKnob Tryd.prog.godebug = none := by kernel_rfl
theorem door_met (os : Os) (args : Array Value) : laidMetH Tryd.prog Rows.fnSeHeadRow.laid ((World.doorLaid Tryd.prog 420 os).forCall (fun _ _ => 0) ⟨#[], args, []⟩).memory :=
  laidMetH_of_parts3 (fuel := 8) (laidMet_of_run' 8 (by kernel_rfl) (by kernel_rfl)) (by kernel_rfl) (by kernel_rfl)

set_option maxRecDepth 100000 in
theorem lifted (os : Os) (started : os.Started) (H : Type) (enc : TypeId × Value → H) :
    ReturnsInHanded {} Tryd.checked os 8 .any (fun w args => (Rows.fnSeHeadSpec.pre enc Tryd.prog Tryd.f8 [] false w args ∧ laidMetH Tryd.prog Rows.fnSeHeadRow.laid w) ∧ sizedMet enc Tryd.prog Tryd.f8 (OpenSpec.ofChange Rows.fnSeHeadSpec) false w args)
      (Rows.fnSeHeadSpec.post enc Tryd.prog Tryd.f8 false true false false) := by
  refine returnsInHanded_of_change_and (C := Tryd.checked) (X := fun w _ => laidMetH Tryd.prog Rows.fnSeHeadRow.laid w) (fun _ _ _ hh h => h.of_heap hh) own started (by kernel_rfl) Tryd.func8
    (ChangeSpec.witness_shaped (enc := enc) (C := Tryd.checked) (os := os) (X := fun w _ => laidMetH Tryd.prog Rows.fnSeHeadRow.laid w) false (World.doorLaid Tryd.prog 420 os) #[.string ByteArray.empty, .bool false, .int .u64 0] 8 rfl (World.shaped_of_RefB (by kernel_rfl) (by kernel_rfl)) (by kernel_rfl) (by kernel_rfl) (by kernel_rfl) (door_met os _)) ?_
  intro W base args ds gs before hval0 hW _ _ hL _
  have hval : ∀ (j : Nat) t v, Tryd.f8.params[j]? = some t → args[j]? = some v → Value.okWide Tryd.prog W .any base t v := hval0
  have hW' := hW
  obtain ⟨p, q, hA0, hV, rfl, hfz, hnd⟩ := hW
  have hA : DataW.TrodAll enc Tryd.prog W 0 (fun _ => true) true Tryd.f8.params.toList args.toList ds p := hA0
  rw [Tryd.params8] at hA hval
  obtain ⟨v0, vs0, d0, ds0, p0, q0, hargs, rfl, rfl, h0, r0⟩ := trodAll_cons hA
  obtain ⟨v1, vs1, d1, ds1, p1, q1, rfl, rfl, rfl, h1, r1⟩ := trodAll_cons r0
  obtain ⟨v2, vs2, d2, ds2, p2, q2, rfl, rfl, rfl, h2, r2⟩ := trodAll_cons r1
  obtain ⟨rfl, rfl, rfl⟩ := trodAll_nil r2
  obtain rfl : args = #[v0, v1, v2] := by cases args; simp_all
  obtain ⟨rfl, rfl⟩ := trodVars_none hV
  obtain ⟨a0, rfl, rfl, rfl, w0⟩ := open_string Tryd.underlying9 (hval 0 9 v0 rfl rfl) h0
  obtain ⟨a1, rfl, rfl, rfl⟩ := open_bool Tryd.underlying4 (hval 1 4 v1 rfl rfl) h1
  obtain ⟨a2, rfl, rfl, rfl, w2⟩ := open_int Tryd.underlying23 (hval 2 23 v2 rfl rfl) h2
  clear hA0 hval0
  rw [MakeChecks.laidMetH_plain _ _ _ (by kernel_rfl)] at hL
  obtain ⟨x0, g0, s0', k0, l0⟩ := sent_err hL.tail gEOF gEOFT
  obtain ⟨x1, g1, s1', k1, l1⟩ := sent_err hL.tail.tail gUnexp gUnexpT
  obtain ⟨x2, g2, s2', k2, l2⟩ := sent_err hL.tail.tail.tail gOver gOverT
  obtain ⟨x3, g3⟩ := sent_cell hL.tail.tail.tail.tail gUnder gUnderT
  obtain ⟨x4, g4, s4', k4, l4⟩ := sent_err hL.tail.tail.tail.tail.tail gNotMin gNotMinT
  obtain ⟨x5, g5⟩ := sent_cell hL.tail.tail.tail.tail.tail.tail gShort gShortT
  have g6 := undef_cell hL.tail.tail.tail.tail.tail.tail.tail.tail.tail gUndef gUndefT
  obtain ⟨x7, g7, s7', k7, l7⟩ := sent_err (g := 6) hL.tail.tail.tail.tail.tail.tail.tail.tail.tail.tail (by kernel_rfl) (by kernel_rfl)
  have b2 := bounds_u64 w2
  obtain ⟨n2, rfl⟩ := Int.eq_ofNat_of_zero_le b2.1
  refine (law_SeHead a0 a1 n2 W ⟨⟨⟨⟨_, ⟨_, g2.cell⟩, ⟨_, g4.cell⟩, ⟨_, g3⟩⟩⟩, ⟨_, _, g5⟩⟩, g6⟩ x0 x1 x2 x4 x7 ⟨g0, g1, g2, g4, sent_ne k1 k0 l1 l0 (by decide), sent_ne k2 k0 l2 l0 (by decide), sent_ne k4 k0 l4 l0 (by decide)⟩ g7 (sent_ne k7 k0 l7 l0 (by decide))).mono fun e W' ⟨he, bel⟩ => ?_
  subst he
  exact ⟨_, rfl, _, _, _, [], _, [], hW', trodAll_mk1 (shut_bool Tryd.underlying4 _), trodAll_cons_mk (shut_string Tryd.underlying9 w0) (trodAll_cons_mk (shut_bool Tryd.underlying4 a1) (trodAll_cons_mk (shut_int Tryd.underlying23 w2) trodAll_mk0)), rfl, bel.frame _, fun h => by cases h⟩

theorem said : Rows.FnSeHeadSaid :=
  OpenClaim.holds_of_wide 8 Tryd.f8 rfl rfl rfl rfl rfl rfl rfl ⟨rfl, rfl, rfl, rfl, rfl⟩ rfl rfl rfl rfl rfl (by kernel_rfl) Tryd.func8 (by kernel_rfl)
    (of_decide_eq_true (by kernel_rfl)) (by unfold Func.isWrapper; first | (rw [if_pos (by decide +kernel)]; kernel_rfl) | (rw [if_neg (by decide +kernel)]; exact ⟨rfl, rfl⟩))
    (fun os started H enc _ => lifted os started H enc)

theorem plain (f : FuncId) (fn : Func) (hf : Tryd.pinned.checked.prog.funcNamed "pub-droshky/laws.FnSeHead" = some f) (hfn : Tryd.pinned.checked.prog.funcs[f]? = some fn) :
    true = Tryd.pinned.checked.prog.looks [] ∧ ∀ (j : Nat) t, fn.params[j]? = some t → Tryd.pinned.checked.prog.wantsStandIn t = false := by
  obtain rfl : f = 8 := Option.some.inj ((show Tryd.prog.funcNamed "pub-droshky/laws.FnSeHead" = some 8 by kernel_rfl).symm.trans hf) |>.symm
  obtain rfl : fn = Tryd.f8 := (Option.some.inj (Tryd.func8.symm.trans hfn)).symm
  refine ⟨by kernel_rfl, fun j t ht => ?_⟩
  rw [Tryd.params8] at ht
  have hm : t ∈ [9, 4, 23] := by simpa using Array.mem_of_getElem? ht
  have hall : ([9, 4, 23].all fun u => !Tryd.prog.wantsStandIn u) = true := by kernel_rfl
  exact (show Tryd.prog.wantsStandIn t = false by simpa using List.all_eq_true.1 hall t hm)

theorem card : Rows.FnSeHeadCardSaid :=
  Claim7.holds_tied_plain_at .later [] _ _ _ _ said (fun _ h => by cases h) (by kernel_rfl) (fun _ h => by cases h) fnSeHead_row_tie rfl ⟨rfl, rfl⟩ (by kernel_rfl) rfl plain (by kernel_rfl)
#print axioms card
end Go.Proofs.YthfgnhgijgjggaaDoor.fnSeHead
