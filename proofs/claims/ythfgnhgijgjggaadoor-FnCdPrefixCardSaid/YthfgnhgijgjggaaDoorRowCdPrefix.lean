/- For every identifier of version 0, or of version 1 with a codec and a code below 2^63, with a digest of at most 2^12 bytes: impl.CdPrefix writes its version, its codec, its code and its digest's length as varints, and impl.CdPrefixRead reads these numbers out of them; others are let by. The tied card: the listed sentinels and cid.Undef are what their initialisers lay (the tie leans on the pruned copy of the project that the seat gives). No other condition. -/
import Derived.Test.YthfgnhgijgjggaaDoorCards
import Derived.Test.YthfgnhgijgjggaaDoorTie
import Derived.Test.YthfgnhgijgjggaaDoorPfD
import Derived.Test.YthfgnhgijgjggaaDoorVars
import Derived.ProofKit
import Derived.LaidMore
import Derived.OpenShut
import Derived.Stop.Joined
import Derived.ShutString
import Derived.Test.YthfgnhgijgjggaaDoorUndef
import Derived.Test.YthfgnhgijgjggaaDoorOpenCid
import Derived.Test.YthfgnhgijgjggaaDoorSents
namespace Go.Proofs.YthfgnhgijgjggaaDoor.fnCdPrefix
open Go.ChangeShapes Go.WideShapes Go.ChangeAt Go.RowKit
open Go.ChangeMaps (open_string shut_string)

theorem own : ownKnob Tryd.prog.godebug = none := by kernel_rfl
theorem door_met (os : Os) (args : Array Value) : laidMetH Tryd.prog Rows.fnCdPrefixRow.laid ((World.doorLaid Tryd.prog 420 os).forCall (fun _ _ => 0) ⟨#[], args, []⟩).memory :=
  laidMetH_of_parts3 (fuel := 8) (laidMet_of_run' 8 (by kernel_rfl) (by kernel_rfl)) (by kernel_rfl) (by kernel_rfl)

set_option maxRecDepth 100000 in
theorem lifted (os : Os) (started : os.Started) (H : Type) (enc : TypeId × Value → H) :
    ReturnsInHanded {} Tryd.checked os 5 .any (fun w args => (Rows.fnCdPrefixSpec.pre enc Tryd.prog Tryd.f5 [] false w args ∧ laidMetH Tryd.prog Rows.fnCdPrefixRow.laid w) ∧ sizedMet enc Tryd.prog Tryd.f5 (OpenSpec.ofChange Rows.fnCdPrefixSpec) false w args)
      (Rows.fnCdPrefixSpec.post enc Tryd.prog Tryd.f5 false true false false) := by
  refine returnsInHanded_of_change_and (C := Tryd.checked) (X := fun w _ => laidMetH Tryd.prog Rows.fnCdPrefixRow.laid w) (fun _ _ _ hh h => h.of_heap hh) own started (by kernel_rfl) Tryd.func5
    (ChangeSpec.witness_shaped (enc := enc) (C := Tryd.checked) (os := os) (X := fun w _ => laidMetH Tryd.prog Rows.fnCdPrefixRow.laid w) false (World.doorLaid Tryd.prog 420 os) #[.agg #[.int .u64 0, .int .u64 0, .int .u64 0, .string ByteArray.empty]] 8 rfl (World.shaped_of_RefB (by kernel_rfl) (by kernel_rfl)) (by kernel_rfl) (by kernel_rfl) (by kernel_rfl) (door_met os _)) ?_
  intro W base args ds gs before hval0 hW _ _ hL _
  have hval : ∀ (j : Nat) t v, Tryd.f5.params[j]? = some t → args[j]? = some v → Value.okWide Tryd.prog W .any base t v := hval0
  have hW' := hW
  obtain ⟨p, q, hA0, hV, rfl, hfz, hnd⟩ := hW
  have hA : DataW.TrodAll enc Tryd.prog W 0 (fun _ => true) true Tryd.f5.params.toList args.toList ds p := hA0
  rw [Tryd.params5] at hA hval
  obtain ⟨v0, vs0, d0, ds0, p0, q0, hargs, rfl, rfl, h0, r0⟩ := trodAll_cons hA
  obtain ⟨rfl, rfl, rfl⟩ := trodAll_nil r0
  obtain rfl : args = #[v0] := by cases args; simp_all
  obtain ⟨rfl, rfl⟩ := trodVars_none hV
  obtain ⟨a0, b0, c0, s0, rfl, rfl, rfl, wa0, wb0, wc0, ws0⟩ := open_cid (hval 0 26 v0 rfl rfl) h0
  clear hA0 hval0
  rw [MakeChecks.laidMetH_plain _ _ _ (by kernel_rfl)] at hL
  obtain ⟨x0, g0, s0', k0, l0⟩ := sent_err hL gEOF gEOFT
  obtain ⟨x1, g1, s1', k1, l1⟩ := sent_err hL.tail gUnexp gUnexpT
  obtain ⟨x2, g2⟩ := sent_cell hL.tail.tail gOver gOverT
  obtain ⟨x3, g3⟩ := sent_cell hL.tail.tail.tail gUnder gUnderT
  obtain ⟨x4, g4⟩ := sent_cell hL.tail.tail.tail.tail gNotMin gNotMinT
  obtain ⟨x5, g5⟩ := sent_cell hL.tail.tail.tail.tail.tail gShort gShortT
  have g6 := undef_cell hL.tail.tail.tail.tail.tail.tail.tail.tail gUndef gUndefT
  have qn0 := bounds_u64 wa0
  obtain ⟨n0, rfl⟩ := Int.eq_ofNat_of_zero_le qn0.1
  have qn1 := bounds_u64 wb0
  obtain ⟨n1, rfl⟩ := Int.eq_ofNat_of_zero_le qn1.1
  have qn2 := bounds_u64 wc0
  obtain ⟨n2, rfl⟩ := Int.eq_ofNat_of_zero_le qn2.1
  refine (law_CdPrefix ⟨n0, n1, n2, s0.data.toList⟩ s0 rfl W ⟨⟨⟨⟨_, ⟨_, g2⟩, ⟨_, g4⟩, ⟨_, g3⟩⟩⟩, ⟨_, _, g5⟩⟩, g6⟩ x0 x1 _ _ _ _ ⟨g0, g1, g2, block_of_cell g2, g4, block_of_cell g4⟩).mono fun e W' ⟨he, bel⟩ => ?_
  subst he
  exact ⟨_, rfl, _, _, _, [], _, [], hW', trodAll_mk1 (shut_bool Tryd.underlying4 _), trodAll_cons_mk (shut_cid wa0 wb0 wc0 ws0) trodAll_mk0, rfl, bel.frame _, fun h => by cases h⟩

theorem said : Rows.FnCdPrefixSaid :=
  OpenClaim.holds_of_wide 5 Tryd.f5 rfl rfl rfl rfl rfl rfl rfl ⟨rfl, rfl, rfl, rfl, rfl⟩ rfl rfl rfl rfl rfl (by kernel_rfl) Tryd.func5 (by kernel_rfl)
    (of_decide_eq_true (by kernel_rfl)) (by unfold Func.isWrapper; first | (rw [if_pos (by decide +kernel)]; kernel_rfl) | (rw [if_neg (by decide +kernel)]; exact ⟨rfl, rfl⟩))
    (fun os started H enc _ => lifted os started H enc)

theorem plain (f : FuncId) (fn : Func) (hf : Tryd.pinned.checked.prog.funcNamed "pub-droshky/laws.FnCdPrefix" = some f) (hfn : Tryd.pinned.checked.prog.funcs[f]? = some fn) :
    true = Tryd.pinned.checked.prog.looks [] ∧ ∀ (j : Nat) t, fn.params[j]? = some t → Tryd.pinned.checked.prog.wantsStandIn t = false := by
  obtain rfl : f = 5 := Option.some.inj ((show Tryd.prog.funcNamed "pub-droshky/laws.FnCdPrefix" = some 5 by kernel_rfl).symm.trans hf) |>.symm
  obtain rfl : fn = Tryd.f5 := (Option.some.inj (Tryd.func5.symm.trans hfn)).symm
  refine ⟨by kernel_rfl, fun j t ht => ?_⟩
  rw [Tryd.params5] at ht
  have hm : t ∈ [26] := by simpa using Array.mem_of_getElem? ht
  have hall : ([26].all fun u => !Tryd.prog.wantsStandIn u) = true := by kernel_rfl
  exact (show Tryd.prog.wantsStandIn t = false by simpa using List.all_eq_true.1 hall t hm)

theorem card : Rows.FnCdPrefixCardSaid :=
  Claim7.holds_tied_plain_at .later [] _ _ _ _ said (fun _ h => by cases h) (by kernel_rfl) (fun _ h => by cases h) fnCdPrefix_row_tie rfl ⟨rfl, rfl⟩ (by kernel_rfl) rfl plain (by kernel_rfl)
#print axioms card
end Go.Proofs.YthfgnhgijgjggaaDoor.fnCdPrefix
