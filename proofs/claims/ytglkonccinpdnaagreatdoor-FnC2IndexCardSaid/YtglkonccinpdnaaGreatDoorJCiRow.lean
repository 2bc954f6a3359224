/- For every header of version 2 (five numbers of 64 bits) and every string of at most 2^12 bytes: of the file of the pragma, the header and the string impl.RdIndex reads all from where the header says that the index begins, and that there is one, or, if that is 0, that there is none; headers whose data begin ahead of byte 51 or have no byte, whose numbers are 2^63 or more, or whose index begins behind the file, and longer strings are let by; besides, of the header of data of one byte and two bytes behind it there is an index. The tied card: the listed variables are what their initialisers lay (the tie leans on the pruned copy of the project that the seat gives). No other condition. -/
import Derived.Test.YtglkonccinpdnaaGreatDoorCards
import Derived.Test.YtglkonccinpdnaaGreatDoorTie
import Derived.Test.YtglkonccinpdnaaGreatDoorJCi9
import Derived.ProofKit
import Derived.LaidMore
import Derived.OpenShut
import Derived.Stop.Joined
import Derived.ShutString
import Derived.Test.YtglkonccinpdnaaGreatDoorJCi10
namespace Go.Proofs.YtglkonccinpdnaaGreatDoor.fnC2Index
open Go.ChangeShapes Go.WideShapes Go.ChangeAt Go.RowKit
open Go.ChangeMaps (open_string shut_string)

theorem own : ownKnob Tryz.prog.godebug = none := by kernel_rfl
theorem door_met (os : Os) (args : Array Value) : laidMetH Tryz.prog Rows.fnC2IndexRow.laid ((World.doorLaid Tryz.prog 420 os).forCall (fun _ _ => 0) ⟨#[], args, []⟩).memory :=
  laidMetH_of_parts3 (fuel := 8) (laidMet_of_run' 8 (by kernel_rfl) (by kernel_rfl)) (by kernel_rfl) (by kernel_rfl)

set_option maxRecDepth 100000 in
theorem lifted (os : Os) (started : os.Started) (H : Type) (enc : TypeId × Value → H) :
    ReturnsInHanded {} Tryz.checked os 3 .any (fun w args => (Rows.fnC2IndexSpec.pre enc Tryz.prog Tryz.f3 [] false w args ∧ laidMetH Tryz.prog Rows.fnC2IndexRow.laid w) ∧ sizedMet enc Tryz.prog Tryz.f3 (OpenSpec.ofChange Rows.fnC2IndexSpec) false w args)
      (Rows.fnC2IndexSpec.post enc Tryz.prog Tryz.f3 false true false false) := by
  refine returnsInHanded_of_change_and (C := Tryz.checked) (X := fun w _ => laidMetH Tryz.prog Rows.fnC2IndexRow.laid w) (fun _ _ _ hh h => h.of_heap hh) own started (by kernel_rfl) Tryz.func3
    (ChangeSpec.witness_shaped (enc := enc) (C := Tryz.checked) (os := os) (X := fun w _ => laidMetH Tryz.prog Rows.fnC2IndexRow.laid w) false (World.doorLaid Tryz.prog 420 os) #[.agg #[.int .u64 0, .int .u64 0, .int .u64 0, .int .u64 0, .int .u64 0], .string ByteArray.empty] 8 rfl (World.shaped_of_RefB (by kernel_rfl) (by kernel_rfl)) (by kernel_rfl) (by kernel_rfl) (by kernel_rfl) (door_met os _)) ?_
  intro W base args ds gs before hval0 hW _ _ hL _
  have hval : ∀ (j : Nat) t v, Tryz.f3.params[j]? = some t → args[j]? = some v → Value.okWide Tryz.prog W .any base t v := hval0
  have hW' := hW
  obtain ⟨p, q, hA0, hV, rfl, hfz, hnd⟩ := hW
  have hA : DataW.TrodAll enc Tryz.prog W 0 (fun _ => true) true Tryz.f3.params.toList args.toList ds p := hA0
  rw [Tryz.params3] at hA hval
  obtain ⟨v0, vs0, d0, ds0, p0, q0, hargs, rfl, rfl, h0, r0⟩ := trodAll_cons hA
  obtain ⟨v1, vs1, d1, ds1, p1, q1, rfl, rfl, rfl, h1, r1⟩ := trodAll_cons r0
  obtain ⟨rfl, rfl, rfl⟩ := trodAll_nil r1
  obtain rfl : args = #[v0, v1] := by cases args; simp_all
  obtain ⟨rfl, rfl⟩ := trodVars_none hV
  obtain ⟨a0, b0, c0, e0, f0, rfl, rfl, rfl, wa0, wb0, wc0, we0, wf0⟩ := open_hd (hval 0 24 v0 rfl rfl) h0
  obtain ⟨a1, rfl, rfl, rfl, w1⟩ := open_string Tryz.underlying9 (hval 1 9 v1 rfl rfl) h1
  clear hA0 hval0
  rw [MakeChecks.laidMetH_plain _ _ _ (by kernel_rfl)] at hL
  obtain ⟨x0, g0, s0, k0, l0⟩ := sent_err hL.tail gEOF gEOFT
  obtain ⟨x1, g1, s1, k1, l1⟩ := sent_err hL.tail.tail gUnexp gUnexpT
  obtain ⟨x2, g2⟩ := sent_cell hL.tail.tail.tail.tail.tail.tail.tail.tail.tail gOver gOverT
  obtain ⟨x3, g3⟩ := sent_cell hL.tail.tail.tail.tail.tail.tail.tail.tail.tail.tail.tail gNotMin gNotMinT
  have q0 := bounds_u64 wa0
  have q1 := bounds_u64 wb0
  have q2 := bounds_u64 wc0
  have q3 := bounds_u64 we0
  have q4 := bounds_u64 wf0
  obtain ⟨n0, rfl⟩ := Int.eq_ofNat_of_zero_le q0.1
  obtain ⟨n1, rfl⟩ := Int.eq_ofNat_of_zero_le q1.1
  obtain ⟨n2, rfl⟩ := Int.eq_ofNat_of_zero_le q2.1
  obtain ⟨n3, rfl⟩ := Int.eq_ofNat_of_zero_le q3.1
  obtain ⟨n4, rfl⟩ := Int.eq_ofNat_of_zero_le q4.1
  refine (law_C2Index n0 n1 n2 n3 n4 (by omega) (by omega) (by omega) (by omega) (by omega) a1 (by unfold maxLen at w1; omega) W x0 x1 _ _ _ _ ⟨g0, g1, g2, block_of_cell g2, g3, block_of_cell g3⟩).mono fun e W' ⟨he, bel⟩ => ?_
  subst he
  exact ⟨_, rfl, _, _, _, [], _, [], hW', trodAll_mk1 (shut_bool Tryz.underlying4 _), trodAll_cons_mk (shut_hd wa0 wb0 wc0 we0 wf0) (trodAll_cons_mk (shut_string Tryz.underlying9 w1) trodAll_mk0), rfl, bel.frame _, fun h => by cases h⟩

theorem said : Rows.FnC2IndexSaid :=
  OpenClaim.holds_of_wide 3 Tryz.f3 rfl rfl rfl rfl rfl rfl rfl ⟨rfl, rfl, rfl, rfl, rfl⟩ rfl rfl rfl rfl rfl (by kernel_rfl) Tryz.func3 (by kernel_rfl)
    (of_decide_eq_true (by kernel_rfl)) (by unfold Func.isWrapper; first | (rw [if_pos (by decide +kernel)]; kernel_rfl) | (rw [if_neg (by decide +kernel)]; exact ⟨rfl, rfl⟩))
    (fun os started H enc _ => lifted os started H enc)

theorem plain (f : FuncId) (fn : Func) (hf : Tryz.pinned.checked.prog.funcNamed "pub-droshky/laws.FnC2Index" = some f) (hfn : Tryz.pinned.checked.prog.funcs[f]? = some fn) :
    true = Tryz.pinned.checked.prog.looks [] ∧ ∀ (j : Nat) t, fn.params[j]? = some t → Tryz.pinned.checked.prog.wantsStandIn t = false := by
  obtain rfl : f = 3 := Option.some.inj ((show Tryz.prog.funcNamed "pub-droshky/laws.FnC2Index" = some 3 by kernel_rfl).symm.trans hf) |>.symm
  obtain rfl : fn = Tryz.f3 := (Option.some.inj (Tryz.func3.symm.trans hfn)).symm
  refine ⟨by kernel_rfl, fun j t ht => ?_⟩
  rw [Tryz.params3] at ht
  have hm : t ∈ [24, 9] := by simpa using Array.mem_of_getElem? ht
  have hall : ([24, 9].all fun u => !Tryz.prog.wantsStandIn u) = true := by kernel_rfl
  exact (show Tryz.prog.wantsStandIn t = false by simpa using List.all_eq_true.1 hall t hm)

theorem card : Rows.FnC2IndexCardSaid :=
  Claim7.holds_tied_plain_at .later [] _ _ _ _ said (fun _ h => by cases h) (by kernel_rfl) (fun _ h => by cases h) fnC2Index_row_tie rfl ⟨rfl, rfl⟩ (by kernel_rfl) rfl plain (by kernel_rfl)
#print axioms card
end Go.Proofs.YtglkonccinpdnaaGreatDoor.fnC2Index
