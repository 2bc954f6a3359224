/- For every identifier of version 0, or of version 1 with a codec and a code below 2^63, with a digest of at most 2^12 bytes, every place and every change but 0: its bytes are an identifier for impl.CdCast, it itself; with the byte at that place (modulo their number) changed they are none, or another one; others are let by. The tied card: the listed sentinels and cid.Undef are what their initialisers lay (the tie leans on the pruned copy of the project that the seat gives). No other condition. -/
import Derived.Test.YthldlpggconmcaaDoorRCards
import Derived.Test.YthldlpggconmcaaDoorRTie
import Derived.Test.YthldlpggconmcaaDoorRCdX
import Derived.Test.YthldlpggconmcaaDoorRVars
import Derived.ProofKit
import Derived.LaidMore
import Derived.OpenShut
import Derived.Stop.Joined
import Derived.ShutString
import Derived.Test.YthldlpggconmcaaDoorRUndef
import Derived.Test.YthldlpggconmcaaDoorROpenCid
namespace Go.Proofs.YthldlpggconmcaaDoorR.fnCdByte
open Go.ChangeShapes Go.WideShapes Go.ChangeAt Go.RowKit
open Go.ChangeMaps (open_string shut_string)

theorem own : ownKnob Tryd.prog.godebug = none := by kernel_rfl
theorem door_met (os : Os) (args : Array Value) : laidMetH Tryd.prog Rows.fnCdByteRow.laid ((World.doorLaid Tryd.prog 420 os).forCall (fun _ _ => 0) ⟨#[], args, []⟩).memory :=
  laidMetH_of_parts3 (fuel := 8) (laidMet_of_run' 8 (by kernel_rfl) (by kernel_rfl)) (by kernel_rfl) (by kernel_rfl)

set_option maxRecDepth 100000 in
theorem lifted (os : Os) (started : os.Started) (H : Type) (enc : TypeId × Value → H) :
    ReturnsInHanded {} Tryd.checked os 7 .any (fun w args => (Rows.fnCdByteSpec.pre enc Tryd.prog Tryd.f7 [] false w args ∧ laidMetH Tryd.prog Rows.fnCdByteRow.laid w) ∧ sizedMet enc Tryd.prog Tryd.f7 (OpenSpec.ofChange Rows.fnCdByteSpec) false w args)
      (Rows.fnCdByteSpec.post enc Tryd.prog Tryd.f7 false true false false) := by
  refine returnsInHanded_of_change_and (C := Tryd.checked) (X := fun w _ => laidMetH Tryd.prog Rows.fnCdByteRow.laid w) (fun _ _ _ hh h => h.of_heap hh) own started (by kernel_rfl) Tryd.func7
    (ChangeSpec.witness_shaped (enc := enc) (C := Tryd.checked) (os := os) (X := fun w _ => laidMetH Tryd.prog Rows.fnCdByteRow.laid w) false (World.doorLaid Tryd.prog 420 os) #[.agg #[.int .u64 0, .int .u64 0, .int .u64 0, .string ByteArray.empty], .int .u16 0, .int .u8 0] 8 rfl (World.shaped_of_RefB (by kernel_rfl) (by kernel_rfl)) (by kernel_rfl) (by kernel_rfl) (by kernel_rfl) (door_met os _)) ?_
  intro W base args ds gs before hval0 hW _ _ hL _
  have hval : ∀ (j : Nat) t v, Tryd.f7.params[j]? = some t → args[j]? = some v → Value.okWide Tryd.prog W .any base t v := hval0
  have hW' := hW
  obtain ⟨p, q, hA0, hV, rfl, hfz, hnd⟩ := hW
  have hA : DataW.TrodAll enc Tryd.prog W 0 (fun _ => true) true Tryd.f7.params.toList args.toList ds p := hA0
  rw [Tryd.params7] at hA hval
  obtain ⟨v0, vs0, d0, ds0, p0, q0, hargs, rfl, rfl, h0, r0⟩ := trodAll_cons hA
  obtain ⟨v1, vs1, d1, ds1, p1, q1, rfl, rfl, rfl, h1, r1⟩ := trodAll_cons r0
  obtain ⟨v2, vs2, d2, ds2, p2, q2, rfl, rfl, rfl, h2, r2⟩ := trodAll_cons r1
  obtain ⟨rfl, rfl, rfl⟩ := trodAll_nil r2
  obtain rfl : args = #[v0, v1, v2] := by cases args; simp_all
  obtain ⟨rfl, rfl⟩ := trodVars_none hV
  obtain ⟨a0, b0, c0, s0, rfl, rfl, rfl, wa0, wb0, wc0, ws0⟩ := open_cid (hval 0 26 v0 rfl rfl) h0
  obtain ⟨a1, rfl, rfl, rfl, w1⟩ := open_int Tryd.underlying39 (hval 1 39 v1 rfl rfl) h1
  obtain ⟨a2, rfl, rfl, rfl, w2⟩ := open_int Tryd.underlying5 (hval 2 5 v2 rfl rfl) h2
  clear hA0 hval0
  rw [MakeChecks.laidMetH_plain _ _ _ (by kernel_rfl)] at hL
  obtain ⟨x1, g1⟩ := sent_cell hL gOver gOverT
  obtain ⟨x3, g3⟩ := sent_cell hL.tail gUnder gUnderT
  obtain ⟨x2, g2⟩ := sent_cell hL.tail.tail gNotMin gNotMinT
  obtain ⟨x4, g4⟩ := sent_cell hL.tail.tail.tail gShort gShortT
  have g5 := undef_cell hL.tail.tail.tail.tail.tail.tail gUndef gUndefT
  have qn0 := bounds_u64 wa0
  obtain ⟨n0, rfl⟩ := Int.eq_ofNat_of_zero_le qn0.1
  have qn1 := bounds_u64 wb0
  obtain ⟨n1, rfl⟩ := Int.eq_ofNat_of_zero_le qn1.1
  have qn2 := bounds_u64 wc0
  obtain ⟨n2, rfl⟩ := Int.eq_ofNat_of_zero_le qn2.1
  have p1 := bounds_u16 w1
  obtain ⟨n3, rfl⟩ := Int.eq_ofNat_of_zero_le p1.1
  have p2 := bounds_u8 w2
  obtain ⟨n4, rfl⟩ := Int.eq_ofNat_of_zero_le p2.1
  refine (law_CdByte ⟨n0, n1, n2, s0.data.toList⟩ s0 n3 n4 rfl (by omega) (by omega) W ⟨⟨⟨⟨_, ⟨_, g1⟩, ⟨_, g2⟩, ⟨_, g3⟩⟩⟩, ⟨_, _, g4⟩⟩, g5⟩).mono fun e W' ⟨he, bel⟩ => ?_
  subst he
  exact ⟨_, rfl, _, _, _, [], _, [], hW', trodAll_mk1 (shut_bool Tryd.underlying4 _), trodAll_cons_mk (shut_cid wa0 wb0 wc0 ws0) (trodAll_cons_mk (shut_int Tryd.underlying39 w1) (trodAll_cons_mk (shut_int Tryd.underlying5 w2) trodAll_mk0)), rfl, bel.frame _, fun h => by cases h⟩

theorem said : Rows.FnCdByteSaid :=
  OpenClaim.holds_of_wide 7 Tryd.f7 rfl rfl rfl rfl rfl rfl rfl ⟨rfl, rfl, rfl, rfl, rfl⟩ rfl rfl rfl rfl rfl (by kernel_rfl) Tryd.func7 (by kernel_rfl)
    (of_decide_eq_true (by kernel_rfl)) (by unfold Func.isWrapper; first | (rw [if_pos (by decide +kernel)]; kernel_rfl) | (rw [if_neg (by decide +kernel)]; exact ⟨rfl, rfl⟩))
    (fun os started H enc _ => lifted os started H enc)

theorem plain (f : FuncId) (fn : Func) (hf : Tryd.pinned.checked.prog.funcNamed "pub-droshky/laws.FnCdByte" = some f) (hfn : Tryd.pinned.checked.prog.funcs[f]? = some fn) :
    true = Tryd.pinned.checked.prog.looks [] ∧ ∀ (j : Nat) t, fn.params[j]? = some t → Tryd.pinned.checked.prog.wantsStandIn t = false := by
  obtain rfl : f = 7 := Option.some.inj ((show Tryd.prog.funcNamed "pub-droshky/laws.FnCdByte" = some 7 by kernel_rfl).symm.trans hf) |>.symm
  obtain rfl : fn = Tryd.f7 := (Option.some.inj (Tryd.func7.symm.trans hfn)).symm
  refine ⟨by kernel_rfl, fun j t ht => ?_⟩
  rw [Tryd.params7] at ht
  have hm : t ∈ [26, 39, 5] := by simpa using Array.mem_of_getElem? ht
  have hall : ([26, 39, 5].all fun u => !Tryd.prog.wantsStandIn u) = true := by kernel_rfl
  exact (show Tryd.prog.wantsStandIn t = false by simpa using List.all_eq_true.1 hall t hm)

theorem card : Rows.FnCdByteCardSaid :=
  Claim7.holds_tied_plain_at .later [] _ _ _ _ said (fun _ h => by cases h) (by kernel_rfl) (fun _ h => by cases h) fnCdByte_row_tie rfl ⟨rfl, rfl⟩ (by kernel_rfl) rfl plain (by kernel_rfl)
#print axioms card
end Go.Proofs.YthldlpggconmcaaDoorR.fnCdByte
