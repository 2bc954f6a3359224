/- Contracts, joined (OpenCid OpenES RowIiHas). -/
import Derived.Test.YthfgnhgijgjggaaDoorProg
import Derived.ProofKit
import Derived.ChangeSame
import Derived.KernelRfl
import Derived.ChangeMaps
import Derived.ShutString
import Derived.Test.YthfgnhgijgjggaaDoorIiG
import Derived.Deep.Slices
import Derived.OpenShut
import Derived.Deep.SlicePairs
import Derived.Test.YthfgnhgijgjggaaDoorCards
import Derived.Test.YthfgnhgijgjggaaDoorTie
import Derived.Test.YthfgnhgijgjggaaDoorJIiP
import Derived.Test.YthfgnhgijgjggaaDoorVars
import Derived.LaidMore
import Derived.Stop.Joined
/- An identifier that comes in by value: its three numbers and its digest. -/
namespace Go.Proofs.YthfgnhgijgjggaaDoor
open Go.ChangeShapes Go.WideShapes Go.ChangeAt Go.RowKit

theorem cellsCid : Tryd.prog.cellsOf 26 = 4 := by kernel_rfl
theorem cellsU64c : Tryd.prog.cellsOf 23 = 1 := by kernel_rfl
theorem cellsStrc : Tryd.prog.cellsOf 9 = 1 := by kernel_rfl
theorem four {α : Type} {cs : Array α} (h : cs.size = 4) : ∃ c0 c1 c2 c3, cs = #[c0, c1, c2, c3] := by
  obtain ⟨l⟩ := cs
  match l, h with
  | [c0, c1, c2, c3], _ => exact ⟨c0, c1, c2, c3, rfl⟩

set_option maxRecDepth 100000 in
theorem open_cid {H : Type} {enc : TypeId × Value → H} {w : World} {base b0 : Nat} {spare : Nat → Bool} {held : Bool} {r : Reach} {v : Value} {d : DataW H} {ps : List MemPlace}
    (hval : Value.okWide Tryd.prog w r b0 26 v) (hd : DataW.Trod enc Tryd.prog w base spare held 26 v d ps) :
    ∃ (a b c : Int) (s : ByteArray), v = .agg #[.int .u64 a, .int .u64 b, .int .u64 c, .string s] ∧ d = .agg [.lit (.int .u64 a), .lit (.int .u64 b), .lit (.int .u64 c), .lit (.string s.data.toList)] ∧ ps = [] ∧
      (Lit.int .u64 a).wf = true ∧ (Lit.int .u64 b).wf = true ∧ (Lit.int .u64 c).wf = true ∧ s.size ≤ maxLen := by
  obtain ⟨cs, rfl, hsz⟩ := okWide_struct Tryd.underlying26 hval
  rw [cellsCid] at hsz
  obtain ⟨c0, c1, c2, c3, rfl⟩ := four hsz
  obtain ⟨fuel, hf⟩ := hd
  obtain ⟨xs, n, rfl, hx, _, hlen, hfs⟩ := DataW.trod_struct Tryd.underlying26 hf
  match xs, hlen with
  | [y0, y1, y2, y3], _ =>
  obtain ⟨a, e0, rfl, wa⟩ := DataW.trod_int Tryd.underlying23 (hfs 0 _ rfl)
  obtain ⟨b, e1, rfl, wb⟩ := DataW.trod_int Tryd.underlying23 (hfs 1 _ rfl)
  obtain ⟨c, e2, rfl, wc⟩ := DataW.trod_int Tryd.underlying23 (hfs 2 _ rfl)
  obtain ⟨e, e3, rfl, we⟩ := DataW.trod_string Tryd.underlying9 (hfs 3 _ rfl)
  simp [Value.cells, cellsU64c, cellsStrc] at e0 e1 e2 e3
  subst e0 e1 e2 e3
  simp only [Prod.mk.injEq] at hx
  obtain ⟨rfl, rfl⟩ := hx
  exact ⟨a, b, c, e, rfl, rfl, rfl, wa, wb, wc, we⟩

set_option maxRecDepth 100000 in
theorem shut_cid {H : Type} {enc : TypeId × Value → H} {w : World} {base : Nat} {spare : Nat → Bool} {held : Bool} {a b c : Int} {s : ByteArray} (wa : (Lit.int .u64 a).wf = true) (wb : (Lit.int .u64 b).wf = true) (wc : (Lit.int .u64 c).wf = true) (ws : s.size ≤ maxLen) :
    DataW.Trod enc Tryd.prog w base spare held 26 (.agg #[.int .u64 a, .int .u64 b, .int .u64 c, .string s]) (.agg [.lit (.int .u64 a), .lit (.int .u64 b), .lit (.int .u64 c), .lit (.string s.data.toList)]) [] := ⟨2, by
  have f0 : ∀ x : Int, (Lit.int .u64 x).wf = true → DataW.trod enc Tryd.prog w base spare held 1 23 [.int .u64 x] = some (.lit (.int .u64 x), []) := fun x hx => by simp [DataW.trod, Tryd.underlying23, hx]
  have f1 : DataW.trod enc Tryd.prog w base spare held 1 9 [.string s] = some (.lit (.string s.data.toList), []) := by simp [DataW.trod, Tryd.underlying9, ws]
  have := trod_struct_mk (enc := enc) (w := w) (base := base) (spare := spare) (held := held) (n := 1) (cs := [.int .u64 a, .int .u64 b, .int .u64 c, .string s]) (xs := [(.lit (.int .u64 a), []), (.lit (.int .u64 b), []), (.lit (.int .u64 c), []), (.lit (.string s.data.toList), [])]) Tryd.underlying26 (by simp [cellsCid])
    (by simp [cellsU64c, cellsStrc, f0 a wa, f0 b wb, f0 c wc, f1])
  simpa [Value.cells] using this⟩
end Go.Proofs.YthfgnhgijgjggaaDoor
/- A slice of entries that comes in. -/
namespace Go.Proofs.YthfgnhgijgjggaaDoor
open Go.ChangeShapes Go.WideShapes Go.ChangeAt Go.RowKit Go.Deep

theorem spot_none_es {w : World} {a : Addr} {v : Value} (h : w.cell? a = some v) : a = ⟨a.block, a.off, none⟩ := by
  unfold World.cell? at h
  obtain ⟨b, o, s⟩ := a
  cases s with
  | none => rfl
  | some x =>
    simp only at h
    split at h
    · simp at h
    · cases h
theorem addr_add_es {b o n : Nat} : (⟨b, o, none⟩ : Addr).add n = ⟨b, o + n, none⟩ := by
  by_cases h : n = 0 <;> simp [Addr.add, h]
theorem trod_places_lt {H : Type} {enc : TypeId × Value → H} {P : Program} {w : World} {base : Nat} {spare : Nat → Bool} {held : Bool} {t : TypeId} {v : Value} {d : DataW H} {ps : List MemPlace}
    (hd : DataW.Trod enc P w base spare held t v d ps) : ∀ x ∈ ps, x.block < w.heap.size := by
  obtain ⟨n, hn⟩ := hd
  exact DataW.trod_lt n _ _ _ hn
theorem laidOutE : laidOutB Tryd.prog = true := by kernel_rfl
theorem cellsEnt : Tryd.prog.cellsOf 32 = 5 := by kernel_rfl

set_option maxRecDepth 100000 in
theorem open_es {H : Type} {enc : TypeId × Value → H} {w : World} {base b0 : Nat} {spare : Nat → Bool} {held : Bool} {r : Reach} {v : Value} {d : DataW H} {ps : List MemPlace}
    (hval : Value.okWide Tryd.prog w r b0 28 v) (hd : DataW.Trod enc Tryd.prog w base spare held 28 v d ps) :
    ∃ xs : List EntD, ES w v xs ∧ xs.length ≤ maxLen := by
  obtain ⟨a0, len, cap, rfl⟩ := okWide_slice Tryd.underlying28 hval
  obtain ⟨fuel, hf⟩ := hd
  have hf2 : DataW.trod enc Tryd.prog w base spare held fuel 28 [.slice a0 len cap] = some (d, ps) := by simpa [Value.cells] using hf
  rcases Deep.open_slice Tryd.underlying28 hf2 with ⟨hcs, _⟩ | ⟨a, len', cap', m, n, D, Pl, hcs, _, hl, hm, hmm, _, hx⟩
  · simp only [List.cons.injEq, Value.slice.injEq, and_true] at hcs
    obtain ⟨rfl, rfl, rfl⟩ := hcs
    exact ⟨[], ⟨none, 0, rfl, by simp, fun h => by simp at h⟩, by simp⟩
  · simp only [List.cons.injEq, Value.slice.injEq, and_true] at hcs
    obtain ⟨rfl, rfl, rfl⟩ := hcs
    have hlm : len ≤ m := by rw [hmm]; split <;> omega
    have each : ∀ i, ∃ x : EntD, i < len → w.cell? (a.add (i * 5)) = some (.int .u64 x.cid.ver) ∧ w.cell? (a.add (i * 5 + 1)) = some (.int .u64 x.cid.codec) ∧ w.cell? (a.add (i * 5 + 2)) = some (.int .u64 x.cid.code) ∧ w.cell? (a.add (i * 5 + 3)) = some (.string ⟨x.cid.dig.toArray⟩) ∧ w.cell? (a.add (i * 5 + 4)) = some (.int .u64 x.off) := by
      intro i
      by_cases hi : i < len
      · obtain ⟨cs', h1, h2⟩ := hx i (by omega)
        rw [cellsEnt] at h1
        obtain ⟨_, hlen, hcell⟩ := World.cells?_some h1
        obtain ⟨ys, k0, _, _, _, hyl, hgs⟩ := DataW.trod_struct Tryd.underlying32 h2
        match ys, hyl, cs', hlen with
        | [z0, z1], _, [v0, v1, v2, v3, v4], _ =>
          have hc0 := hgs 0 _ rfl
          obtain ⟨f, e4, rfl, w4⟩ := DataW.trod_int Tryd.underlying23 (hgs 1 _ rfl)
          obtain ⟨xs, k, _, hxy, _, hxl, hfs⟩ := DataW.trod_struct Tryd.underlying26 hc0
          match xs, hxl with
          | [y0, y1, y2, y3], _ =>
          obtain ⟨p, e0, rfl, w0⟩ := DataW.trod_int Tryd.underlying23 (hfs 0 _ rfl)
          obtain ⟨q, e1, rfl, w1⟩ := DataW.trod_int Tryd.underlying23 (hfs 1 _ rfl)
          obtain ⟨s, e2, rfl, w2⟩ := DataW.trod_int Tryd.underlying23 (hfs 2 _ rfl)
          obtain ⟨g, e3, rfl, w3⟩ := DataW.trod_string Tryd.underlying9 (hfs 3 _ rfl)
          simp [cellsU64c, cellsStrc, cellsCid] at e0 e1 e2 e3 e4
          subst e0 e1 e2 e3 e4
          have b0' := bounds_u64 w0
          have b1' := bounds_u64 w1
          have b2' := bounds_u64 w2
          have b4' := bounds_u64 w4
          obtain ⟨p', rfl⟩ := Int.eq_ofNat_of_zero_le b0'.1
          obtain ⟨q', rfl⟩ := Int.eq_ofNat_of_zero_le b1'.1
          obtain ⟨s', rfl⟩ := Int.eq_ofNat_of_zero_le b2'.1
          obtain ⟨f', rfl⟩ := Int.eq_ofNat_of_zero_le b4'.1
          have g0 := hcell 0 (by omega)
          have g1 := hcell 1 (by omega)
          have g2 := hcell 2 (by omega)
          have g3 := hcell 3 (by omega)
          have g4 := hcell 4 (by omega)
          rw [add_add] at g0 g1 g2 g3 g4
          refine ⟨⟨⟨p', q', s', g.data.toList⟩, f'⟩, fun _ => ⟨by simpa using g0, by simpa using g1, by simpa using g2, ?_, by simpa using g4⟩⟩
          have := ba_mk g
          rw [show (⟨(⟨⟨p', q', s', g.data.toList⟩, f'⟩ : EntD).cid.dig.toArray⟩ : ByteArray) = g from this]
          simpa using g3
      · exact ⟨⟨⟨0, 0, 0, []⟩, 0⟩, fun h => absurd h hi⟩
    obtain ⟨q, hq⟩ := Classical.axiomOfChoice each
    have hlen : ((List.range len).map q).length = len := by simp
    refine ⟨(List.range len).map q, ⟨some a, cap, by rw [hlen], by rw [hlen]; exact hl, fun hpos => ?_⟩, by rw [hlen]; omega⟩
    rw [hlen] at hpos
    have h0 := (hq 0 hpos).1
    have e0 : a.add (0 * 5) = a := by simp [Addr.add]
    rw [e0] at h0
    have ea := spot_none_es h0
    refine ⟨a.block, a.off, by rw [← ea], fun j x hj => ?_⟩
    have hjl : j < len := by
      rcases Nat.lt_or_ge j len with h | h
      · exact h
      · rw [List.getElem?_eq_none (by rw [hlen]; exact h)] at hj; cases hj
    have hx : x = q j := by
      rw [List.getElem?_map, List.getElem?_range hjl] at hj
      simpa using hj.symm
    subst hx
    have h4 := hq j hjl
    rw [ea, addr_add_es, addr_add_es, addr_add_es, addr_add_es, addr_add_es] at h4
    exact h4
end Go.Proofs.YthfgnhgijgjggaaDoor
/- For every list of at most 60 entries and every identifier (tidy identifiers with digests of 1 to 200 bytes): impl.IiHas tells exactly whether the identifier is in the list; its second answer is true where an entry has its multihash, and true only where some entry has its digest; with the identifier put besides, both are true; others are let by. The tied card: the listed variables are what their initialisers lay (the tie leans on the pruned copy of the project that the seat gives). No other condition. -/
namespace Go.Proofs.YthfgnhgijgjggaaDoor.fnIiHas
open Go.ChangeShapes Go.WideShapes Go.ChangeAt Go.RowKit
open Go.ChangeMaps (open_string shut_string)

theorem own : ownKnob Tryd.prog.godebug = none := by kernel_rfl
theorem door_met (os : Os) (args : Array Value) : laidMetH Tryd.prog Rows.fnIiHasRow.laid ((World.doorLaid Tryd.prog 420 os).forCall (fun _ _ => 0) ⟨#[], args, []⟩).memory :=
  laidMetH_of_parts3 (fuel := 8) (laidMet_of_run' 8 (by kernel_rfl) (by kernel_rfl)) (by kernel_rfl) (by kernel_rfl)

set_option maxRecDepth 100000 in
theorem lifted (os : Os) (started : os.Started) (H : Type) (enc : TypeId × Value → H) :
    ReturnsInHanded {} Tryd.checked os 4 .any (fun w args => (Rows.fnIiHasSpec.pre enc Tryd.prog Tryd.f4 [] false w args ∧ laidMetH Tryd.prog Rows.fnIiHasRow.laid w) ∧ sizedMet enc Tryd.prog Tryd.f4 (OpenSpec.ofChange Rows.fnIiHasSpec) false w args)
      (Rows.fnIiHasSpec.post enc Tryd.prog Tryd.f4 false true false false) := by
  refine returnsInHanded_of_change_and (C := Tryd.checked) (X := fun w _ => laidMetH Tryd.prog Rows.fnIiHasRow.laid w) (fun _ _ _ hh h => h.of_heap hh) own started (by kernel_rfl) Tryd.func4
    (ChangeSpec.witness_shaped (enc := enc) (C := Tryd.checked) (os := os) (X := fun w _ => laidMetH Tryd.prog Rows.fnIiHasRow.laid w) false (World.doorLaid Tryd.prog 420 os) #[.slice none 0 0, .agg #[.int .u64 0, .int .u64 0, .int .u64 0, .string ByteArray.empty]] 8 rfl (World.shaped_of_RefB (by kernel_rfl) (by kernel_rfl)) (by kernel_rfl) (by kernel_rfl) (by kernel_rfl) (door_met os _)) ?_
  intro W base args ds gs before hval0 hW _ _ hL _
  have hval : ∀ (j : Nat) t v, Tryd.f4.params[j]? = some t → args[j]? = some v → Value.okWide Tryd.prog W .any base t v := hval0
  have hW' := hW
  obtain ⟨p, q, hA0, hV, rfl, hfz, hnd⟩ := hW
  have hA : DataW.TrodAll enc Tryd.prog W 0 (fun _ => true) true Tryd.f4.params.toList args.toList ds p := hA0
  rw [Tryd.params4] at hA hval
  obtain ⟨v0, vs0, d0, ds0, p0, q0, hargs, rfl, rfl, h0, r0⟩ := trodAll_cons hA
  obtain ⟨v1, vs1, d1, ds1, p1, q1, rfl, rfl, rfl, h1, r1⟩ := trodAll_cons r0
  obtain ⟨rfl, rfl, rfl⟩ := trodAll_nil r1
  obtain rfl : args = #[v0, v1] := by cases args; simp_all
  obtain ⟨rfl, rfl⟩ := trodVars_none hV
  have hk0 := h0
  have hlt0 := trod_places_lt h0
  obtain ⟨es0, hes0, hln0⟩ := open_es (hval 0 28 v0 rfl rfl) h0
  obtain ⟨a1, b1, c1, s1, rfl, rfl, rfl, wa1, wb1, wc1, ws1⟩ := open_cid (hval 1 26 v1 rfl rfl) h1
  clear hA0 hval0
  rw [MakeChecks.laidMetH_plain _ _ _ (by kernel_rfl)] at hL
  obtain ⟨x1, g1⟩ := sent_cell hL.tail.tail gOver gOverT
  obtain ⟨x3, g3⟩ := sent_cell hL.tail.tail.tail gUnder gUnderT
  obtain ⟨x2, g2⟩ := sent_cell hL.tail.tail.tail.tail gNotMin gNotMinT
  have q0 := bounds_u64 wa1
  have q1 := bounds_u64 wb1
  have q2 := bounds_u64 wc1
  obtain ⟨n0, rfl⟩ := Int.eq_ofNat_of_zero_le q0.1
  obtain ⟨n1, rfl⟩ := Int.eq_ofNat_of_zero_le q1.1
  obtain ⟨n2, rfl⟩ := Int.eq_ofNat_of_zero_le q2.1
  obtain ⟨dg, rfl⟩ : ∃ l : List UInt8, s1 = ⟨l.toArray⟩ := ⟨s1.data.toList, (ba_mk s1).symm⟩
  refine (law_IiHas v0 es0 ⟨n0, n1, n2, dg⟩ W hes0 (by unfold maxLen at hln0; omega) ⟨⟨_, ⟨_, g1⟩, ⟨_, g2⟩, ⟨_, g3⟩⟩⟩).mono fun e W' ⟨he, bel⟩ => ?_
  subst he
  exact ⟨_, rfl, _, _, _, [], _, [], hW', trodAll_mk1 (shut_bool Tryd.underlying4 _), trodAll_cons_mk (Below.trod laidOutE (by kernel_rfl) (of_decide_eq_true (by kernel_rfl)) hk0 bel hlt0) (trodAll_cons_mk (shut_cid wa1 wb1 wc1 ws1) trodAll_mk0), rfl, bel.frame _, fun h => by cases h⟩

theorem said : Rows.FnIiHasSaid :=
  OpenClaim.holds_of_wide 4 Tryd.f4 rfl rfl rfl rfl rfl rfl rfl ⟨rfl, rfl, rfl, rfl, rfl⟩ rfl rfl rfl rfl rfl (by kernel_rfl) Tryd.func4 (by kernel_rfl)
    (of_decide_eq_true (by kernel_rfl)) (by unfold Func.isWrapper; first | (rw [if_pos (by decide +kernel)]; kernel_rfl) | (rw [if_neg (by decide +kernel)]; exact ⟨rfl, rfl⟩))
    (fun os started H enc _ => lifted os started H enc)

theorem plain (f : FuncId) (fn : Func) (hf : Tryd.pinned.checked.prog.funcNamed "pub-droshky/laws.FnIiHas" = some f) (hfn : Tryd.pinned.checked.prog.funcs[f]? = some fn) :
    true = Tryd.pinned.checked.prog.looks [] ∧ ∀ (j : Nat) t, fn.params[j]? = some t → Tryd.pinned.checked.prog.wantsStandIn t = false := by
  obtain rfl : f = 4 := Option.some.inj ((show Tryd.prog.funcNamed "pub-droshky/laws.FnIiHas" = some 4 by kernel_rfl).symm.trans hf) |>.symm
  obtain rfl : fn = Tryd.f4 := (Option.some.inj (Tryd.func4.symm.trans hfn)).symm
  refine ⟨by kernel_rfl, fun j t ht => ?_⟩
  rw [Tryd.params4] at ht
  have hm : t ∈ [28, 26] := by simpa using Array.mem_of_getElem? ht
  have hall : ([28, 26].all fun u => !Tryd.prog.wantsStandIn u) = true := by kernel_rfl
  exact (show Tryd.prog.wantsStandIn t = false by simpa using List.all_eq_true.1 hall t hm)

theorem card : Rows.FnIiHasCardSaid :=
  Claim7.holds_tied_plain_at .later [] _ _ _ _ said (fun _ h => by cases h) (by kernel_rfl) (fun _ h => by cases h) fnIiHas_row_tie rfl ⟨rfl, rfl⟩ (by kernel_rfl) rfl plain (by kernel_rfl)
#print axioms card
end Go.Proofs.YthfgnhgijgjggaaDoor.fnIiHas
