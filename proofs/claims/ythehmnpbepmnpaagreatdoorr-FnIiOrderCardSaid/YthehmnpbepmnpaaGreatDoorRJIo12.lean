/- Contracts, joined (SoE SoF SoG Vars OpenCid OpenES). -/
import Derived.Test.YthehmnpbepmnpaaGreatDoorRJIo5
import Derived.Test.YthehmnpbepmnpaaGreatDoorRJIo6
import Derived.Test.YthehmnpbepmnpaaGreatDoorRJIo10
import Derived.Test.YthehmnpbepmnpaaGreatDoorRJIo11
import Derived.Lib.ReflectliteSlice
import Derived.Lib.ReflectliteSwap
import Derived.Deep.RegionHeld3
import Derived.Test.YthehmnpbepmnpaaGreatDoorRProg
import Derived.Stop.LaidErr
import Derived.KernelRfl
import Derived.ProofKit
import Derived.ChangeSame
import Derived.ChangeMaps
import Derived.ShutString
import Derived.Deep.Slices
import Derived.OpenShut
import Derived.Deep.SlicePairs
/- Contract: sort.SliceStable of entries by their digests, up to 79. -/
namespace Go.Proofs.YthehmnpbepmnpaaGreatDoorR
open Go.RowKit

theorem less_blt : ∀ l m : List UInt8, Op.bytesLess l m = blt l m
  | [], [] => rfl
  | [], _ :: _ => rfl
  | _ :: _, [] => rfl
  | a :: l, b :: m => by
    rw [Op.bytesLess, blt, less_blt l m]
    by_cases h : a < b
    · rw [if_pos h, decide_eq_true h]; rfl
    · rw [if_neg h, decide_eq_false h]
      by_cases h2 : b < a
      · rw [if_pos h2]
        have : (a == b) = false := by
          rw [beq_eq_false_iff_ne]
          intro e
          rw [e] at h2
          exact UInt8.lt_irrefl _ h2
        rw [this]; rfl
      · rw [if_neg h2]
        have : a = b := by
          rcases UInt8.lt_or_eq_of_le (UInt8.not_lt.1 h2) with h3 | h3
          · exact absurd h3 h
          · exact h3
        subst this
        simp
theorem enters_lt : ∀ args w, (callFunc 11 args).run Tryz.prog w = .ok (.enter 11 args) w := enters_of Tryz.func11 (by kernel_rfl) rfl

set_option maxRecDepth 100000 in
set_option maxHeartbeats 4000000 in
theorem less_ent (wb blk n c : Nat) (W : World) (hw : W.cell? ⟨wb, 0, none⟩ = some (.slice (some ⟨blk, 0, none⟩) n c)) (i j : Nat) (hi : i < n) (hj : j < n) (a b : List UInt8) (ha : W.cell? ⟨blk, i * 5 + 3, none⟩ = some (.string ⟨a.toArray⟩)) (hb : W.cell? ⟨blk, j * 5 + 3, none⟩ = some (.string ⟨b.toArray⟩)) :
    Calls Tryz.prog 11 #[.int .i64 i, .int .i64 j, .pointer (some ⟨wb, 0, none⟩)] W fun e w' => e = .returned (.bool (blt a b)) ∧ Below W.heap.size W w' := by
  have hda : (⟨a.toArray⟩ : ByteArray).toList = a := by rw [ba_toList2]
  have hdb : (⟨b.toArray⟩ : ByteArray).toList = b := by rw [ba_toList2]
  generalize (⟨a.toArray⟩ : ByteArray) = da at *
  generalize (⟨b.toArray⟩ : ByteArray) = db at *
  go_enter Tryz.func11, Tryz.ntmps11
  go_wp2
  go_quiet (fail)
  go_wp2
  go_ret
  refine ⟨?_, (Below.refl _ _).drewN _⟩
  show Ending.returned (.bool (Op.bytesLess a b)) = _
  rw [less_blt]

/-- A row of entries, each with its place, and the variable that holds the slice. -/
structure SoRow (wb blk n c : Nat) (d : Nat → EntD × Nat) (W : World) : Prop where
  cells : ∀ i r v, i < n → (cellsE (d i).1)[r]? = some v → W.cell? ⟨blk, i * 5 + r, none⟩ = some v
  free : ∀ i r, i < n → r < 5 → W.frozen? ⟨blk, i * 5 + r, none⟩ = false
  box : W.heap[wb]? = some (.cells #[.slice (some ⟨blk, 0, none⟩) n c] 22 (0, 0))
  ne : wb ≠ blk
  size : blk < W.heap.size
theorem SoRow.below {wb blk n c : Nat} (d : Nat → EntD × Nat) (W W' : World) (h : SoRow wb blk n c d W) (hb : Below W.heap.size W W') : SoRow wb blk n c d W' :=
  ⟨fun i r v hi hv => below_cell hb (h.cells i r v hi hv), fun i r hi hr => (World.frozen?_of_block (w := W) (hb.block blk h.size)).trans (h.free i r hi hr), row_below hb (block_of_row h.box) h.box, h.ne, Nat.lt_of_lt_of_le h.size hb.size⟩

theorem swap9 : ∀ args W, (callFunc 64 args).run Tryz.prog W = ((Extern.ReflectliteSwapper.swap false args).run Tryz.prog W).andThen fun v w' => .ok (.value v) w' :=
  fun args W => run_callFunc_extern Tryz.func64 (by kernel_rfl) (by kernel_rfl) (by kernel_rfl) (e := Extern.ReflectliteSwapper.swap false) (by kernel_rfl) args W

/-- Two entries changed: the row is as if they had changed places. -/
theorem SoRow.swap {wb blk n c : Nat} {d : Nat → EntD × Nat} {W : World} (h : SoRow wb blk n c d W) {i j : Nat} (hi : i < n) (hj : j < n) (hij : i ≠ j) :
    SoRow wb blk n c (sw d i j) ((W.setCells blk (i * 5) (cellsE (d j).1)).setCells blk (j * 5) (cellsE (d i).1)) ∧ Keep (fun k => k = blk) W ((W.setCells blk (i * 5) (cellsE (d j).1)).setCells blk (j * 5) (cellsE (d i).1)) := by
  have l5 : ∀ e, (cellsE e).length = 5 := fun _ => rfl
  have some5 : ∀ k, k < n → ∀ r, r < 5 → (W.cell? ⟨blk, k * 5 + r, none⟩).isSome = true := fun k hk r hr => by
    rw [h.cells k r _ hk (List.getElem?_eq_getElem (show r < (cellsE (d k).1).length from hr))]; rfl
  have T := (turn_setCells blk (cellsE (d j).1) (i * 5) W).trans (turn_setCells blk (cellsE (d i).1) (j * 5) _)
  refine ⟨⟨fun k r v hk hv => ?_, fun k r hk hr => ?_, (T.block wb h.ne).trans h.box, h.ne, by rw [T.size]; exact h.size⟩, ⟨T.os, T.tape, T.output, by rw [T.size]; exact Nat.le_refl _, fun k _ hk => T.block k hk⟩⟩
  · have hr : r < 5 := by
      rcases Nat.lt_or_ge r 5 with h | h
      · exact h
      · rw [List.getElem?_eq_none (by rw [l5]; exact h)] at hv; cases hv
    by_cases hkj : k = j
    · subst hkj
      rw [sw_r] at hv
      rw [World.cell?_setCells_in blk (cellsE (d i).1) (k * 5) _ (fun q hq => World.isSome_setCells blk _ _ _ _ (some5 k hj q hq)) r hr]
      rw [← hv, List.getElem?_eq_getElem hr]
    · rw [World.cell?_setCells_out blk _ _ _ _ (fun _ _ => by show k * 5 + r < j * 5 ∨ j * 5 + (cellsE (d i).1).length ≤ k * 5 + r; rw [l5]; omega)]
      by_cases hki : k = i
      · subst hki
        rw [sw_l] at hv
        rw [World.cell?_setCells_in blk (cellsE (d j).1) (k * 5) _ (fun q hq => some5 k hi q hq) r hr]
        rw [← hv, List.getElem?_eq_getElem hr]
      · rw [World.cell?_setCells_out blk _ _ _ _ (fun _ _ => by show k * 5 + r < i * 5 ∨ i * 5 + (cellsE (d j).1).length ≤ k * 5 + r; rw [l5]; omega)]
        rw [sw_same d i j k hki hkj] at hv
        exact h.cells k r v hk hv
  · rw [World.frozen?_setCells, World.frozen?_setCells]
    exact h.free k r hk hr

def keyE (e : EntD) : List UInt8 := e.cid.dig
theorem soEnv (wb blk n c : Nat) (sf : FuncId) (sb : Array Value) (hs : 2 ≤ n → sf = 64 ∧ sb = #[.slice (some ⟨blk, 0, none⟩) n c, typeHandle Tryz.prog 29]) :
    SoEnv (soK keyE) n blk 11 #[.pointer (some ⟨wb, 0, none⟩)] sf sb (SoRow wb blk n c) where
  eg := enters_lt
  below := SoRow.below
  size _ _ h := h.size
  less d W h i j hi hj := less_ent wb blk n c W (cell_of_row' (cur := [_]) h.box 0) i j hi hj _ _ (h.cells i 3 _ hi rfl) (h.cells j 3 _ hj rfl)
  swap d W h i j hi hj hij := by
    obtain ⟨rfl, rfl⟩ := hs (by omega)
    obtain ⟨ie, hie, _, hsz, _⟩ := info_ent
    have hr := Lib.run_swap_cells (P := Tryz.prog) false 29 ie hie (fun _ => by kernel_rfl) blk 0 n c i j hi hj (cellsE (d i).1) (cellsE (d j).1) hsz.symm hsz.symm (oneCell_E _) (oneCell_E _) W
      (fun k v hk => by rw [hsz, Nat.zero_add]; exact h.cells i k v hi hk) (fun k v hk => by rw [hsz, Nat.zero_add]; exact h.cells j k v hj hk)
      (fun k hk => by rw [hsz] at hk ⊢; rw [Nat.zero_add]; exact h.free i k hi hk) (fun k hk => by rw [hsz] at hk ⊢; rw [Nat.zero_add]; exact h.free j k hj hk)
    rw [hsz, Nat.zero_add, Nat.zero_add] at hr
    obtain ⟨h1, h2⟩ := h.swap hi hj hij
    refine ⟨_, ?_, h1, h2⟩
    rw [swap9, show (#[Value.int .i64 (i : Int), Value.int .i64 (j : Int)] ++ #[Value.slice (some ⟨blk, 0, none⟩) n c, typeHandle Tryz.prog 29]) = #[.int .i64 i, .int .i64 j, .slice (some ⟨blk, 0, none⟩) n c, typeHandle Tryz.prog 29] from rfl, hr]
    rfl

theorem es_info : ∃ i, Tryz.prog.info? 22 = some i ∧ i.desc = .slice 29 := by
  have h : (Tryz.prog.info? 22).map (fun i => i.desc) = some (.slice 29) := by kernel_rfl
  obtain ⟨i, hi, h2⟩ := Option.map_eq_some_iff.1 h
  exact ⟨i, hi, h2⟩
theorem ent_ptrs {ie : TypeInfo} (hie : Tryz.prog.info? 29 = some ie) : ie.hasPointers = true ∧ ie.bytes = 48 := by
  have h : (Tryz.prog.info? 29).map (fun i => (i.hasPointers, i.bytes)) = some (true, 48) := by kernel_rfl
  rw [hie, Option.map_some] at h
  injection h with h
  injection h with h1 h2
  exact ⟨h1, h2⟩
theorem swapperK_many {ie : TypeInfo} (h1 : ie.hasPointers = true) (h2 : ie.bytes = 48) {n : Nat} (hn : 2 ≤ n) : Lib.swapperK n ie 25 = 9 := by
  have c : (n == 0) = false := by simp; omega
  have d : (n == 1) = false := by simp; omega
  simp [Lib.swapperK, h1, h2, c, d]
theorem swapperK_one (ie : TypeInfo) : Lib.swapperK 1 ie 25 = 2 := by simp [Lib.swapperK]

set_option maxRecDepth 100000 in
set_option maxHeartbeats 4000000 in
/-- sort.SliceStable over a contract of stable_func. -/
theorem sliceStable_of (p : Option Addr) (n c : Nat) (sf : FuncId) (sb : Array Value) (hsf : (2 ≤ n ∧ sf = 64 ∧ sb = #[.slice p n c, typeHandle Tryz.prog 29]) ∨ (n = 1 ∧ sf = 57 ∧ sb = #[])) (lf : Fn) (la lb : Array Value) (w : World) (R : World → Prop)
    (hp : ∀ W, Below w.heap.size w W → Calls Tryz.prog 31 #[.agg #[.func lf la lb, .func (.func sf) #[] sb], .int .i64 n] W fun e w' => e = .returned (.tuple #[]) ∧ R w') :
    Calls Tryz.prog 10 #[.iface 22 (.slice p n c), .func lf la lb] w fun e w' => e = .returned (.tuple #[]) ∧ R w' := by
  obtain ⟨i, hi, hd⟩ := es_info
  obtain ⟨ie, hie, _, _, _⟩ := info_ent
  obtain ⟨hptr, hby⟩ := ent_ptrs hie
  have hv := Lib.run_valueOf_slice (P := Tryz.prog) 22 29 i hi hd p n c w
  have hs : ∀ W, (Extern.ReflectliteSwapper.swapper "internal/reflectlite" (Extern.ReflectliteValue.valueError "Swapper") #[.iface 22 (.slice p n c)]).run Tryz.prog W = .ok (.func (.func sf) #[] sb) W := fun W => by
    rcases hsf with ⟨h2, rfl, rfl⟩ | ⟨rfl, rfl, rfl⟩
    · have hk := swapperK_many hptr hby h2
      have := Lib.run_swapper_slice (P := Tryz.prog) 22 29 i ie hi hd hie 25 (fun _ => by kernel_rfl) p n c 64 (by rw [hk]; kernel_rfl) W
      rw [hk] at this
      exact this
    · have hk := swapperK_one ie
      have := Lib.run_swapper_slice (P := Tryz.prog) 22 29 i ie hi hd hie 25 (fun _ => by kernel_rfl) p 1 c 57 (by rw [hk]; kernel_rfl) W
      rw [hk] at this
      exact this
  have hl := fun a W ha => Lib.run_valueLen_slice (P := Tryz.prog) 22 29 i hi hd (by kernel_rfl) a p n c W ha
  have HP := Lib.hid hp
  clear hp hsf hi hd hie hptr hby
  obtain ⟨G, hG⟩ : ∃ G, Tryz.prog.globals.size = G := ⟨_, rfl⟩
  simp only [typeHandle, hG] at hv hl
  clear hG
  go_enter Tryz.func10, Tryz.ntmps10
  go_wp2
  rw [run_callFunc_extern Tryz.func29 (by kernel_rfl) (by kernel_rfl) (by kernel_rfl) (e := fun args => Extern.ReflectliteValue.unpack (args.getD 0 (.tuple #[]))) (by kernel_rfl),
    show Sem.run Tryz.prog ((fun args : Array Value => Extern.ReflectliteValue.unpack (args.getD 0 (.tuple #[]))) #[.iface 22 (.slice p n c)]) w = _ from hv]
  simp only [Result.andThen]
  rw [Oper.upon_value]
  go_wp2
  rw [run_callFunc_extern Tryz.func30 (by kernel_rfl) (by kernel_rfl) (by kernel_rfl) (e := Extern.ReflectliteSwapper.swapper "internal/reflectlite" (Extern.ReflectliteValue.valueError "Swapper")) (by kernel_rfl), hs]
  simp only [Result.andThen]
  rw [Oper.upon_value]
  go_wp2
  rw [run_callFunc_extern Tryz.func32 (by kernel_rfl) (by kernel_rfl) (by kernel_rfl) (e := Extern.ReflectliteValue.method (Extern.ReflectliteValue.valueError "reflectlite.Value.Len" 0) Extern.ReflectliteValue.len) (by kernel_rfl),
    hl _ _ (by simp)]
  simp only [Result.andThen]
  rw [Oper.upon_value]
  have hb : Below w.heap.size w ((w.alloc (.cells #[.slice p n c] 22)).alloc (.cells #[.pointer (some ⟨G, 22, none⟩), .pointer (some ⟨w.heap.size, 0, none⟩), .int .u64 151] 67)) := ((Below.refl _ w).alloc (Nat.le_refl _) _).alloc (by simp) _
  have HC := Lib.hid (HP.out _ hb)
  go_wp2_with fail
  refine HC.out.mono ?_
  rintro e w' ⟨rfl, hR⟩
  have HR := Lib.hid hR
  clear hR
  go_wp2
  go_end0
  exact ⟨rfl, HR.out⟩

set_option maxRecDepth 100000 in
theorem sliceStable (wb blk c : Nat) (es : List EntD) (e0 : EntD) (h0 : 0 < es.length) (hn : es.length < 80) (w : World) (hH : SoRow wb blk es.length c (row0 e0 es) w) :
    Calls Tryz.prog 10 #[.iface 22 (.slice (some ⟨blk, 0, none⟩) es.length c), .func (.func 11) #[] #[.pointer (some ⟨wb, 0, none⟩)]] w fun e w' =>
      e = .returned (.tuple #[]) ∧ ∃ d, SoRow wb blk es.length c d w' ∧ (Prm 0 es.length (row0 e0 es) d ∧ (soK keyE).srt 0 es.length d) ∧ Keep (fun k => k = blk) w w' := by
  have key : ∀ (sf : FuncId) (sb : Array Value), (2 ≤ es.length → sf = 64 ∧ sb = #[.slice (some ⟨blk, 0, none⟩) es.length c, typeHandle Tryz.prog 29]) → ∀ W, Below w.heap.size w W →
      Calls Tryz.prog 31 #[.agg #[.func (.func 11) #[] #[.pointer (some ⟨wb, 0, none⟩)], .func (.func sf) #[] sb], .int .i64 es.length] W fun e w' => e = .returned (.tuple #[]) ∧ (∃ d, SoRow wb blk es.length c d w' ∧ (Prm 0 es.length (row0 e0 es) d ∧ (soK keyE).srt 0 es.length d) ∧ Keep (fun k => k = blk) w w') := fun sf sb hs W hb => by
    refine (so_stable (soEnv wb blk es.length c sf sb hs) hn (row0 e0 es) W (SoRow.below _ _ _ hH hb) (fun i _ => rfl)).mono ?_
    rintro e w' ⟨rfl, d, h1, h2, h3⟩
    exact ⟨rfl, d, h1, h2, hb.keep.trans h3⟩
  by_cases h2 : 2 ≤ es.length
  · exact sliceStable_of _ es.length c _ _ (Or.inl ⟨h2, rfl, rfl⟩) _ _ _ w _ (key _ _ (fun _ => ⟨rfl, rfl⟩))
  · exact sliceStable_of _ es.length c _ _ (Or.inr ⟨by omega, rfl, rfl⟩) _ _ _ w _ (key _ _ (fun h => absurd h h2))
end Go.Proofs.YthehmnpbepmnpaaGreatDoorR
/- Contracts: spec.OfDigest, whole; two entries compared; the appends of FnIiOrder. -/
namespace Go.Proofs.YthehmnpbepmnpaaGreatDoorR
open Go.RowKit

theorem offsOf_snoc {es : List EntD} {k : Nat} {x : EntD} (h : es[k]? = some x) (u : List UInt8) : offsOf (es.take (k + 1)) u = offsOf (es.take k) u ++ (if x.cid.dig = u then [(x.off : Int)] else []) := by
  rw [show es.take (k + 1) = es.take k ++ [x] by rw [List.take_add_one, h]; rfl]
  unfold offsOf
  rw [List.filter_append, List.map_append]
  congr 1
  by_cases hx : x.cid.dig = u
  · simp [hx]
  · simp [hx]
abbrev u64s (l : List Int) : List Value := l.map (fun x => .int .u64 x)

set_option maxRecDepth 100000 in
set_option maxHeartbeats 8000000 in
theorem ofDigest (v : Value) (es : List EntD) (dg : List UInt8) (w : World) (hs : ES w v es) (hn : es.length ≤ 100) :
    Calls Tryz.prog 14 #[v, .string ⟨dg.toArray⟩] w fun e w' => (∃ u, e = .returned u ∧ w'.ownsRow w.heap.size 23 1 u (offsOf es dg).length (u64s (offsOf es dg))) ∧ Below w.heap.size w w' := by
  obtain ⟨i0, hi, hz0, hz1, hz2⟩ := info_u64
  obtain ⟨A, c, rfl, hc, hcells⟩ := hs
  obtain ⟨n, hN⟩ : ∃ n, n = es.length := ⟨_, rfl⟩
  rw [← hN] at hn
  have HC := Lib.hid hcells
  have HN := Lib.hid hN
  rw [← hN]
  clear hcells hc hN
  obtain ⟨D, hD⟩ : ∃ D : ByteArray, D = ⟨dg.toArray⟩ := ⟨_, rfl⟩
  rw [← hD]
  have HD := Lib.hid hD
  clear hD
  go_enter Tryz.func14, Tryz.ntmps14
  go_wp2
  go_loopw [5, 10] (fun v i wr => ∃ (k m : Nat) (xs : List Value), k ≤ n ∧ i = .int .i64 k ∧ Hid (wr.ownsRow w.heap.size 23 1 v m xs) ∧ m ≤ k ∧ Hid (m = (offsOf (es.take k) dg).length ∧ xs = u64s (offsOf (es.take k) dg)) ∧ Below w.heap.size w wr) (fun _ i _ => n - (intOf i).toNat)
  case atStart => exact ⟨0, 0, [], Nat.zero_le _, rfl, Lib.hid ⟨rfl, .inl ⟨rfl, rfl⟩⟩, Nat.le_refl _, Lib.hid (by simp [offsOf, u64s]), Below.refl _ _⟩
  case round =>
    obtain ⟨k, m, xs, hk, rfl, hown, hmk, hiff, hb⟩ := hrel
    by_cases hlt : k < n
    · obtain ⟨b, o, rfl, hcl⟩ := HC.out (by rw [← HN.out]; omega)
      have hks : k < es.length := by rw [← HN.out]; exact hlt
      obtain ⟨x, hsv⟩ : ∃ x, es[k]? = some x := ⟨_, List.getElem?_eq_getElem hks⟩
      obtain ⟨q0, q1, q2, q3, q4⟩ := hcl k x hsv
      have c0 := below_cell hb q0
      have c1 := below_cell hb q1
      have c2 := below_cell hb q2
      have c3 := below_cell hb q3
      have c4 := below_cell hb q4
      have HSN := Lib.hid (offsOf_snoc hsv dg)
      have hbs := hb.size
      by_cases hx : x.cid.dig = dg
      · have heq := (str_beq (a := x.cid.dig) (b := dg)).trans (decide_eq_true hx)
        rw [← HD.out] at heq
        have hp : Hid (m + 1 = (offsOf (es.take (k + 1)) dg).length ∧ xs ++ [.int .u64 x.off] = u64s (offsOf (es.take (k + 1)) dg)) := Lib.hid (by
          rw [HSN.out, if_pos hx, List.length_append, ← hiff.out.1]
          refine ⟨rfl, ?_⟩
          rw [hiff.out.2, u64s, u64s, List.map_append]
          rfl)
        generalize (⟨x.cid.dig.toArray⟩ : ByteArray) = d at *
        generalize (x.cid.ver : Int) = v0 at *
        generalize (x.cid.codec : Int) = v1 at *
        generalize (x.cid.code : Int) = v2 at *
        generalize (x.off : Int) = f at *
        have HB := Lib.hid hb
        clear hcl hsv hks q0 q1 q2 q3 q4 HSN hx hb hiff
        go_wp2_with (at_builtin; refine wpList_append_own_at _ rfl _ _ 33 rfl w.heap.size 23 i0 (.int .u64 0) 1 8 Tryz.underlying33 hi hz0 hz1 hz2 rfl (by decide) _ _ _ rfl ((hown.out.alloc _).alloc _) ⟨wr.heap.size + 1, 0, none⟩ 1 1 [.int .u64 f] rfl rfl ?c1 ?c2 ?c3 ?c4 ?c5 ?_)
        case c1 =>
          intro j u hj
          match j, hj with
          | 0, hj => simp at hj; subst hj; simp [Addr.add]
        case c2 => intro u hu; simp at hu; subst hu; rfl
        case c3 => unfold maxLen; omega
        case c4 => omega
        case c5 => simp; omega
        intro v' w2 hown' hgrow _ hat
        have hb2 : Below w.heap.size w w2 := ((HB.out.alloc HB.out.size _).alloc (by simp; omega) _).grown hgrow (by simp; omega) (fun q hq => (hown.out.lt q hq).1)
        have HO := Lib.hid hown'
        clear hown hgrow hown' hat
        go_wp2
        go_roundw
        case rel => exact ⟨k + 1, m + 1, _, by omega, by go_num, HO, by omega, hp, hb2⟩
        case measure => simp [intOf]; omega
      · have heq := (str_beq (a := x.cid.dig) (b := dg)).trans (decide_eq_false hx)
        rw [← HD.out] at heq
        have hp : Hid (m = (offsOf (es.take (k + 1)) dg).length ∧ xs = u64s (offsOf (es.take (k + 1)) dg)) := Lib.hid (by
          rw [HSN.out, if_neg hx, List.append_nil]
          exact hiff.out)
        generalize (⟨x.cid.dig.toArray⟩ : ByteArray) = d at *
        generalize (x.cid.ver : Int) = v0 at *
        generalize (x.cid.codec : Int) = v1 at *
        generalize (x.cid.code : Int) = v2 at *
        generalize (x.off : Int) = f at *
        have hown2 := Lib.hid (hown.out.alloc (entO v0 v1 v2 d f))
        have hb2 := hb.alloc hb.size (entO v0 v1 v2 d f)
        clear hcl hsv hks q0 q1 q2 q3 q4 HSN hx hb hown hiff
        go_wp2
        go_roundw
        case rel => exact ⟨k + 1, m, _, by omega, by go_num, hown2, by omega, hp, hb2⟩
        case measure => simp [intOf]; omega
    · obtain rfl : k = n := by omega
      have hall : es.take k = es := List.take_of_length_le (by rw [HN.out]; exact Nat.le_refl _)
      rw [hall] at hiff
      obtain ⟨hm, rfl⟩ := hiff.out
      have HO := hown
      rw [hm] at HO
      have HB := Lib.hid hb
      clear hall hown hm hiff hb hmk
      go_wp2
      go_ret
      exact ⟨⟨_, rfl, HO.out⟩, HB.out⟩

theorem run_eqEnt (x0 x1 x2 y0 y1 y2 f g : Int) (s t : ByteArray) (w : World) (d : Nat) :
    (Op.equalIn (d + 3) 29 (.agg #[.int .u64 x0, .int .u64 x1, .int .u64 x2, .string s, .int .u64 f]) (.agg #[.int .u64 y0, .int .u64 y1, .int .u64 y2, .string t, .int .u64 g])).run Tryz.prog w = .ok ((x0 == y0 && (x1 == y1 && (x2 == y2 && (s.toList == t.toList)))) && (f == g)) w := by
  refine structs_equal Tryz.underlying29 (by kernel_rfl) ?_
  refine fields_more (by decide) (by go_simp) (by go_simp) (run_eqCid _ _ _ _ _ _ _ _ w d) ?_
  refine fields_last (by decide) (by go_simp; rfl) (by go_simp; rfl) ?_
  go_simp
theorem neqEnt_same (x0 x1 x2 f : Int) (s : ByteArray) (w : World) : (binOp .neq 29 (.agg #[.int .u64 x0, .int .u64 x1, .int .u64 x2, .string s, .int .u64 f]) (.agg #[.int .u64 x0, .int .u64 x1, .int .u64 x2, .string s, .int .u64 f])).run Tryz.prog w = .ok (.bool false) w := by
  simp only [binOp]
  simp [Op.equal, Op.maxDepth, run_eqEnt _ _ _ _ _ _ _ _ _ _ w 9997]

theorem cell_u64 {w : World} {B g m cap : Nat} {l : List Int} (h : w.ownsRow B 23 1 (.slice (some ⟨g, 0, none⟩) m cap) m (u64s l)) {k : Nat} {x : Int} (hx : l[k]? = some x) : w.cell? ⟨g, k, none⟩ = some (.int .u64 x) := by
  obtain ⟨hl, h⟩ := h
  rcases h with ⟨e, _⟩ | ⟨g', cap', cur, e, _, hg, _, _, _, ht⟩
  · cases e
  · injection e with e1 _ e3
    injection e1 with e1
    injection e1 with e1 _
    subst e1
    have hk : k < l.length := (List.getElem?_eq_some_iff.1 hx).1
    have hm : l.length = m := by have := hl; rw [List.length_map] at this; omega
    rw [cell_of_row' (cur := cur.toList) (by rw [Array.toArray_toList]; exact hg)]
    have h2 := congrArg (fun z => z[k]?) ht
    simp only [List.getElem?_take] at h2
    rw [if_pos (by omega)] at h2
    rw [h2, List.getElem?_map, hx]
    rfl
/-- A row of entries of one's own, and the variable that holds the slice. -/
theorem cell_own {w : World} {B blk n cap : Nat} {es : List EntD} (h : w.ownsRow B 29 5 (.slice (some ⟨blk, 0, none⟩) n cap) n (cellsES es)) {i r : Nat} {x : EntD} {v : Value} (hx : es[i]? = some x) (hv : (cellsE x)[r]? = some v) : w.cell? ⟨blk, i * 5 + r, none⟩ = some v := by
  obtain ⟨hl, h⟩ := h
  rcases h with ⟨e, _⟩ | ⟨g', cap', cur, e, _, hg, _, _, _, ht⟩
  · cases e
  · injection e with e1 _ e3
    injection e1 with e1
    injection e1 with e1 _
    subst e1
    have hr : r < 5 := (List.getElem?_eq_some_iff.1 hv).1
    have hi : i < es.length := (List.getElem?_eq_some_iff.1 hx).1
    rw [cellsES_length] at hl
    rw [cell_of_row' (cur := cur.toList) (by rw [Array.toArray_toList]; exact hg)]
    have h2 := congrArg (fun z => z[i * 5 + r]?) ht
    simp only [List.getElem?_take] at h2
    rw [if_pos (by omega)] at h2
    rw [h2, cellsES_get es i r x hx hr]
    exact hv
theorem sorow_of_own {w : World} {B wb blk cap : Nat} {es : List EntD} (e0 : EntD) (h : w.ownsRow B 29 5 (.slice (some ⟨blk, 0, none⟩) es.length cap) es.length (cellsES es)) (hb : w.heap[wb]? = some (.cells #[.slice (some ⟨blk, 0, none⟩) es.length cap] 22 (0, 0))) (hne : wb ≠ blk) : SoRow wb blk es.length cap (row0 e0 es) w := by
  refine ⟨fun i r v hi hv => ?_, fun i r hi hr => ?_, hb, hne, ?_⟩
  · have hx : es[i]? = some es[i] := List.getElem?_eq_getElem hi
    refine cell_own h hx ?_
    have : (row0 e0 es i).1 = es[i] := by unfold row0; rw [hx]; rfl
    rw [← this]; exact hv
  · obtain ⟨_, h⟩ := h
    rcases h with ⟨e, _⟩ | ⟨g', cap', cur, e, _, hg, _⟩
    · cases e
    · injection e with e1 _ _
      injection e1 with e1
      injection e1 with e1 _
      subst e1
      exact frozen_of_row' (cur := cur.toList) (by rw [Array.toArray_toList]; exact hg) _
  · obtain ⟨_, h⟩ := h
    rcases h with ⟨e, _⟩ | ⟨g', cap', cur, e, _, hg, _⟩
    · cases e
    · injection e with e1 _ _
      injection e1 with e1
      injection e1 with e1 _
      subst e1
      exact block_of_row hg
/-- A row of one's own that is not empty. -/
theorem own_slice {w : World} {B n k : Nat} {t : TypeId} {v : Value} {xs : List Value} (h : w.ownsRow B t k v n xs) (hn : 0 < n) : ∃ g cap, v = .slice (some ⟨g, 0, none⟩) n cap ∧ B ≤ g ∧ g < w.heap.size := by
  obtain ⟨_, h⟩ := h
  rcases h with ⟨_, h0⟩ | ⟨g, cap, cur, e, hB, hg, _⟩
  · omega
  · exact ⟨g, cap, e, hB, block_of_row hg⟩

theorem stepF {ops : Array Oper} {o : Oper} {a : Act} {w : World} {K : Act → World → Prop} {Q : Exit → Act → World → Prop} {E : Prop} (s x : Operand) (hgd : o.guard = none)
    (ho : o.op = .call { callee := .builtin .append, args := #[s, x], argTypes := #[22, 22] })
    {w5 : World} (hb : Below w5.heap.size w5 w) (g : Nat) (hg : w5.heap.size ≤ g) (hs : a.eval s = .slice (some ⟨g, 0, none⟩) 0 0) (he : w.heap[g]? = some (.cells #[] 29 (0, 0)))
    (A : Option Addr) (cc k : Nat) (es : List EntD) (hx : a.eval x = .slice A k cc) (hv : ES w5 (.slice A k cc) es) (hk : k = es.length) (hn : k ≤ 60)
    (h : ∀ v' w', Below w5.heap.size w5 w' → w'.ownsRow w5.heap.size 29 5 v' k (cellsES es) → (∀ j ob, j ≠ g → w.heap[j]? = some ob → w'.heap[j]? = some ob) → K (a.put o.dst v') w') :
    if Region.wanted o (yielded ops a.tmps) = true then Oper.wp Tryz.prog o a w K Q else E := by
  have hv2 := hv.below hb
  subst hk
  refine step_append_es hgd s x ho w5.heap.size (.slice (some ⟨g, 0, none⟩) 0 0) 0 [] hs (own_empty he hg) A es.length cc (cellsES es) hx (cellsES_length es) ?_ (oneCell_ES es) (by omega) hb.size ?_
  · intro h0
    obtain ⟨A', c', e, _, hh⟩ := id hv2
    injection e with e1 e2 e3
    obtain ⟨b, o, e4, _⟩ := hh h0
    rw [e4] at e1
    subst e1
    exact ⟨_, rfl, news_of_es hv2⟩
  · intro v' w' hown hgrow _
    refine h v' w' (hb.grown hgrow hb.size fun j hj => ?_) (by simpa using hown) (fun j ob hj hh => ?_)
    · have : some g = some j := hj
      injection this with this
      omega
    · exact (hgrow.block j (block_of_row hh) (fun e => hj (by have e' : some j = some g := e; injection e'))).trans hh

theorem stepG {ops : Array Oper} {o : Oper} {a : Act} {w : World} {K : Act → World → Prop} {Q : Exit → Act → World → Prop} {E : Prop} (s x : Operand) (hgd : o.guard = none)
    (ho : o.op = .call { callee := .builtin .append, args := #[s, x], argTypes := #[22, 22] })
    {w5 : World} (hb : Below w5.heap.size w5 w) (v : Value) (hs : a.eval s = v) (k : Nat) (es : List EntD) (hown : w.ownsRow w5.heap.size 29 5 v k (cellsES es)) (hk : k = es.length) (hn : k ≤ 60)
    (g : Nat) (hx : a.eval x = .slice (some ⟨g, 0, none⟩) 1 1) (z : EntD) (hg : w.heap[g]? = some (entB z))
    (h : ∀ v' w', Below w5.heap.size w5 w' → w'.ownsRow w5.heap.size 29 5 v' (k + 1) (cellsES (es ++ [z])) → K (a.put o.dst v') w') :
    if Region.wanted o (yielded ops a.tmps) = true then Oper.wp Tryz.prog o a w K Q else E := by
  subst hk
  refine step_append_es hgd s x ho w5.heap.size v es.length (cellsES es) hs hown (some ⟨g, 0, none⟩) 1 1 (cellsE z) hx (by rfl) ?_ (oneCell_E _) (by omega) hb.size ?_
  · intro _
    exact ⟨_, rfl, World.news_of_block hg⟩
  · intro v' w' hown' hgrow _
    refine h v' w' (hb.grown hgrow hb.size fun j hj => ?_) (by rw [cellsES_snoc]; exact hown')
    rcases hown.2 with ⟨e, _⟩ | ⟨g', cap, cur, e, hbg, _⟩
    · subst e; cases hj
    · subst e
      have : some g' = some j := hj
      injection this with this
      omega
theorem good_snoc9 {es : List EntD} {c : CidD} (h : esGood es) (hc : c.st) : (∀ e ∈ es ++ [(⟨c, 9⟩ : EntD)], e.good) ∧ (es ++ [(⟨c, 9⟩ : EntD)]).length ≤ 61 := by
  refine ⟨fun e he => ?_, ?_⟩
  · rcases List.mem_append.1 he with h' | h'
    · exact h.2 e h'
    · obtain rfl : e = ⟨c, 9⟩ := by simpa using h'
      exact hc
  · rw [List.length_append]
    have := h.1
    show es.length + 1 ≤ 61
    omega
theorem sorted_get {es : List EntD} {e0 : EntD} {d : Nat → EntD × Nat} (hp : Prm 0 es.length (row0 e0 es) d) (hs : (soK keyE).srt 0 es.length d) {k : Nat} (hk : k < es.length) : (sortE es)[k]? = some (d k).1 := by
  have h : (List.range es.length).map (fun i => (d i).1) = sortE es := stb_of_row keyE e0 es d hp hs
  rw [← h, List.getElem?_map, List.getElem?_range hk]
  rfl
end Go.Proofs.YthehmnpbepmnpaaGreatDoorR
/- FnIiOrder's walk: entries and an identifier of which it speaks. -/
namespace Go.Proofs.YthehmnpbepmnpaaGreatDoorR
open Go.RowKit

attribute [local go_sem] gives givesUpon evalOf look wants asBool

set_option maxRecDepth 100000 in
set_option maxHeartbeats 16000000 in
theorem law_IiOrder (v : Value) (es : List EntD) (c : CidD) (w : World) (hv : ES w v es) (hl : es.length ≤ 9223372036854775807) (hu : UvS w) :
    Calls Tryz.prog 3 #[v, cid4 c] w fun e w' => e = .returned (.bool true) ∧ Below w.heap.size w w' := by
  have hsc := fun W => stCid_b c W
  unfold cid4 at *
  have hA : Below w.heap.size w (w.alloc (cidB c)) := (Below.refl _ _).alloc (Nat.le_refl _) _
  have HR := Lib.hid (heap_alloc_new w (cidB c))
  have HA := Lib.hid hA
  have H7 := Lib.hid (fits7_b v es (w.alloc (cidB c)) (hv.below hA) hl)
  have H1 := Lib.hid (fun W => fits1_b c.ver c.codec c.code ⟨c.dig.toArray⟩ W)
  have HSE := Lib.hid (fun W (h : Below w.heap.size w W) => stEntries_b v es W (hv.below h) hl)
  have HSC := Lib.hid hsc
  have HU := Lib.hid hu
  have HV := Lib.hid hv
  clear hA hu hv hl hsc
  go_enter Tryz.func3, Tryz.ntmps3
  go_wp2_with fail
  refine H7.out.mono ?_
  rintro e w1 ⟨⟨b1, rfl⟩, hb1⟩
  have r1 := row_below hb1 (block_of_row HR.out) HR.out
  obtain ⟨k0, k1, k2, k3⟩ := row4 r1
  have HB1 := Lib.hid (below_next HA.out hb1)
  have R1 := Lib.hid r1
  clear hb1 r1 H7
  rcases b1 with _ | _
  · go_wp2_with fail
    go_ret
    exact ⟨rfl, HB1.out⟩
  go_wp2_with fail
  refine (H1.out _).mono ?_
  rintro e w2 ⟨⟨b2, rfl⟩, hb2⟩
  have HB2 := Lib.hid (below_next HB1.out hb2)
  have r2 := row_below hb2 (block_of_row R1.out) R1.out
  have HSE2 := Lib.hid (HSE.out w2 HB2.out)
  have R2 := Lib.hid r2
  clear hb2 r2 H1 k0 k1 k2 k3 HB1 R1 HSE
  rcases b2 with _ | _
  · go_wp2_with fail
    go_ret
    exact ⟨rfl, HB2.out⟩
  go_wp2_with fail
  refine HSE2.out.mono ?_
  rintro e w3 ⟨h3, hb3⟩
  have r3 := row_below hb3 (block_of_row R2.out) R2.out
  obtain ⟨k0, k1, k2, k3⟩ := row4 r3
  have HB3 := Lib.hid (below_next HB2.out hb3)
  have R3 := Lib.hid r3
  clear hb3 r3 HSE2 HB2 R2
  rcases h3 with ⟨hes, rfl⟩ | ⟨_, rfl⟩
  rotate_left
  · go_wp2_with fail
    go_ret
    exact ⟨rfl, HB3.out⟩
  have HES := Lib.hid hes
  clear hes
  go_wp2_with fail
  refine (HSC.out _).mono ?_
  rintro e w4 ⟨h4, hb4⟩
  have HB4 := Lib.hid (below_next HB3.out hb4)
  have R4 := Lib.hid (row_below hb4 (block_of_row R3.out) R3.out)
  clear hb4 k0 k1 k2 k3 HSC HB3 R3
  rcases h4 with ⟨hc, rfl⟩ | ⟨_, rfl⟩
  rotate_left
  · go_wp2_with fail
    go_ret
    exact ⟨rfl, HB4.out⟩
  have HC := Lib.hid hc
  clear hc
  obtain ⟨i0, hi0, hz0, hz1, hz2⟩ := info_ent
  have hv4 := HV.out.below HB4.out
  obtain ⟨A, cc, rfl, hcap, _⟩ := id hv4
  obtain ⟨k, hK⟩ : ∃ k, k = es.length := ⟨_, rfl⟩
  have hk60 : k ≤ 60 := by rw [hK]; exact HES.out.1
  rw [← hK] at hv4 ⊢
  have HV4 := Lib.hid hv4
  have HK := Lib.hid hK
  have HG2 := Lib.hid (good_snoc9 HES.out HC.out)
  clear hv4 hK hcap HV
  have r4 := R4.out
  go_wp2_with fail
  go_region_held3 (fun w' => (w'.cell? ⟨w.heap.size, 0, none⟩ = some (.int .u64 c.ver) ∧ w'.cell? ⟨w.heap.size, 1, none⟩ = some (.int .u64 c.codec) ∧ w'.cell? ⟨w.heap.size, 2, none⟩ = some (.int .u64 c.code) ∧ w'.cell? ⟨w.heap.size, 3, none⟩ = some (.string ⟨c.dig.toArray⟩)) ∧ Below w4.heap.size w4 w')
    ((exact cells_of R4.out (by repeat (first | assumption | exact Below.refl _ _ | apply Below.drew | apply bel_alloc))))
    (first
      | (refine stepF (.tmp 28) (.tmp 29) (by rfl) (by rfl) (w5 := w4) (by repeat (first | assumption | exact Below.refl _ _ | apply Below.drew | apply bel_alloc)) w4.heap.size (Nat.le_refl _) (by rfl) (by first | exact heap_alloc_new _ _ | exact heap_alloc_old' (heap_alloc_new _ _)) A cc k es (by rfl) HV4.out HK.out hk60 ?_
         intro v1 w6 hb6 hown6 hkeep6)
      | (refine stepF (.tmp 28) (.tmp 29) (by rfl) (by rfl) (w5 := w4) (by repeat (first | assumption | exact Below.refl _ _ | apply Below.drew | apply bel_alloc)) (w4.heap.size + 1) (Nat.le_succ _) (by rfl) (by first | exact heap_alloc_new _ _ | exact (congrArg _ (by simp)).trans (heap_alloc_new _ _)) A cc k es (by rfl) HV4.out HK.out hk60 ?_
         intro v1 w6 hb6 hown6 hkeep6)
      | (refine stepG (.tmp 30) (.tmp 33) (by rfl) (by rfl) (w5 := w4) (by repeat (first | assumption | exact Below.refl _ _ | apply Below.drew | apply bel_alloc)) v1 (by rfl) k es (own_alloc hown6 _) HK.out hk60 w6.heap.size (by rfl) ⟨c, 9⟩ (heap_alloc_new _ _) ?_
         intro v2 w7 hb7 hown7)
      | (refine stepG (.tmp 30) (.tmp 33) (by rfl) (by rfl) (w5 := w4) (by repeat (first | assumption | exact Below.refl _ _ | apply Below.drew | apply bel_alloc)) v1 (by rfl) k es hown6 HK.out hk60 w4.heap.size (by rfl) ⟨c, 9⟩ (hkeep6 _ _ (by omega) (heap_alloc_old' (heap_alloc_new _ _))) ?_
         intro v2 w7 hb7 hown7)
      | (refine stepG (.tmp 30) (.tmp 33) (by rfl) (by rfl) (w5 := w4) (by repeat (first | assumption | exact Below.refl _ _ | apply Below.drew | apply bel_alloc)) v1 (by rfl) k es hown6 HK.out hk60 (w4.heap.size + 1) (by rfl) ⟨c, 9⟩ (hkeep6 _ _ (by omega) ((congrArg _ (by simp)).trans (heap_alloc_new _ _))) ?_
         intro v2 w7 hb7 hown7))
  all_goals
    obtain ⟨b7, cap7, rfl, hB7, hlt7⟩ := own_slice hown7 (Nat.succ_pos k)
    obtain ⟨es2, hes2⟩ : ∃ es2, es2 = es ++ [(⟨c, 9⟩ : EntD)] := ⟨_, rfl⟩
    obtain ⟨n, hn⟩ : ∃ n, n = k + 1 := ⟨_, rfl⟩
    have hnl : n = es2.length := by rw [hes2, List.length_append, ← HK.out, hn]; rfl
    rw [← hes2, ← hn] at hown7
    rw [← hn]
    have hn61 : n ≤ 61 := by omega
    have hn0 : 0 < n := by omega
    have HESO := hown7
    rw [hnl] at HESO
    have hes7 := es_of_own HESO
    rw [← hnl] at hes7
    have HE7 := Lib.hid hes7
    have HG7 : Hid ((∀ e ∈ es2, e.good) ∧ es2.length ≤ 61) := by rw [hes2]; exact HG2
    have HOF : Hid (0 < (offsOf es2 c.dig).length) := Lib.hid (by
      rw [hes2]
      unfold offsOf
      rw [List.filter_append, List.map_append, List.length_append]
      have : ([(⟨c, 9⟩ : EntD)].filter (fun e => decide (e.cid.dig = c.dig))) = [⟨c, 9⟩] := by simp
      rw [this]
      simp)
    have HNL := Lib.hid hnl
    have HB7 := Lib.hid (below_next HB4.out hb7)
    have R7 := Lib.hid (row_below hb7 (block_of_row R4.out) R4.out)
    clear hb6 hown6 hkeep6 hb7 hown7 HESO hes7 hes2 hnl hn r4 HV4 HK HG2 HB4 R4 hk60
    have hla : ∀ o : Obj, ES (w7.alloc o) (.slice (some ⟨b7, 0, none⟩) n cap7) es2 := fun o => HE7.out.below ((Below.refl _ w7).alloc (Nat.le_refl _) o)
    have HLA := Lib.hid hla
    clear hla
    go_wp2_with (at_builtin; refine wpList_append_own_at _ rfl _ _ 22 rfl w7.heap.size 29 i0 (.agg #[.int .u64 0, .int .u64 0, .int .u64 0, .string ⟨#[]⟩, .int .u64 0]) 5 48 Tryz.underlying22 hi0 hz0 hz1 hz2 rfl (by decide) _ _ _ rfl (own_empty (heap_alloc_new _ _) (Nat.le_refl _)) ⟨b7, 0, none⟩ n cap7 (cellsES es2) rfl (by rw [cellsES_length, ← HNL.out]) ?c1 ?c2 ?c3 ?c4 ?c5 ?_)
    case c1 =>
      have h := HLA.out (.cells #[] 29)
      rw [HNL.out] at h
      exact news_of_es h
    case c2 => exact oneCell_ES es2
    case c3 => unfold maxLen; omega
    case c4 => omega
    case c5 => simp
    intro v' w8 hown8 hgrow8 _ hat8
    have hb8 : Below w7.heap.size w7 w8 := ((Below.refl _ w7).alloc (Nat.le_refl _) _).grown hgrow8 (by simp) (fun q hq => by
      have hq' : some w7.heap.size = some q := hq
      injection hq' with hq'
      omega)
    obtain ⟨blk, cap, rfl, hBl, hlt8⟩ := own_slice hown8 hn0
    obtain ⟨w9, hw9⟩ : ∃ w9, w9 = w8.alloc (.cells #[.slice (some ⟨blk, 0, none⟩) n cap] 22) := ⟨_, rfl⟩
    have h89 : Below w8.heap.size w8 w9 := hw9 ▸ (Below.refl _ w8).alloc (Nat.le_refl _) _
    have hbox : w9.heap[w8.heap.size]? = some (.cells #[.slice (some ⟨blk, 0, none⟩) n cap] 22 (0, 0)) := by rw [hw9]; exact heap_alloc_new w8 _
    have hb9 := below_next hb8 h89
    have hown9 := own_below hown8 h89
    rw [HNL.out] at hown9 hbox
    have hss := sliceStable w8.heap.size blk cap es2 ⟨c, 9⟩ (by rw [← HNL.out]; exact hn0) (by have := HG7.out.2; omega) w9 (sorow_of_own ⟨c, 9⟩ hown9 hbox (by omega))
    rw [← HNL.out] at hss
    have HSS := Lib.hid hss
    have HB9 := Lib.hid hb9
    have HBL := Lib.hid hBl
    have d0 : w9.cell? ⟨w8.heap.size, 0, none⟩ = some (.slice (some ⟨blk, 0, none⟩) n cap) := by rw [HNL.out]; exact cell_of_row' (cur := [_]) hbox 0
    rw [hw9] at HSS d0
    have HW9 := Lib.hid hw9
    have hmf : ∀ (fn : Fn) (first cap : Array Value) (w : World), (Instr.makeFunc fn first cap).run Tryz.prog w = .ok (.func fn first cap) w := fun _ _ _ _ => rfl
    clear hown8 hgrow8 hat8 hb8 h89 hbox hb9 hown9 hss hBl hlt8 HLA
    go_wp2_with fail
    refine HSS.out.mono ?_
    rw [← HW9.out]
    rintro e w10 ⟨rfl, d, hrow, hsrt, hk10⟩
    have hb10 : Below w7.heap.size w7 w10 := HB9.out.trans (hk10.below (fun q h1 h2 => by have := HBL.out; omega) HB9.out.size)
    have hes10 := HE7.out.below hb10
    have HEA := Lib.hid (iiEach (.slice (some ⟨b7, 0, none⟩) n cap7) es2 w10 hes10 HG7.out.1 (by have := HG7.out.2; omega) (by rw [← HNL.out]; exact hn0) (HU.out.below (below_next HB7.out hb10)))
    have HB10 := Lib.hid hb10
    have HROW := Lib.hid hrow
    rw [HNL.out] at hsrt
    have HSRT := Lib.hid hsrt
    clear hrow hsrt hk10 hb10 hes10 HSS d0 HB9
    go_wp2_with fail
    refine HEA.out.mono ?_
    rintro e w11 ⟨⟨u1, rfl, hown11⟩, hb11⟩
    rw [← HNL.out] at hown11
    obtain ⟨g1, cap1, rfl, _, _⟩ := own_slice hown11 hn0
    have hrow11 := SoRow.below _ _ _ HROW.out hb11
    have e0 : w11.cell? ⟨w8.heap.size, 0, none⟩ = some (.slice (some ⟨blk, 0, none⟩) n cap) := cell_of_row' (cur := [_]) hrow11.box 0
    have HROW11 := Lib.hid hrow11
    have HOW11 := Lib.hid hown11
    have HB11 := Lib.hid (below_next HB10.out hb11)
    clear hown11 hb11 hrow11 HROW HEA HB10
    go_wp2
    go_loopw [51] (fun i wr => ∃ (q : Nat), q ≤ n ∧ i = .int .i64 q ∧ Hid (Below w11.heap.size w11 wr)) (fun i _ => n - (intOf i).toNat)
    case atStart => exact ⟨0, Nat.zero_le _, rfl, Lib.hid (Below.refl _ _)⟩
    case round =>
      obtain ⟨q, hq, rfl, hbr⟩ := hrel
      by_cases hlt : q < n
      · have hx := sorted_get HSRT.out.1 HSRT.out.2 (k := q) (by rw [← HNL.out]; exact hlt)
        have hrw := SoRow.below _ _ _ HROW11.out hbr.out
        have how := own_below HOW11.out hbr.out
        have hql : q < es2.length := by rw [← HNL.out]; exact hlt
        obtain ⟨x, hxx⟩ : ∃ x, x = (d q).1 := ⟨_, rfl⟩
        rw [← hxx] at hx
        have a0 : wr.cell? ⟨blk, q * 5, none⟩ = some (.int .u64 x.cid.ver) := by rw [hxx]; exact hrw.cells q 0 _ hlt rfl
        have a1 : wr.cell? ⟨blk, q * 5 + 1, none⟩ = some (.int .u64 x.cid.codec) := by rw [hxx]; exact hrw.cells q 1 _ hlt rfl
        have a2 : wr.cell? ⟨blk, q * 5 + 2, none⟩ = some (.int .u64 x.cid.code) := by rw [hxx]; exact hrw.cells q 2 _ hlt rfl
        have a3 : wr.cell? ⟨blk, q * 5 + 3, none⟩ = some (.string ⟨x.cid.dig.toArray⟩) := by rw [hxx]; exact hrw.cells q 3 _ hlt rfl
        have a4 : wr.cell? ⟨blk, q * 5 + 4, none⟩ = some (.int .u64 x.off) := by rw [hxx]; exact hrw.cells q 4 _ hlt rfl
        have b0 : wr.cell? ⟨g1, q * 5, none⟩ = some (.int .u64 x.cid.ver) := cell_own (r := 0) how hx rfl
        have b1 : wr.cell? ⟨g1, q * 5 + 1, none⟩ = some (.int .u64 x.cid.codec) := cell_own (r := 1) how hx rfl
        have b2 : wr.cell? ⟨g1, q * 5 + 2, none⟩ = some (.int .u64 x.cid.code) := cell_own (r := 2) how hx rfl
        have b3 : wr.cell? ⟨g1, q * 5 + 3, none⟩ = some (.string ⟨x.cid.dig.toArray⟩) := cell_own (r := 3) how hx rfl
        have b4 : wr.cell? ⟨g1, q * 5 + 4, none⟩ = some (.int .u64 x.off) := cell_own (r := 4) how hx rfl
        have z0 : wr.cell? ⟨w8.heap.size, 0, none⟩ = some (.slice (some ⟨blk, 0, none⟩) n cap) := cell_of_row' (cur := [_]) hrw.box 0
        clear hxx hx hrw how hql e0
        generalize (⟨x.cid.dig.toArray⟩ : ByteArray) = zd at *
        generalize (x.cid.ver : Int) = x0 at *
        generalize (x.cid.codec : Int) = x1 at *
        generalize (x.cid.code : Int) = x2 at *
        generalize (x.off : Int) = x3 at *
        have hneq := fun W => neqEnt_same x0 x1 x2 x3 zd W
        go_wp2
        go_quiet (fail)
        go_wp2
        go_roundw
        case rel => exact ⟨q + 1, by omega, by go_num, Lib.hid (hbr.out.drewN _)⟩
        case measure => simp [intOf] <;> omega
      · have hbw : Below w7.heap.size w7 wr := below_next HB11.out hbr.out
        have hes := HE7.out.below hbw
        obtain ⟨k0, k1, k2, k3⟩ := row4 (row_below hbw (block_of_row R7.out) R7.out)
        have HIA := Lib.hid (iiAll (.slice (some ⟨b7, 0, none⟩) n cap7) es2 c n wr hes HG7.out.1 (by have := HG7.out.2; omega) (by rw [HNL.out]; exact Nat.le_refl _) (by omega) HC.out (HU.out.below (below_next HB7.out hbw)) HOF.out)
        unfold cid4 at HIA
        have HBW := Lib.hid hbw
        clear hbw hes e0 hq hbr HROW11 HOW11 HB11 HSRT
        go_wp2_with fail
        refine HIA.out.mono ?_
        rintro e w12 ⟨⟨u2, rfl, hown2⟩, hb12⟩
        have hbw := below_next HBW.out hb12
        obtain ⟨m0, m1, m2, m3⟩ := row4 (row_below hbw (block_of_row R7.out) R7.out)
        have HOD := Lib.hid (ofDigest (.slice (some ⟨b7, 0, none⟩) n cap7) es2 c.dig w12 (HE7.out.below hbw) (by have := HG7.out.2; omega))
        have HBW2 := Lib.hid hbw
        have HOW2 := Lib.hid hown2
        clear hbw hown2 hb12 k0 k1 k2 k3 HIA HBW
        go_wp2_with fail
        refine HOD.out.mono ?_
        rintro e w13 ⟨⟨u3, rfl, hown3⟩, hb13⟩
        have hbw := below_next HBW2.out hb13
        have hown2 := own_below HOW2.out hb13
        obtain ⟨L, hL⟩ : ∃ L, L = offsOf es2 c.dig := ⟨_, rfl⟩
        rw [← hL] at hown2 hown3 HOF
        obtain ⟨M, hM⟩ : ∃ M, M = L.length := ⟨_, rfl⟩
        rw [← hM] at HOF
        have hM0 : 0 < M := HOF.out
        have hML : M ≤ 61 := by
          have h2 := List.length_filter_le (fun e : EntD => decide (e.cid.dig = c.dig)) es2
          have h3 := HG7.out.2
          rw [hM, hL]
          unfold offsOf
          rw [List.length_map]
          omega
        rw [← hM] at hown2 hown3
        obtain ⟨g2, cap2, rfl, _, _⟩ := own_slice hown2 hM0
        obtain ⟨g3, cap3, rfl, _, _⟩ := own_slice hown3 hM0
        have HW2 := Lib.hid hown2
        have HW3 := Lib.hid hown3
        have HF := Lib.hid (below_next HB7.out hbw)
        have HMM := Lib.hid hM
        clear hbw hown2 hown3 hb13 m0 m1 m2 m3 HOD HOW2 HBW2 hL hM
        go_wp2
        go_loopw [87] (fun i wr => ∃ (q : Nat), q ≤ M ∧ i = .int .i64 q ∧ Hid (Below w13.heap.size w13 wr)) (fun i _ => M - (intOf i).toNat)
        case atStart => exact ⟨0, Nat.zero_le _, rfl, Lib.hid (Below.refl _ _)⟩
        case round =>
          obtain ⟨q2, hq2, rfl, hbr2⟩ := hrel
          by_cases hlt2 : q2 < M
          · obtain ⟨y, hy⟩ : ∃ y, L[q2]? = some y := ⟨_, List.getElem?_eq_getElem (by rw [← HMM.out]; exact hlt2)⟩
            have s0 := cell_u64 (own_below HW2.out hbr2.out) hy
            have s1 := cell_u64 (own_below HW3.out hbr2.out) hy
            clear hy
            go_wp2
            go_quiet (fail)
            go_wp2
            go_roundw
            case rel => exact ⟨q2 + 1, by omega, by go_num, Lib.hid (hbr2.out.drewN _)⟩
            case measure => simp [intOf] <;> omega
          · go_wp2
            go_ret
            exact ⟨rfl, below_next HF.out hbr2.out⟩
end Go.Proofs.YthehmnpbepmnpaaGreatDoorR
/- What a row's list of sentinels gives the walks: each variable's cell holds a pointer. -/
namespace Go.Proofs.YthehmnpbepmnpaaGreatDoorR
open Go.RowKit Go.ChangeShapes

theorem cellsErr : Tryz.prog.cellsOf 250 = 1 := by kernel_rfl
theorem cellsStr : Tryz.prog.cellsOf 9 = 1 := by kernel_rfl
theorem starErr : "*" ++ "errors.errorString" = "*errors.errorString" := by decide
/-- The one row of that name. -/
theorem rowErr (u : TypeId) (h : Tryz.prog.typeName? 3 u = some "*errors.errorString") : u = 248 :=
  typeName_ptr_named (nm := "errors.errorString") (by rw [starErr]; kernel_rfl) (by kernel_rfl) (by decide) u (by rw [starErr]; exact h)

/-- The head of the list: the variable's cell. -/
theorem sent_cell {n : String} {text : List UInt8} {r : List (String × DataW Unit)} {W : World} {g : Nat}
    (h : laidMet Tryz.prog ((n, .iface "*errors.errorString" (.ptr (.agg [.lit (.string text)]))) :: r) W) (hg : Tryz.prog.globalNamed n = some g) (ht : (Tryz.prog.globals[g]?).map (·.type) = some 79) :
    ∃ a : Addr, W.cell? ⟨g, 0, none⟩ = some (.iface 248 (.pointer (some a))) := by
  obtain ⟨a, s, hv, _, _, _⟩ := laid_sentinel h hg ht Tryz.underlying79 rowErr Tryz.underlying248 Tryz.underlying250 rfl rfl Tryz.underlying9 cellsErr cellsStr
  exact ⟨a, by have h0 := World.var?_cell hg hv 0; simpa using h0⟩

theorem gOver : Tryz.prog.globalNamed "pub-droshky/pub/varint.ErrOverflow" = some 4 := by kernel_rfl
theorem gOverT : (Tryz.prog.globals[4]?).map (·.type) = some 79 := by kernel_rfl
theorem gUnder : Tryz.prog.globalNamed "pub-droshky/pub/varint.ErrUnderflow" = some 6 := by kernel_rfl
theorem gUnderT : (Tryz.prog.globals[6]?).map (·.type) = some 79 := by kernel_rfl
theorem gNotMin : Tryz.prog.globalNamed "pub-droshky/pub/varint.ErrNotMinimal" = some 5 := by kernel_rfl
theorem gNotMinT : (Tryz.prog.globals[5]?).map (·.type) = some 79 := by kernel_rfl
theorem gShort : Tryz.prog.globalNamed "pub-droshky/pub/multihash.ErrTooShort" = some 11 := by kernel_rfl
theorem gShortT : (Tryz.prog.globals[11]?).map (·.type) = some 79 := by kernel_rfl
end Go.Proofs.YthehmnpbepmnpaaGreatDoorR
/- An identifier that comes in by value: its three numbers and its digest. -/
namespace Go.Proofs.YthehmnpbepmnpaaGreatDoorR
open Go.ChangeShapes Go.WideShapes Go.ChangeAt Go.RowKit

theorem cellsCid : Tryz.prog.cellsOf 25 = 4 := by kernel_rfl
theorem cellsU64c : Tryz.prog.cellsOf 23 = 1 := by kernel_rfl
theorem cellsStrc : Tryz.prog.cellsOf 9 = 1 := by kernel_rfl
theorem four {α : Type} {cs : Array α} (h : cs.size = 4) : ∃ c0 c1 c2 c3, cs = #[c0, c1, c2, c3] := by
  obtain ⟨l⟩ := cs
  match l, h with
  | [c0, c1, c2, c3], _ => exact ⟨c0, c1, c2, c3, rfl⟩

set_option maxRecDepth 100000 in
theorem open_cid {H : Type} {enc : TypeId × Value → H} {w : World} {base b0 : Nat} {spare : Nat → Bool} {held : Bool} {r : Reach} {v : Value} {d : DataW H} {ps : List MemPlace}
    (hval : Value.okWide Tryz.prog w r b0 25 v) (hd : DataW.Trod enc Tryz.prog w base spare held 25 v d ps) :
    ∃ (a b c : Int) (s : ByteArray), v = .agg #[.int .u64 a, .int .u64 b, .int .u64 c, .string s] ∧ d = .agg [.lit (.int .u64 a), .lit (.int .u64 b), .lit (.int .u64 c), .lit (.string s.data.toList)] ∧ ps = [] ∧
      (Lit.int .u64 a).wf = true ∧ (Lit.int .u64 b).wf = true ∧ (Lit.int .u64 c).wf = true ∧ s.size ≤ maxLen := by
  obtain ⟨cs, rfl, hsz⟩ := okWide_struct Tryz.underlying25 hval
  rw [cellsCid] at hsz
  obtain ⟨c0, c1, c2, c3, rfl⟩ := four hsz
  obtain ⟨fuel, hf⟩ := hd
  obtain ⟨xs, n, rfl, hx, _, hlen, hfs⟩ := DataW.trod_struct Tryz.underlying25 hf
  match xs, hlen with
  | [y0, y1, y2, y3], _ =>
  obtain ⟨a, e0, rfl, wa⟩ := DataW.trod_int Tryz.underlying23 (hfs 0 _ rfl)
  obtain ⟨b, e1, rfl, wb⟩ := DataW.trod_int Tryz.underlying23 (hfs 1 _ rfl)
  obtain ⟨c, e2, rfl, wc⟩ := DataW.trod_int Tryz.underlying23 (hfs 2 _ rfl)
  obtain ⟨e, e3, rfl, we⟩ := DataW.trod_string Tryz.underlying9 (hfs 3 _ rfl)
  simp [Value.cells, cellsU64c, cellsStrc] at e0 e1 e2 e3
  subst e0 e1 e2 e3
  simp only [Prod.mk.injEq] at hx
  obtain ⟨rfl, rfl⟩ := hx
  exact ⟨a, b, c, e, rfl, rfl, rfl, wa, wb, wc, we⟩

set_option maxRecDepth 100000 in
theorem shut_cid {H : Type} {enc : TypeId × Value → H} {w : World} {base : Nat} {spare : Nat → Bool} {held : Bool} {a b c : Int} {s : ByteArray} (wa : (Lit.int .u64 a).wf = true) (wb : (Lit.int .u64 b).wf = true) (wc : (Lit.int .u64 c).wf = true) (ws : s.size ≤ maxLen) :
    DataW.Trod enc Tryz.prog w base spare held 25 (.agg #[.int .u64 a, .int .u64 b, .int .u64 c, .string s]) (.agg [.lit (.int .u64 a), .lit (.int .u64 b), .lit (.int .u64 c), .lit (.string s.data.toList)]) [] := ⟨2, by
  have f0 : ∀ x : Int, (Lit.int .u64 x).wf = true → DataW.trod enc Tryz.prog w base spare held 1 23 [.int .u64 x] = some (.lit (.int .u64 x), []) := fun x hx => by simp [DataW.trod, Tryz.underlying23, hx]
  have f1 : DataW.trod enc Tryz.prog w base spare held 1 9 [.string s] = some (.lit (.string s.data.toList), []) := by simp [DataW.trod, Tryz.underlying9, ws]
  have := trod_struct_mk (enc := enc) (w := w) (base := base) (spare := spare) (held := held) (n := 1) (cs := [.int .u64 a, .int .u64 b, .int .u64 c, .string s]) (xs := [(.lit (.int .u64 a), []), (.lit (.int .u64 b), []), (.lit (.int .u64 c), []), (.lit (.string s.data.toList), [])]) Tryz.underlying25 (by simp [cellsCid])
    (by simp [cellsU64c, cellsStrc, f0 a wa, f0 b wb, f0 c wc, f1])
  simpa [Value.cells] using this⟩
end Go.Proofs.YthehmnpbepmnpaaGreatDoorR
/- A slice of entries that comes in. -/
namespace Go.Proofs.YthehmnpbepmnpaaGreatDoorR
open Go.ChangeShapes Go.WideShapes Go.ChangeAt Go.RowKit Go.Deep

theorem spot_none_es {w : World} {a : Addr} {v : Value} (h : w.cell? a = some v) : a = ⟨a.block, a.off, none⟩ := by
  unfold World.cell? at h
  obtain ⟨b, o, s⟩ := a
  cases s with
  | none => rfl
  | some x =>
    simp only at h
    split at h
    · simp at h
    · cases h
theorem addr_add_es {b o n : Nat} : (⟨b, o, none⟩ : Addr).add n = ⟨b, o + n, none⟩ := by
  by_cases h : n = 0 <;> simp [Addr.add, h]
theorem trod_places_lt {H : Type} {enc : TypeId × Value → H} {P : Program} {w : World} {base : Nat} {spare : Nat → Bool} {held : Bool} {t : TypeId} {v : Value} {d : DataW H} {ps : List MemPlace}
    (hd : DataW.Trod enc P w base spare held t v d ps) : ∀ x ∈ ps, x.block < w.heap.size := by
  obtain ⟨n, hn⟩ := hd
  exact DataW.trod_lt n _ _ _ hn
theorem laidOutE : laidOutB Tryz.prog = true := by kernel_rfl
theorem cellsEnt : Tryz.prog.cellsOf 29 = 5 := by kernel_rfl

set_option maxRecDepth 100000 in
theorem open_es {H : Type} {enc : TypeId × Value → H} {w : World} {base b0 : Nat} {spare : Nat → Bool} {held : Bool} {r : Reach} {v : Value} {d : DataW H} {ps : List MemPlace}
    (hval : Value.okWide Tryz.prog w r b0 22 v) (hd : DataW.Trod enc Tryz.prog w base spare held 22 v d ps) :
    ∃ xs : List EntD, ES w v xs ∧ xs.length ≤ maxLen := by
  obtain ⟨a0, len, cap, rfl⟩ := okWide_slice Tryz.underlying22 hval
  obtain ⟨fuel, hf⟩ := hd
  have hf2 : DataW.trod enc Tryz.prog w base spare held fuel 22 [.slice a0 len cap] = some (d, ps) := by simpa [Value.cells] using hf
  rcases Deep.open_slice Tryz.underlying22 hf2 with ⟨hcs, _⟩ | ⟨a, len', cap', m, n, D, Pl, hcs, _, hl, hm, hmm, _, hx⟩
  · simp only [List.cons.injEq, Value.slice.injEq, and_true] at hcs
    obtain ⟨rfl, rfl, rfl⟩ := hcs
    exact ⟨[], ⟨none, 0, rfl, by simp, fun h => by simp at h⟩, by simp⟩
  · simp only [List.cons.injEq, Value.slice.injEq, and_true] at hcs
    obtain ⟨rfl, rfl, rfl⟩ := hcs
    have hlm : len ≤ m := by rw [hmm]; split <;> omega
    have each : ∀ i, ∃ x : EntD, i < len → w.cell? (a.add (i * 5)) = some (.int .u64 x.cid.ver) ∧ w.cell? (a.add (i * 5 + 1)) = some (.int .u64 x.cid.codec) ∧ w.cell? (a.add (i * 5 + 2)) = some (.int .u64 x.cid.code) ∧ w.cell? (a.add (i * 5 + 3)) = some (.string ⟨x.cid.dig.toArray⟩) ∧ w.cell? (a.add (i * 5 + 4)) = some (.int .u64 x.off) := by
      intro i
      by_cases hi : i < len
      · obtain ⟨cs', h1, h2⟩ := hx i (by omega)
        rw [cellsEnt] at h1
        obtain ⟨_, hlen, hcell⟩ := World.cells?_some h1
        obtain ⟨ys, k0, _, _, _, hyl, hgs⟩ := DataW.trod_struct Tryz.underlying29 h2
        match ys, hyl, cs', hlen with
        | [z0, z1], _, [v0, v1, v2, v3, v4], _ =>
          have hc0 := hgs 0 _ rfl
          obtain ⟨f, e4, rfl, w4⟩ := DataW.trod_int Tryz.underlying23 (hgs 1 _ rfl)
          obtain ⟨xs, k, _, hxy, _, hxl, hfs⟩ := DataW.trod_struct Tryz.underlying25 hc0
          match xs, hxl with
          | [y0, y1, y2, y3], _ =>
          obtain ⟨p, e0, rfl, w0⟩ := DataW.trod_int Tryz.underlying23 (hfs 0 _ rfl)
          obtain ⟨q, e1, rfl, w1⟩ := DataW.trod_int Tryz.underlying23 (hfs 1 _ rfl)
          obtain ⟨s, e2, rfl, w2⟩ := DataW.trod_int Tryz.underlying23 (hfs 2 _ rfl)
          obtain ⟨g, e3, rfl, w3⟩ := DataW.trod_string Tryz.underlying9 (hfs 3 _ rfl)
          simp [cellsU64c, cellsStrc, cellsCid] at e0 e1 e2 e3 e4
          subst e0 e1 e2 e3 e4
          have b0' := bounds_u64 w0
          have b1' := bounds_u64 w1
          have b2' := bounds_u64 w2
          have b4' := bounds_u64 w4
          obtain ⟨p', rfl⟩ := Int.eq_ofNat_of_zero_le b0'.1
          obtain ⟨q', rfl⟩ := Int.eq_ofNat_of_zero_le b1'.1
          obtain ⟨s', rfl⟩ := Int.eq_ofNat_of_zero_le b2'.1
          obtain ⟨f', rfl⟩ := Int.eq_ofNat_of_zero_le b4'.1
          have g0 := hcell 0 (by omega)
          have g1 := hcell 1 (by omega)
          have g2 := hcell 2 (by omega)
          have g3 := hcell 3 (by omega)
          have g4 := hcell 4 (by omega)
          rw [add_add] at g0 g1 g2 g3 g4
          refine ⟨⟨⟨p', q', s', g.data.toList⟩, f'⟩, fun _ => ⟨by simpa using g0, by simpa using g1, by simpa using g2, ?_, by simpa using g4⟩⟩
          have := ba_mk g
          rw [show (⟨(⟨⟨p', q', s', g.data.toList⟩, f'⟩ : EntD).cid.dig.toArray⟩ : ByteArray) = g from this]
          simpa using g3
      · exact ⟨⟨⟨0, 0, 0, []⟩, 0⟩, fun h => absurd h hi⟩
    obtain ⟨q, hq⟩ := Classical.axiomOfChoice each
    have hlen : ((List.range len).map q).length = len := by simp
    refine ⟨(List.range len).map q, ⟨some a, cap, by rw [hlen], by rw [hlen]; exact hl, fun hpos => ?_⟩, by rw [hlen]; omega⟩
    rw [hlen] at hpos
    have h0 := (hq 0 hpos).1
    have e0 : a.add (0 * 5) = a := by simp [Addr.add]
    rw [e0] at h0
    have ea := spot_none_es h0
    refine ⟨a.block, a.off, by rw [← ea], fun j x hj => ?_⟩
    have hjl : j < len := by
      rcases Nat.lt_or_ge j len with h | h
      · exact h
      · rw [List.getElem?_eq_none (by rw [hlen]; exact h)] at hj; cases hj
    have hx : x = q j := by
      rw [List.getElem?_map, List.getElem?_range hjl] at hj
      simpa using hj.symm
    subst hx
    have h4 := hq j hjl
    rw [ea, addr_add_es, addr_add_es, addr_add_es, addr_add_es, addr_add_es] at h4
    exact h4
end Go.Proofs.YthehmnpbepmnpaaGreatDoorR
