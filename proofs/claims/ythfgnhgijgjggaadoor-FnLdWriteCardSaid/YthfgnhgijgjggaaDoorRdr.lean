/- Contracts of a reader over bytes: (*bytes.Reader).Read, and io.ReadAtLeast, io.ReadFull over one, into a row that is known whole. -/
import Derived.Test.YthfgnhgijgjggaaDoorProg
import Derived.Test.YthfgnhgijgjggaaDoorRdrMem
import Derived.Test.YthfgnhgijgjggaaDoorUvB
import Derived.StillTailTactics
import Derived.Lib.BufferWrite
import Derived.Outline
import Derived.LaidEql
namespace Go.Proofs.YthfgnhgijgjggaaDoor
open Go.RowKit

abbrev Rdr (w : World) (p : Nat) (v : Value) (l : List UInt8) (i : Nat) : Prop := RdrT 163 w p v l i
abbrev errV (a : Addr) : Value := .iface 218 (.pointer (some a))
/-- Variable g holds the error a, an object of its own; both lie below B. -/
structure ErrAt (B : Nat) (w : World) (g : Nat) (a : Addr) : Prop where
  lt : g < B
  lta : a.block < B
  cell : w.cell? ⟨g, 0, none⟩ = some (errV a)
  row : ∃ cs t, w.heap[a.block]? = some (.cells cs t (0, 0))
theorem ErrAt.keep {B : Nat} {S : Nat → Prop} {w w' : World} {g : Nat} {a : Addr} (h : ErrAt B w g a) (hb : Keep S w w') (hS : ∀ k, S k → B ≤ k) : ErrAt B w' g a := by
  obtain ⟨cs, t, hr⟩ := h.row
  exact ⟨h.lt, h.lta, hb.cell h.cell (fun hh => by have h1 := hS _ hh; have h2 := h.lt; exact absurd h1 (Nat.not_le.2 h2)), cs, t, hb.row hr (fun hh => by have h1 := hS _ hh; have h2 := h.lta; exact absurd h1 (Nat.not_le.2 h2))⟩
theorem ErrAt.below {B : Nat} {w w' : World} {g : Nat} {a : Addr} (h : ErrAt B w g a) (hb : Below w.heap.size w w') : ErrAt B w' g a := h.keep (S := fun _ => False) hb.keep (fun _ h => h.elim)
theorem ErrAt.drew {B : Nat} {w : World} {g : Nat} {a : Addr} (h : ErrAt B w g a) : ErrAt B w.drew g a := h.keep (keep_drew (fun _ => False) w) (fun _ h => h.elim)
theorem ErrAt.mono {B C : Nat} {w : World} {g : Nat} {a : Addr} (h : ErrAt B w g a) (hB : B ≤ C) : ErrAt C w g a := ⟨Nat.lt_of_lt_of_le h.lt hB, Nat.lt_of_lt_of_le h.lta hB, h.cell, h.row⟩
theorem ErrAt.size {B : Nat} {w : World} {g : Nat} {a : Addr} (h : ErrAt B w g a) : ErrAt w.heap.size w g a := by
  obtain ⟨cs, t, hr⟩ := h.row
  exact ⟨block_of_cell h.cell, block_of_row hr, h.cell, cs, t, hr⟩
theorem errInfo : ∃ i, Tryd.prog.info? 218 = some i ∧ i.comparable = true := by
  have h : (Tryd.prog.info? 218).map (·.comparable) = some true := by kernel_rfl
  obtain ⟨i, hi, h2⟩ := Option.map_eq_some_iff.1 h
  exact ⟨i, hi, h2⟩
theorem errInfo2 : ∃ i, Tryd.prog.info? 220 = some i ∧ i.size ≠ 0 := by
  have h : (Tryd.prog.info? 220).map (·.size) = some 1 := by kernel_rfl
  obtain ⟨i, hi, h2⟩ := Option.map_eq_some_iff.1 h
  exact ⟨i, hi, by omega⟩
/-- '==' of errors: one and the same; two. -/
theorem run_eqErr_same (a : Addr) (w : World) : (binOp .eql 84 (errV a) (errV a)).run Tryd.prog w = .ok (.bool true) w := by
  obtain ⟨i, hi, hc⟩ := errInfo
  obtain ⟨j, hj, _⟩ := errInfo2
  exact run_eql_iface_ptr_same w a Tryd.underlying84 Tryd.underlying218 hi hc hj
theorem run_eqErr_other {a b : Addr} {w : World} (hne : a ≠ b) (ha : ∃ cs t, w.heap[a.block]? = some (.cells cs t (0, 0))) (hb : ∃ cs t, w.heap[b.block]? = some (.cells cs t (0, 0))) :
    (binOp .eql 84 (errV a) (errV b)).run Tryd.prog w = .ok (.bool false) w := by
  obtain ⟨i, hi, hc⟩ := errInfo
  obtain ⟨j, hj, hz⟩ := errInfo2
  obtain ⟨ca, ta, ha⟩ := ha
  obtain ⟨cb, tb, hb⟩ := hb
  exact run_eql_iface_ptr_other w Tryd.underlying84 Tryd.underlying218 hi hc hj hz hne ha hb

theorem hsz1 : (Tryd.prog.info? 5).map (·.size) = some 1 := by kernel_rfl

set_option maxRecDepth 100000 in
set_option maxHeartbeats 1000000 in
/-- Bytes that are there are read. -/
theorem rdRead_some (p g o m c : Nat) (v : Value) (l : List UInt8) (i : Nat) (cur : List Value) (t : TypeId) (A : Option Addr) (w : World) (hr : Rdr w p v l i) (hi : i < l.length) (hpg : p < g)
    (hg : w.heap[g]? = some (.cells cur.toArray t (0, 0))) (hA : 0 < m → A = some ⟨g, o, none⟩) (hfit : o + m ≤ cur.length) :
    Calls Tryd.prog 141 #[.pointer (some ⟨p, 0, none⟩), .slice A m c] w fun e w' => e = .returned (.tuple #[.int .i64 (min m (l.length - i) : Nat), .nilIface]) ∧ Rdr w' p v l (i + min m (l.length - i)) ∧
      Hid (w'.heap[g]? = some (.cells (splice cur o (Lib.byteCells ((l.drop i).take m))).toArray t (0, 0))) ∧ Keep (fun k => k = p ∨ k = g) w w' := by
  obtain ⟨⟨r, hrow⟩, ⟨⟨A0, c0, rfl, hc0, hcl⟩, hout⟩, hle, hfits⟩ := hr
  have h0 : w.cell? ⟨p, 0, none⟩ = some (.slice A0 l.length c0) := by rw [cell_of_row' (cur := [_, _, _]) hrow]; rfl
  have h1 : w.cell? ⟨p, 1, none⟩ = some (.int .i64 i) := by rw [cell_of_row' (cur := [_, _, _]) hrow]; rfl
  have h2 : w.cell? ⟨p, 2, none⟩ = some (.int .i64 r) := by rw [cell_of_row' (cur := [_, _, _]) hrow]; rfl
  have f2 : w.frozen? ⟨p, 2, none⟩ = false := frozen_of_row' (cur := [_, _, _]) hrow 2
  have f1 : w.frozen? ⟨p, 1, none⟩ = false := frozen_of_row' (cur := [_, _, _]) hrow 1
  have hsl := fun W => run_from (P := Tryd.prog) Tryd.underlying43 info_u8 A0 l.length c0 i (by omega) W
  obtain ⟨N, hN⟩ : ∃ N, N = l.length := ⟨_, rfl⟩
  have HN := Lib.hid hN
  have HG := Lib.hid hg
  have HC := Lib.hid hcl
  have HO := Lib.hid hout
  have HF := Lib.hid hfit
  have HROW := Lib.hid hrow
  have HC0 := Lib.hid hc0
  rw [← hN] at hsl h0 hi hfits
  clear hg hcl hout hfit hle hc0 hrow hN
  go_enter Tryd.func141, Tryd.ntmps141
  go_wp2
  go_quiet (fail)
  go_wp2
  have k1 : Keep (fun k => k = p) w ((w.drewN nq).setCell ⟨p, 2, none⟩ (.int .i64 (-1))) := Keep.setCell (S := fun k => k = p) (keep_drewN _ w nq) (show p = p from rfl) _ _
  have hrow2 := Lib.heap_setCell_same (i := 2) (w := w.drewN nq) (HROW.out : (w.drewN nq).heap[p]? = _) (.int .i64 (-1))
  generalize (w.drewN nq).setCell ⟨p, 2, none⟩ (.int .i64 (-1)) = w2 at k1 hrow2 ⊢
  clear h0 h1 h2 f2 f1
  have hrow3 : w2.heap[p]? = some (.cells #[.slice A0 l.length c0, .int .i64 i, .int .i64 (-1)] 163 (0, 0)) := hrow2
  rw [← HN.out] at hrow3
  have h0 : w2.cell? ⟨p, 0, none⟩ = some (.slice A0 N c0) := by rw [cell_of_row' (cur := [_, _, _]) hrow3]; rfl
  have h1 : w2.cell? ⟨p, 1, none⟩ = some (.int .i64 i) := by rw [cell_of_row' (cur := [_, _, _]) hrow3]; rfl
  have f1 : w2.frozen? ⟨p, 1, none⟩ = false := frozen_of_row' (cur := [_, _, _]) hrow3 1
  have HROW3 := Lib.hid hrow3
  clear hrow2 hrow3
  go_still_tail 10, (by kernel_rfl)
  change wpList _ _ _ _ _ w2.drew
  have k2 : Keep (fun k => k = p) w w2.drew := k1.drewN 1
  have hrow3 : w2.drew.heap[p]? = some (.cells #[.slice A0 N c0, .int .i64 i, .int .i64 (-1)] 163 (0, 0)) := HROW3.out
  generalize w2.drew = w3 at k2 hrow3 ⊢
  clear h0 h1 f1 k1 HROW3
  have hg3 := k2.row HG.out (by omega)
  have hb3 : BSo (fun k => p ≤ k) w3 (.slice A0 l.length c0) l := BSo.keep ⟨⟨A0, c0, rfl, by have := HC0.out; omega, HC.out⟩, HO.out⟩ (k2.mono fun _ _ e => by omega)
  have hfrom := (hb3.bs.from_ (P := Tryd.prog) Tryd.underlying43 info_u8 i (by rw [← HN.out]; omega)).2
  have hlenD : (l.drop i).length = N - i := by rw [List.length_drop, HN.out]
  obtain ⟨K, hK⟩ : ∃ K, K = min m (N - i) := ⟨_, rfl⟩
  have hlen : (Lib.byteCells ((l.drop i).take m)).length = K := by rw [Lib.byteCells_length, List.length_take, hlenD, hK]
  have hpos : 0 < (Lib.byteCells ((l.drop i).take m)).length → A = some ⟨g, o, none⟩ ∧ ∃ ad, cutA A0 c0 i = some ad ∧ ∀ j v, (Lib.byteCells ((l.drop i).take m))[j]? = some v → w3.cell? (ad.add j) = some v := by
    intro hp
    rw [hlen] at hp
    refine ⟨hA (by omega), ?_⟩
    rw [← HN.out] at hfrom
    obtain ⟨b, o', e, hcell⟩ := hfrom.at_ (by omega)
    refine ⟨_, e, fun j v hv => ?_⟩
    have hj : j < ((l.drop i).take m).length := by
      rcases Nat.lt_or_ge j ((l.drop i).take m).length with h | h
      · exact h
      · rw [List.getElem?_eq_none (by rw [Lib.byteCells_length]; exact h)] at hv; cases hv
    have ead : (⟨b, o', none⟩ : Addr).add j = ⟨b, o' + j, none⟩ := by by_cases h : j = 0 <;> simp [Addr.add, h]
    have hj2 : j < (l.drop i).length := by rw [List.length_take] at hj; omega
    rw [ead, hcell j hj2]
    simp only [Lib.byteCells, List.getElem?_map, List.getElem?_eq_getElem hj, Option.map_some, Option.some.injEq] at hv
    rw [← hv, List.getElem_take]
  have hn : (Lib.byteCells ((l.drop i).take m)).length = Nat.min (N - i) m := by rw [hlen, hK]; exact Nat.min_comm _ _
  have hfit2 : o + (Lib.byteCells ((l.drop i).take m)).length ≤ cur.length := by rw [hlen]; have := HF.out; omega
  have h1c := Lib.byteCells_one ((l.drop i).take m)
  have hrow4 : ∀ w4, Keep (fun k => k = g) w3 w4 → w4.heap[p]? = some (.cells #[.slice A0 N c0, .int .i64 i, .int .i64 (-1)] 163 (0, 0)) := fun w4 hk => hk.row hrow3 (by omega)
  refine wpList_copy_keep rfl (.tmp 20) (.tmp 29) 43 43 rfl 5 Tryd.underlying43 hsz1 A (cutA A0 c0 i) m c (N - i) (c0 - i) rfl rfl g o cur t hg3 _ hn hpos hfit2 h1c ?_
  intro w4 hg4 hk4
  have hr4 := hrow4 w4 hk4
  have h1 : w4.cell? ⟨p, 1, none⟩ = some (.int .i64 i) := by rw [cell_of_row' (cur := [_, _, _]) hr4]; rfl
  have f1 : w4.frozen? ⟨p, 1, none⟩ = false := frozen_of_row' (cur := [_, _, _]) hr4 1
  rw [hlen]
  have HR4 := Lib.hid hr4
  have HB3 := Lib.hid hb3
  have HK := Lib.hid hK
  have hKN : i + K ≤ N := by omega
  clear hr4 hrow4 hb3 hfrom hlenD hlen hpos hn hfit2 h1c hg3 hrow3 hA hK
  go_wp2
  go_ret2
  have eK2 : min m (l.length - i) = K := by rw [← HN.out, HK.out]
  rw [eK2]
  have hk5 : Keep (fun k => k = p ∨ k = g) w4 (w4.setCell ⟨p, 1, none⟩ (.int .i64 ((i : Int) + K))) := Keep.setCell (Keep.refl _ _) (Or.inl rfl) _ _
  have hk3 : Keep (fun k => k = p ∨ k = g) w3 (w4.setCell ⟨p, 1, none⟩ (.int .i64 ((i : Int) + K))) := (hk4.mono fun _ _ h => Or.inr h).trans hk5
  refine ⟨rfl, ⟨⟨-1, ?_⟩, ?_, ?_, ?_⟩, Lib.hid ?_, ?_⟩
  · have h := Lib.heap_setCell_same (i := 1) HR4.out (.int .i64 ((i : Int) + K))
    rw [← HN.out]
    rw [h]; rfl
  · exact HB3.out.keep (hk3.mono fun _ _ h => by omega)
  · rw [← HN.out]; exact hKN
  · rw [← HN.out]; exact hfits
  · rw [← hg4.out]; exact Below.heap_setCell _ _ _ _ (by show g ≠ p; omega)
  · exact (k2.mono fun _ _ h => Or.inl h).trans hk3

set_option maxRecDepth 100000 in
set_option maxHeartbeats 1000000 in
/-- Behind the last byte the end is told. -/
theorem rdRead_end (p m c : Nat) (v : Value) (l : List UInt8) (i : Nat) (A : Option Addr) (w : World) (hr : Rdr w p v l i) (hi : i = l.length) (e0 : Addr) (he : ErrAt p w 0 e0) :
    Calls Tryd.prog 141 #[.pointer (some ⟨p, 0, none⟩), .slice A m c] w fun e w' => e = .returned (.tuple #[.int .i64 0, errV e0]) ∧ Keep (fun _ => False) w w' := by
  obtain ⟨⟨r, hrow⟩, ⟨⟨A0, c0, rfl, hc0, hcl⟩, hout⟩, hle, hfits⟩ := hr
  have h0 : w.cell? ⟨p, 0, none⟩ = some (.slice A0 l.length c0) := by rw [cell_of_row' (cur := [_, _, _]) hrow]; rfl
  have h1 : w.cell? ⟨p, 1, none⟩ = some (.int .i64 i) := by rw [cell_of_row' (cur := [_, _, _]) hrow]; rfl
  have he := he.cell
  clear hcl hout hle hc0 hrow
  go_enter Tryd.func141, Tryd.ntmps141
  go_wp2
  go_quiet (fail)
  go_wp2
  go_quiet (fail)
  go_wp2
  go_ret2
  exact ⟨rfl, (keep_drewN _ _ _).drewN _⟩

theorem nil_rdRead (a : Addr) (w : World) : (nilAhead 359 99 (.pointer (some a)) "Read").run Tryd.prog w = .ok (some false) w := by kernel_rfl
theorem method_rdRead (a : Addr) (w : World) : (method 359 99 (.pointer (some a)) "Read").run Tryd.prog w = .ok (141, .pointer (some a)) w := by kernel_rfl

abbrev rdV (p : Nat) : Value := .iface 99 (.pointer (some ⟨p, 0, none⟩))

set_option maxRecDepth 100000 in
set_option maxHeartbeats 1000000 in
theorem rdAtLeast_ok (p g n c : Nat) (v : Value) (l : List UInt8) (i : Nat) (cur : List Value) (t : TypeId) (w : World) (hr : Rdr w p v l i) (hpg : p < g)
    (hg : w.heap[g]? = some (.cells cur.toArray t (0, 0))) (hn0 : 0 < n) (hn : cur.length = n) (hi : i + n ≤ l.length) :
    Calls Tryd.prog 107 #[rdV p, .slice (some ⟨g, 0, none⟩) n c, .int .i64 n] w fun e w' => e = .returned (.tuple #[.int .i64 n, .nilIface]) ∧ Rdr w' p v l (i + n) ∧
      Hid (w'.heap[g]? = some (.cells (Lib.byteCells ((l.drop i).take n)).toArray t (0, 0))) ∧ Keep (fun k => k = p ∨ k = g) w w' := by
  have hL := hr.fits
  have HR := Lib.hid (rdRead_some p g 0 n c v l i cur t (some ⟨g, 0, none⟩) w.drew hr.drew (by omega) hpg hg (fun _ => rfl) (by omega))
  have HRd := Lib.hid hr
  have b1 : n ≤ 9223372036854775807 := by omega
  have hmin : min n (l.length - i) = n := by omega
  have HMIN := Lib.hid hmin
  have hlen : (Lib.byteCells ((l.drop i).take n)).length = cur.length := by rw [Lib.byteCells_length, List.length_take, List.length_drop]; omega
  have HLEN := Lib.hid hlen
  clear hlen
  have hsl := fun W => run_from (P := Tryd.prog) Tryd.underlying43 info_u8 (some ⟨g, 0, none⟩) n c 0 (by omega) W
  have hmf : ∀ (fn : Fn) (first cap : Array Value) (w : World), (Instr.makeFunc fn first cap).run Tryd.prog w = .ok (.func fn first cap) w := fun _ _ _ _ => rfl
  clear hr hg hn hmin hi hL
  go_enter Tryd.func107, Tryd.ntmps107
  go_wp2
  refine wp_loop_rounds 2 ?_
  rw [rounds_succ]
  go_wp2_with fail
  have hna := fun w => nil_rdRead ⟨p, 0, none⟩ w
  have hme := fun w => method_rdRead ⟨p, 0, none⟩ w
  go_region_with (go_at_call 141; refine HR.out.mono ?_; rw [HMIN.out]; rintro e w1 ⟨rfl, hr1, hg1, hk1⟩)
  go_wp2
  rw [rounds_succ]
  go_wp2
  go_ret2
  refine ⟨rfl, hr1, ?_, (keep_drew _ w).trans hk1⟩
  rw [splice_whole _ _ HLEN.out] at hg1
  exact hg1

set_option maxRecDepth 100000 in
set_option maxHeartbeats 1000000 in
theorem rdAtLeast_end (p n c g : Nat) (v : Value) (l : List UInt8) (i : Nat) (w : World) (hr : Rdr w p v l i) (hn0 : 0 < n) (b1 : n ≤ 9223372036854775807) (hi : i = l.length) (e0 : Addr) (he : ErrAt p w 0 e0) :
    Calls Tryd.prog 107 #[rdV p, .slice (some ⟨g, 0, none⟩) n c, .int .i64 n] w fun e w' => e = .returned (.tuple #[.int .i64 0, errV e0]) ∧ Keep (fun _ => False) w w' := by
  have HR := Lib.hid (rdRead_end p n c v l i (some ⟨g, 0, none⟩) w.drew hr.drew hi e0 he.drew)
  have hsl := fun W => run_from (P := Tryd.prog) Tryd.underlying43 info_u8 (some ⟨g, 0, none⟩) n c 0 (by omega) W
  have hmf : ∀ (fn : Fn) (first cap : Array Value) (w : World), (Instr.makeFunc fn first cap).run Tryd.prog w = .ok (.func fn first cap) w := fun _ _ _ _ => rfl
  have hna := fun w => nil_rdRead ⟨p, 0, none⟩ w
  have hme := fun w => method_rdRead ⟨p, 0, none⟩ w
  have he := he.cell
  clear hr hi
  go_enter Tryd.func107, Tryd.ntmps107
  go_wp2
  refine wp_loop_rounds 2 ?_
  rw [rounds_succ]
  go_wp2_with fail
  go_region_with (go_at_call 141; refine HR.out.mono ?_; rintro e w1 ⟨rfl, hk1⟩)
  go_wp2
  rw [rounds_succ]
  go_wp2
  go_ret2
  exact ⟨rfl, (keep_drew _ w).trans hk1⟩
end Go.Proofs.YthfgnhgijgjggaaDoor
