/- Contracts: impl.C2Read: fewer than 40 bytes; a sound header. -/
import Derived.Test.YticnifjmicipnaaDoorC2J
namespace Go.Proofs.YticnifjmicipnaaDoor
open Go.RowKit

section
variable {P : Program}
theorem results_row_tmp2 {fn : Func} {p u u2 : Tmp} {ty : TypeId} (h : fn.results = #[.cell p ty, .tmp u, .tmp u2]) (tmps : Array Value) (w : World) (g : Nat) (t : TypeId) (cs : Array Value) (fr : Nat × Nat) (d : TypeDesc)
    (hp : tmps.getD p undef = .pointer (some ⟨g, 0, none⟩)) (hg : w.heap[g]? = some (.cells cs t fr))
    (hu : P.underlying ty = some d) (hd : (match d with | .struct _ | .array _ _ => true | _ => false) = true) (hi : (P.info? ty).map (·.size) = some cs.size) :
    (results fn tmps).run P w = .ok (.tuple #[.agg cs, tmps.getD u undef, tmps.getD u2 undef]) w := by
  have hp' : tmps[p]?.getD undef = .pointer (some ⟨g, 0, none⟩) := by simpa using hp
  simp only [results, h]
  simp [Result.andThen, hp', asAddr, run_loadVar_row w g t ty cs fr d hg hu hd hi]
end

abbrev hdZ : Obj := .cells #[.int .u64 0, .int .u64 0, .int .u64 0, .int .u64 0, .int .u64 0] 24
abbrev hcZ : Obj := .cells #[.int .u64 0, .int .u64 0, .int .u64 0, .int .u64 0, .int .u64 0] 49

/-- The two sentinels of package io, two objects. -/
structure IoS (w : World) (e0 e1 : Addr) : Prop where
  eof : ErrAt w.heap.size w 6 e0
  une : ErrAt w.heap.size w 7 e1
  ne : e0 ≠ e1
theorem IoS.below {w w' : World} {e0 e1 : Addr} (h : IoS w e0 e1) (hb : Below w.heap.size w w') : IoS w' e0 e1 := ⟨(h.eof.below hb).mono hb.size, (h.une.below hb).mono hb.size, h.ne⟩

set_option maxRecDepth 100000 in
set_option maxHeartbeats 1000000 in
theorem iC2Read_short (s : ByteArray) (w : World) (hs : s.size < 40) (e0 e1 : Addr) (he : IoS w e0 e1) :
    Calls Tryd.prog 9 #[.string s] w fun e w' => e = .returned (.tuple #[.agg #[.int .u64 0, .int .u64 0, .int .u64 0, .int .u64 0, .int .u64 0], .int .i64 0, .bool false]) ∧ Below w.heap.size w w' := by
  have hlen : s.data.toList.length = s.size := by rw [Array.length_toList]; rfl
  have hA : Below w.heap.size w ((w.alloc hdZ).alloc hcZ) := ((Below.refl _ _).alloc (Nat.le_refl _) _).alloc (by simp) _
  obtain ⟨c, w1, hconv, hb, hbs⟩ := conv_in ((w.alloc hdZ).alloc hcZ) s
  have hb1 := below_next hA hb
  have r1 : w1.heap[w.heap.size]? = some hdZ := row_below hb (by simp; omega) (heap_alloc2_old _ _ _)
  have r2 : w1.heap[w.heap.size + 1]? = some hcZ := row_below hb (by simp) (heap_alloc2_new _ _ _)
  rw [show ((w.alloc hdZ).alloc hcZ).heap.size = w.heap.size + 2 by simp] at hconv hbs
  have hz1 : w.heap.size + 2 ≤ w1.heap.size := by have := hb.size; simpa using this
  have hnr := newReader _ _ w1 hbs (by omega)
  have hoff : ∀ l, OffBlock (.slice (some ⟨w.heap.size + 2, 0, none⟩) s.size c) l (w.heap.size + 1) := fun l _ A n c' a e1' e2' => by
    injection e1' with e1'; rw [← e1'] at e2'; injection e2' with e2'; subst e2'; simp
  have H0 := Lib.hid (he.eof.below (hb1)).cell
  have HE := Lib.hid he
  have HNR := Lib.hid hnr
  have HOFF := Lib.hid hoff
  have HR1 := Lib.hid r1
  have HR2 := Lib.hid r2
  have HB1 := Lib.hid hb1
  have HL := Lib.hid hlen
  clear hb hbs hnr he hoff r1 r2 hA hb1 hlen H0
  go_enter Tryd.func9, Tryd.ntmps9
  go_wp2_with fail
  refine HNR.out.mono ?_
  rintro e w2 ⟨rfl, hr2, hz2, hb2⟩
  have hE2 := (HE.out.below HB1.out).below hb2
  have hrow2 := row_below hb2 (block_of_row HR2.out) HR2.out
  have HC := Lib.hid (headRead_short w1.heap.size (w.heap.size + 1) _ _ 0 _ _ _ _ _ _ w2 hr2 hrow2 (by omega) (HOFF.out _) (by rw [HL.out]; omega) e0 e1 ⟨by have := HE.out.eof.lt; omega, by have := HE.out.eof.lta; omega, hE2.eof.cell, hE2.eof.row⟩ ⟨by have := HE.out.une.lt; omega, by have := HE.out.une.lta; omega, hE2.une.cell, hE2.une.row⟩)
  go_wp2_with fail
  refine HC.out.mono ?_
  rintro e w3 ⟨⟨n, a, rfl⟩, hk3⟩
  have hr3 := hk3.row (row_below hb2 (block_of_row HR1.out) HR1.out) (fun h => by omega)
  have hb3 : Below w.heap.size w w3 := (HB1.out.trans (hb2.mono (by omega))).trans (hk3.below (fun k hk h => by omega) (by omega))
  clear HC hk3 hrow2 hE2 HE HNR HB1 HR1 HR2 HOFF
  have c0 := cell_of_row' (cur := [_, _, _, _, _]) hr3 0
  have f0 := frozen_of_row' (cur := [_, _, _, _, _]) hr3 0
  have c1 := cell_of_row' (cur := [_, _, _, _, _]) hr3 1
  have f1 := frozen_of_row' (cur := [_, _, _, _, _]) hr3 1
  have c2 := cell_of_row' (cur := [_, _, _, _, _]) hr3 2
  have f2 := frozen_of_row' (cur := [_, _, _, _, _]) hr3 2
  have c3 := cell_of_row' (cur := [_, _, _, _, _]) hr3 3
  have f3 := frozen_of_row' (cur := [_, _, _, _, _]) hr3 3
  have c4 := cell_of_row' (cur := [_, _, _, _, _]) hr3 4
  have f4 := frozen_of_row' (cur := [_, _, _, _, _]) hr3 4
  have HR3 := Lib.hid hr3
  clear hr3
  go_wp2
  refine bodyPost_ret (results_row_tmp2 rfl _ _ w.heap.size 24 #[.int .u64 0, .int .u64 0, .int .u64 0, .int .u64 0, .int .u64 0] (0, 0) _ ?h1 ?h2 Tryd.underlying24 rfl ?h5) ?h6 ?h7
  case h1 => rfl
  case h2 => simp [World.setCell, Array.getElem?_modify, HR3.out, hdZ]
  case h5 => kernel_rfl
  case h6 => rfl
  exact ⟨rfl, ((((hb3.setCell (by exact Nat.le_refl _) _).setCell (by exact Nat.le_refl _) _).setCell (by exact Nat.le_refl _) _).setCell (by exact Nat.le_refl _) _).setCell (by exact Nat.le_refl _) _⟩

set_option maxRecDepth 100000 in
set_option maxHeartbeats 1000000 in
theorem iC2Read_ok (s : ByteArray) (w : World) (hs : s.size ≤ 2147483647) (hok : hdOk s.data.toList 0) :
    Calls Tryd.prog 9 #[.string s] w fun e w' => e = .returned (.tuple #[.agg #[.int .u64 (leAt s.data.toList 0 0), .int .u64 (leAt s.data.toList 0 1), .int .u64 (leAt s.data.toList 0 2), .int .u64 (leAt s.data.toList 0 3), .int .u64 (leAt s.data.toList 0 4)], .int .i64 40, .bool true]) ∧ Below w.heap.size w w' := by
  have hlen : s.data.toList.length = s.size := by rw [Array.length_toList]; rfl
  have hA : Below w.heap.size w ((w.alloc hdZ).alloc hcZ) := ((Below.refl _ _).alloc (Nat.le_refl _) _).alloc (by simp) _
  obtain ⟨c, w1, hconv, hb, hbs⟩ := conv_in ((w.alloc hdZ).alloc hcZ) s
  have hb1 := below_next hA hb
  have r1 : w1.heap[w.heap.size]? = some hdZ := row_below hb (by simp; omega) (heap_alloc2_old _ _ _)
  have r2 : w1.heap[w.heap.size + 1]? = some hcZ := row_below hb (by simp) (heap_alloc2_new _ _ _)
  rw [show ((w.alloc hdZ).alloc hcZ).heap.size = w.heap.size + 2 by simp] at hconv hbs
  have hz1 : w.heap.size + 2 ≤ w1.heap.size := by have := hb.size; simpa using this
  have hnr := newReader _ _ w1 hbs (by omega)
  have hoff : ∀ l, OffBlock (.slice (some ⟨w.heap.size + 2, 0, none⟩) s.size c) l (w.heap.size + 1) := fun l _ A n c' a e1' e2' => by
    injection e1' with e1'; rw [← e1'] at e2'; injection e2' with e2'; subst e2'; simp
  have HNR := Lib.hid hnr
  have HOFF := Lib.hid hoff
  have HR1 := Lib.hid r1
  have HR2 := Lib.hid r2
  have HB1 := Lib.hid hb1
  have HOK := Lib.hid hok
  clear hb hbs hnr hoff r1 r2 hA hb1 hlen hok
  obtain ⟨n0, hn0⟩ : ∃ n : Int, n = (leAt s.data.toList 0 0 : Nat) := ⟨_, rfl⟩
  obtain ⟨n1, hn1⟩ : ∃ n : Int, n = (leAt s.data.toList 0 1 : Nat) := ⟨_, rfl⟩
  obtain ⟨n2, hn2⟩ : ∃ n : Int, n = (leAt s.data.toList 0 2 : Nat) := ⟨_, rfl⟩
  obtain ⟨n3, hn3⟩ : ∃ n : Int, n = (leAt s.data.toList 0 3 : Nat) := ⟨_, rfl⟩
  obtain ⟨n4, hn4⟩ : ∃ n : Int, n = (leAt s.data.toList 0 4 : Nat) := ⟨_, rfl⟩
  rw [← hn0, ← hn1, ← hn2, ← hn3, ← hn4]
  have HC : ∀ w2, Rdr w2 w1.heap.size (.slice (some ⟨w.heap.size + 2, 0, none⟩) s.size c) s.data.toList 0 → w2.heap[w.heap.size + 1]? = some hcZ → Hid (Calls Tryd.prog 20 #[.pointer (some ⟨w.heap.size + 1, 0, none⟩), rdV w1.heap.size] w2 fun e w' => e = .returned (.tuple #[.int .i64 40, .nilIface]) ∧ Rdr w' w1.heap.size (.slice (some ⟨w.heap.size + 2, 0, none⟩) s.size c) s.data.toList (0 + 40) ∧
      w'.heap[w.heap.size + 1]? = some (.cells #[.int .u64 n0, .int .u64 n1, .int .u64 n2, .int .u64 n3, .int .u64 n4] 49 (0, 0)) ∧ Keep (fun k => k = w1.heap.size ∨ k = w.heap.size + 1) w2 w') := fun w2 a b => Lib.hid (by
        rw [hn0, hn1, hn2, hn3, hn4]
        exact headRead_ok w1.heap.size (w.heap.size + 1) _ _ 0 _ _ _ _ _ _ w2 a b (by omega) (HOFF.out _) HOK.out)
  clear hn0 hn1 hn2 hn3 hn4 HOK
  go_enter Tryd.func9, Tryd.ntmps9
  go_wp2_with fail
  refine HNR.out.mono ?_
  rintro e w2 ⟨rfl, hr2, hz2, hb2⟩
  have HC2 := HC w2 hr2 (row_below hb2 (block_of_row HR2.out) HR2.out)
  clear HC
  go_wp2_with fail
  refine HC2.out.mono ?_
  rintro e w3 ⟨rfl, hr3', hq3, hk3⟩
  have hr3 := hk3.row (row_below hb2 (block_of_row HR1.out) HR1.out) (fun h => by omega)
  have hb3 : Below w.heap.size w w3 := (HB1.out.trans (hb2.mono (by omega))).trans (hk3.below (fun k hk h => by omega) (by omega))
  have d0 := cell_of_row' (cur := [_, _, _, _, _]) hq3 0
  have d1 := cell_of_row' (cur := [_, _, _, _, _]) hq3 1
  have d2 := cell_of_row' (cur := [_, _, _, _, _]) hq3 2
  have d3 := cell_of_row' (cur := [_, _, _, _, _]) hq3 3
  have d4 := cell_of_row' (cur := [_, _, _, _, _]) hq3 4
  have hz3 : w.heap.size + 2 ≤ w3.heap.size := Nat.le_trans (by omega) hk3.size
  have HR3 := Lib.hid hr3
  clear HC2 hk3 hr3' HNR HB1 HR1 HR2 HOFF hq3 hr3
  go_wp2_with fail
  refine (headOut_any _ _ _ _ _ w3).mono ?_
  rintro e w4 ⟨rfl, hb4⟩
  have hr4 := row_below hb4 (block_of_row HR3.out) HR3.out
  have c0 := cell_of_row' (cur := [_, _, _, _, _]) hr4 0
  have f0 := frozen_of_row' (cur := [_, _, _, _, _]) hr4 0
  have c1 := cell_of_row' (cur := [_, _, _, _, _]) hr4 1
  have f1 := frozen_of_row' (cur := [_, _, _, _, _]) hr4 1
  have c2 := cell_of_row' (cur := [_, _, _, _, _]) hr4 2
  have f2 := frozen_of_row' (cur := [_, _, _, _, _]) hr4 2
  have c3 := cell_of_row' (cur := [_, _, _, _, _]) hr4 3
  have f3 := frozen_of_row' (cur := [_, _, _, _, _]) hr4 3
  have c4 := cell_of_row' (cur := [_, _, _, _, _]) hr4 4
  have f4 := frozen_of_row' (cur := [_, _, _, _, _]) hr4 4
  have HR4 := Lib.hid hr4
  clear hr4 d0 d1 d2 d3 d4
  go_wp2
  have hb5 : Below w.heap.size w w4 := hb3.trans (hb4.mono (by omega))
  refine bodyPost_ret (results_row_tmp2 rfl _ _ w.heap.size 24 #[.int .u64 n0, .int .u64 n1, .int .u64 n2, .int .u64 n3, .int .u64 n4] (0, 0) _ ?h1 ?h2 Tryd.underlying24 rfl ?h5) ?h6 ?h7
  case h1 => rfl
  case h2 => simp [World.setCell, Array.getElem?_modify, HR4.out, hdZ]
  case h5 => kernel_rfl
  case h6 => rfl
  exact ⟨rfl, ((((hb5.setCell (by exact Nat.le_refl _) _).setCell (by exact Nat.le_refl _) _).setCell (by exact Nat.le_refl _) _).setCell (by exact Nat.le_refl _) _).setCell (by exact Nat.le_refl _) _⟩
end Go.Proofs.YticnifjmicipnaaDoor
