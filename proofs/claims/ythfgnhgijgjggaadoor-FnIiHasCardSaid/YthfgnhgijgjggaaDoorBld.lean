/- Contracts of a strings.Builder that has been grown: copyCheck, WriteByte, Write. -/
import Derived.Test.YthfgnhgijgjggaaDoorMhB
import Derived.Test.YthfgnhgijgjggaaDoorRdrMem
import Derived.Lib.Builder
import Derived.Laws.AppendOwn
import Derived.OwnWalk
namespace Go.Proofs.YthfgnhgijgjggaaDoor
open Go.RowKit

abbrev BldAt (B b : Nat) (bs : List Value) (w : World) : Prop := Lib.BuilderAt 182 5 B b (.pointer (some ⟨b, 0, none⟩)) bs w

theorem bldInfo : ∃ j, Tryd.prog.info? 182 = some j := by
  have h : (Tryd.prog.info? 182).map (·.size) = some 2 := by kernel_rfl
  obtain ⟨i, hi, _⟩ := Option.map_eq_some_iff.1 h
  exact ⟨i, hi⟩

set_option maxRecDepth 100000 in
set_option maxHeartbeats 1000000 in
theorem copyCheck_used (b : Nat) (w : World) (h0 : w.cell? ⟨b, 0, none⟩ = some (.pointer (some ⟨b, 0, none⟩))) :
    Calls Tryd.prog 110 #[.pointer (some ⟨b, 0, none⟩)] w fun e w' => e = .returned (.tuple #[]) ∧ w = w' := by
  obtain ⟨j, hj⟩ := bldInfo
  have hne := Lib.run_neq_ptr_same (P := Tryd.prog) w ⟨b, 0, none⟩ Tryd.underlying180 hj
  go_enter Tryd.func110, Tryd.ntmps110
  go_wp2
  go_end0
  exact ⟨rfl, rfl⟩

theorem bld_neB : (182 : TypeId) ≠ 5 := by decide
theorem info_u8p : ∃ i, Tryd.prog.info? 5 = some i ∧ i.zero = some (.int .u8 0) ∧ i.size = 1 ∧ i.bytes = 1 := by
  obtain ⟨i, hi, h2⟩ := Option.map_eq_some_iff.1 info_u8
  simp only [Prod.mk.injEq] at h2
  exact ⟨i, hi, h2.1, h2.2.1, h2.2.2⟩

set_option maxRecDepth 100000 in
set_option maxHeartbeats 2000000 in
theorem bldWriteByte (B b : Nat) (bs : List Value) (c : Int) (w : World) (h : BldAt B b bs w) (hlen : bs.length + 1 ≤ 140737488355328) (hBw : B ≤ w.heap.size) :
    Calls Tryd.prog 95 #[.pointer (some ⟨b, 0, none⟩), .int .u8 c] w fun e w' => e = .returned .nilIface ∧ BldAt B b (bs ++ [.int .u8 c]) w' ∧ Below B w w' := by
  obtain ⟨i0, hi, hz0, hz1, hz2⟩ := info_u8p
  obtain ⟨hB, v, hbk, hown, hne⟩ := h
  have c0 : w.cell? ⟨b, 0, none⟩ = some (.pointer (some ⟨b, 0, none⟩)) := by rw [Lib.cell_of_heap hbk]; rfl
  have c1 : w.cell? ⟨b, 1, none⟩ = some v := by rw [Lib.cell_of_heap hbk]; rfl
  go_enter Tryd.func95, Tryd.ntmps95
  go_wp2_with fail
  refine (copyCheck_used b w c0).mono ?_
  rintro e w1 ⟨rfl, rfl⟩
  go_wp2_with (at_builtin; refine wpList_append_own _ rfl _ _ 43 rfl B 5 i0 (.int .u8 0) 1 1 Tryd.underlying43 hi hz0 hz1 hz2 rfl (by decide) _ _ _ rfl (hown.alloc _) ⟨w.heap.size, 0, none⟩ 1 1 [.int .u8 c] rfl rfl ?c1 ?c2 ?c3 ?c4 ?c5 ?_)
  case c1 =>
    intro j u hj
    match j, hj with
    | 0, hj => simp at hj; subst hj; simp [Addr.add]
  case c2 => intro u hu; simp at hu; subst hu; rfl
  case c3 => unfold maxLen; omega
  case c4 => omega
  case c5 => simp; omega
  intro v' w2 hown' hgrow _
  have hlt : b < w.heap.size := block_of_row hbk
  have hb2 : w2.heap[b]? = some (.cells #[.pointer (some ⟨b, 0, none⟩), v] 182 (0, 0)) := by
    rw [hgrow.block b (by simp; omega) (fun e => hne e.symm), Lib.alloc_old w _ b hlt]
    exact hbk
  have d0 : w2.cell? ⟨b, 0, none⟩ = some (.pointer (some ⟨b, 0, none⟩)) := by rw [Lib.cell_of_heap hb2]; rfl
  have d1 : w2.cell? ⟨b, 1, none⟩ = some v := by rw [Lib.cell_of_heap hb2]; rfl
  have f1 : w2.frozen? ⟨b, 1, none⟩ = false := Lib.frozen_of_heap hb2 1
  obtain ⟨g, cap, rfl⟩ : ∃ g cap, v' = .slice (some ⟨g, 0, none⟩) (bs.length + 1) cap := by
    rcases hown'.2 with ⟨_, h0⟩ | ⟨g, cap, cur, hv, _⟩
    · omega
    · exact ⟨g, cap, hv⟩
  go_wp2
  go_ret
  refine ⟨rfl, ?_, ?_⟩
  · exact Lib.BuilderAt.put (T := 182) (e := 5) hB hb2 (bs' := bs ++ [.int .u8 c]) (by simpa using hown') bld_neB
  · exact (((Below.refl B w).alloc hBw _).grown hgrow (by simp; omega) (fun k hk => (hown.lt k hk).1)).setCell (p := ⟨b, 1, none⟩) hB _

set_option maxRecDepth 100000 in
set_option maxHeartbeats 2000000 in
theorem bldWrite (B b : Nat) (bs : List Value) (A : Option Addr) (n c : Nat) (l : List UInt8) (w : World) (h : BldAt B b bs w) (hs : BS w (.slice A n c) l) (hn : 0 < n) (hlen : bs.length + n ≤ 140737488355328) (hBw : B ≤ w.heap.size) :
    Calls Tryd.prog 96 #[.pointer (some ⟨b, 0, none⟩), .slice A n c] w fun e w' => e = .returned (.tuple #[.int .i64 n, .nilIface]) ∧ BldAt B b (bs ++ Lib.byteCells l) w' ∧ Below B w w' := by
  obtain ⟨i0, hi, hz0, hz1, hz2⟩ := info_u8p
  obtain ⟨hB, v, hbk, hown, hne⟩ := h
  obtain ⟨hnl, _⟩ := hs.slice
  obtain ⟨b', o', rfl, hcl⟩ := hs.at_ hn
  have c0 : w.cell? ⟨b, 0, none⟩ = some (.pointer (some ⟨b, 0, none⟩)) := by rw [Lib.cell_of_heap hbk]; rfl
  have c1 : w.cell? ⟨b, 1, none⟩ = some v := by rw [Lib.cell_of_heap hbk]; rfl
  have hnews : ∀ j u, (Lib.byteCells l)[j]? = some u → w.cell? ((⟨b', o', none⟩ : Addr).add j) = some u := fun j u hv => by
    have hj : j < l.length := by
      rcases Nat.lt_or_ge j l.length with h | h
      · exact h
      · rw [List.getElem?_eq_none (by rw [Lib.byteCells_length]; exact h)] at hv; cases hv
    have ead : (⟨b', o', none⟩ : Addr).add j = ⟨b', o' + j, none⟩ := by by_cases h : j = 0 <;> simp [Addr.add, h]
    rw [ead, hcl j hj]
    simp [Lib.byteCells, List.getElem?_eq_getElem hj] at hv
    rw [hv]
  have hl : (Lib.byteCells l).length = n := by rw [Lib.byteCells_length]; exact hnl.symm
  generalize hNW : Lib.byteCells l = news at hnews hl
  have h1 : ∀ u ∈ news, u.oneCell' = true := by rw [← hNW]; exact Lib.byteCells_one l
  clear hNW hcl hs
  have HN := Lib.hid hnl
  have HL := Lib.hid hl
  have HNE := Lib.hid hnews
  clear hnl hl hnews
  go_enter Tryd.func96, Tryd.ntmps96
  go_wp2_with fail
  refine (copyCheck_used b w c0).mono ?_
  rintro e w1 ⟨rfl, rfl⟩
  go_wp2_with (at_builtin; refine wpList_append_own _ rfl _ _ 43 rfl B 5 i0 (.int .u8 0) 1 1 Tryd.underlying43 hi hz0 hz1 hz2 rfl (by decide) _ _ _ rfl hown ⟨b', o', none⟩ n c news rfl (by rw [HL.out]; omega) HNE.out h1 ?c3 ?c4 ?c5 ?_)
  case c3 => unfold maxLen; omega
  case c4 => omega
  case c5 => omega
  intro v' w2 hown' hgrow _
  have hlt : b < w.heap.size := block_of_row hbk
  have hb2 : w2.heap[b]? = some (.cells #[.pointer (some ⟨b, 0, none⟩), v] 182 (0, 0)) := by
    rw [hgrow.block b hlt (fun e => hne e.symm)]
    exact hbk
  have d0 : w2.cell? ⟨b, 0, none⟩ = some (.pointer (some ⟨b, 0, none⟩)) := by rw [Lib.cell_of_heap hb2]; rfl
  have d1 : w2.cell? ⟨b, 1, none⟩ = some v := by rw [Lib.cell_of_heap hb2]; rfl
  have f1 : w2.frozen? ⟨b, 1, none⟩ = false := Lib.frozen_of_heap hb2 1
  obtain ⟨ao, n', cap, rfl⟩ : ∃ ao n' cap, v' = .slice ao n' cap := by
    rcases hown'.2 with ⟨hv, _⟩ | ⟨g, cap, cur, hv, _⟩
    · exact ⟨_, _, _, hv⟩
    · exact ⟨_, _, _, hv⟩
  go_wp2
  go_ret2
  refine ⟨rfl, ?_, ?_⟩
  · exact Lib.BuilderAt.put (T := 182) (e := 5) hB hb2 (bs' := bs ++ news) (by rw [List.length_append, HL.out]; exact hown') bld_neB
  · exact ((Below.refl B w).grown hgrow hBw (fun k hk => (hown.lt k hk).1)).setCell (p := ⟨b, 1, none⟩) hB _
end Go.Proofs.YthfgnhgijgjggaaDoor
