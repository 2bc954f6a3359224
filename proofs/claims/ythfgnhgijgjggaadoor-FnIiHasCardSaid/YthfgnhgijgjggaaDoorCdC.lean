/- Contracts of package cid: NewCidV1. -/
import Derived.Test.YthfgnhgijgjggaaDoorBld
import Derived.Test.YthfgnhgijgjggaaDoorCidPlain
import Derived.Test.YthfgnhgijgjggaaDoorMhC
namespace Go.Proofs.YthfgnhgijgjggaaDoor
open Go.RowKit

theorem BldAt.below {B b : Nat} {bs : List Value} {w w' : World} (h : BldAt B b bs w) (hb : Below w.heap.size w w') : BldAt B b bs w' := by
  obtain ⟨hB, v, hbk, hown, hne⟩ := h
  refine ⟨hB, v, (hb.block b (block_of_row hbk)).trans hbk, ?_, hne⟩
  obtain ⟨h1, h2⟩ := hown
  refine ⟨h1, ?_⟩
  rcases h2 with h2 | ⟨g, cap, cur, e1, e2, e3, e4⟩
  · exact .inl h2
  · exact .inr ⟨g, cap, cur, e1, e2, (hb.block g (block_of_row e3)).trans e3, e4⟩

theorem run_arr10 (g L : Nat) (h : L ≤ 10) (W : World) : (Instr.sliceAt 185 (.pointer (some ⟨g, 0, none⟩)) none (some (.int .i64 (L : Int))) none).run Tryd.prog W = .ok (.slice (some ⟨g, 0, none⟩) L 10) W := by
  have e1 : Tryd.prog.arrayLen 185 = 10 := by kernel_rfl
  have e2 : Tryd.prog.elem 185 = 5 := by kernel_rfl
  have ht : Tryd.prog.underlying 185 = some (.array (Tryd.prog.arrayLen 185) (Tryd.prog.elem 185)) := by rw [e1, e2]; exact Tryd.underlying185
  rw [run_sliceAt_array_h W _ _ ht .i64 _ (by omega) (by rw [e1]; omega), e1, e2, run_size info_u8]
  simp [Result.andThen, slicedAt, Addr.add]

theorem byteCells_one' (l : List UInt8) : ([] : List Value) ++ [Value.int .u8 1] ++ Lib.byteCells l = Lib.byteCells (1 :: l) := rfl

set_option maxRecDepth 100000 in
set_option maxHeartbeats 2000000 in
theorem newCidV1 (codec : Nat) (hc : codec < 18446744073709551616) (A : Option Addr) (n c : Nat) (l : List UInt8) (w : World) (hs : BS w (.slice A n c) l) (hn : 0 < n) (hn2 : n ≤ 4294967296) :
    Calls Tryd.prog 71 #[.int .u64 codec, .slice A n c] w fun e w' => e = .returned (.agg #[.string ⟨(1 :: (Lib.uvarint codec ++ l)).toArray⟩]) ∧ Below w.heap.size w w' := by
  have hlen := Lib.uvarint_length64 hc
  have hpos := Lib.uvarint_pos codec
  obtain ⟨hnl, _⟩ := hs.slice
  obtain ⟨L, hL⟩ : ∃ L, L = (Lib.uvarint codec).length := ⟨_, rfl⟩
  rw [← hL] at hlen hpos
  have HL := Lib.hid hL
  have HNL := Lib.hid hnl
  have HS := Lib.hid hs
  clear hL hnl hs
  have hW : Below w.heap.size w ((w.alloc (.cells #[.string ⟨#[]⟩] 80)).alloc (.cells #[.pointer none, .slice none 0 0] 182)) := ((Below.refl _ _).alloc (Nat.le_refl _) _).alloc (by simp) _
  go_enter Tryd.func71, Tryd.ntmps71
  go_wp2_with fail
  refine (uvSize_any codec _ hc).mono ?_
  rw [← HL.out]
  rintro e w' ⟨rfl, rfl⟩
  go_wp2_with fail
  have hrow0 : ((w.alloc (.cells #[.string ⟨#[]⟩] 80)).alloc (.cells #[.pointer none, .slice none 0 0] 182)).heap[w.heap.size]? = some (.cells #[.string ⟨#[]⟩] 80 (0, 0)) := heap_alloc2_old _ _ _
  have hrow1 : ((w.alloc (.cells #[.string ⟨#[]⟩] 80)).alloc (.cells #[.pointer none, .slice none 0 0] 182)).heap[w.heap.size + 1]? = some (.cells #[.pointer none, .slice none 0 0] 182 (0, 0)) := heap_alloc2_new _ _ _
  have HG := Lib.hid (Tryd.Builder_Grow_fresh (w.heap.size + 1) (w.heap.size + 1) (1 + L + n) _ (Nat.le_refl _) hrow1 (by simp) (by omega))
  generalize hw1 : (w.alloc (.cells #[.string ⟨#[]⟩] 80)).alloc (.cells #[.pointer none, .slice none 0 0] 182) = w1 at *
  have hz1 : w1.heap.size = w.heap.size + 2 := by rw [← hw1]; simp
  clear hw1
  have HZ1 := Lib.hid hz1
  clear hz1 hrow1
  have HR0 := Lib.hid hrow0
  clear hrow0
  refine HG.out.mono ?_
  rintro e w2 ⟨rfl, hB2, hb2⟩
  have hW2 : Below w.heap.size w w2 := hW.trans (hb2.mono (by omega))
  have hz2 : w.heap.size + 2 ≤ w2.heap.size := by have := hb2.size; have := HZ1.out; omega
  have hr2 : w2.heap[w.heap.size]? = some (.cells #[.string ⟨#[]⟩] 80 (0, 0)) := (hb2.block _ (by omega)).trans HR0.out
  clear HG hW hb2
  go_wp2_with fail
  refine (bldWriteByte (w.heap.size + 1) (w.heap.size + 1) [] 1 w2 hB2 (by simp) (by omega)).mono ?_
  rintro e w3 ⟨rfl, hB3, hb3⟩
  have hW3 : Below w.heap.size w w3 := hW2.trans (hb3.mono (by omega))
  have hz3 : w.heap.size + 2 ≤ w3.heap.size := by have := hb3.size; omega
  have hr3 := (hb3.block _ (by omega)).trans hr2
  clear hW2 hr2 hb3 hB2
  have hrow4 := heap_alloc_new w3 (.cells #[.int .u8 0, .int .u8 0, .int .u8 0, .int .u8 0, .int .u8 0, .int .u8 0, .int .u8 0, .int .u8 0, .int .u8 0, .int .u8 0] 185)
  have HP := Lib.hid (putUvW_any w3.heap.size 0 10 10 codec (List.replicate 10 (Value.int .u8 0)) 185 _ hc hrow4 (by simp [← HL.out]; omega) (by rw [← HL.out]; omega))
  rw [← HL.out] at HP
  have hb4 : Below w3.heap.size w3 (w3.alloc (.cells #[.int .u8 0, .int .u8 0, .int .u8 0, .int .u8 0, .int .u8 0, .int .u8 0, .int .u8 0, .int .u8 0, .int .u8 0, .int .u8 0] 185)) := (Below.refl _ _).alloc (Nat.le_refl _) _
  clear hrow4
  go_wp2_with fail
  refine HP.out.mono ?_
  rintro e w4 ⟨rfl, hr4, ht4⟩
  have hb5 : Below w3.heap.size w3 w4 := hb4.trans (ht4.below (Nat.le_refl _))
  have hz4 : w4.heap.size = w3.heap.size + 1 := by rw [ht4.size]; simp
  have hW4 : Below w.heap.size w w4 := below_next hW3 hb5
  have hB4 := hB3.below hb5
  have hr4' := (hb5.block _ (by omega)).trans hr3
  have hbs4 : BS w4 (.slice (some ⟨w3.heap.size, 0, none⟩) L 10) (Lib.uvarint codec) := by
    have hh := BS.of_cells (w := w4) (b := w3.heap.size) (o := 0) (c := 10) (l := Lib.uvarint codec) (by rw [← HL.out]; omega) (fun j hj => by
      rw [← HL.out] at hj
      rw [Nat.zero_add, cell_of_row' hr4.out, splice_get _ _ _ (by rw [Lib.byteCells_length, List.length_replicate, ← HL.out]; omega), if_pos (by rw [Lib.byteCells_length, ← HL.out]; omega)]
      simp [Lib.byteCells, List.getElem?_eq_getElem (by rw [← HL.out]; exact hj : j < (Lib.uvarint codec).length)])
    rw [← HL.out] at hh
    exact hh
  have HBS4 := Lib.hid hbs4
  have HZ4 := Lib.hid hz4
  clear hbs4 hz4 ht4 hr4 hb4 HP hB3 hr3
  have hz5 : w.heap.size + 2 ≤ w4.heap.size := by have := HZ4.out; omega
  have hsl := run_arr10 w3.heap.size L (by omega)
  go_wp2_with fail
  refine (bldWrite (w.heap.size + 1) (w.heap.size + 1) _ _ L 10 _ w4 hB4 HBS4.out (by omega) (by simp; omega) (by omega)).mono ?_
  rintro e w5 ⟨rfl, hB5, hb6⟩
  have hW5 : Below w.heap.size w w5 := hW4.trans (hb6.mono (by omega))
  have hr5 := (hb6.block _ (by omega)).trans hr4'
  have hz6 : w.heap.size + 2 ≤ w5.heap.size := by have := hb6.size; omega
  rw [byteCells_one'] at hB5
  have hlen5 : (Lib.byteCells (1 :: Lib.uvarint codec)).length = L + 1 := by rw [Lib.byteCells_length, List.length_cons, ← HL.out]
  have HLEN5 := Lib.hid hlen5
  clear hlen5 hr4' hB4 hb6 HBS4 hW4 hz5
  go_wp2_with fail
  refine (bldWrite (w.heap.size + 1) (w.heap.size + 1) _ A n c l w5 hB5 (HS.out.below hW5) hn (by rw [HLEN5.out]; omega) (by omega)).mono ?_
  rintro e w6 ⟨rfl, hB6, hb7⟩
  have hW6 : Below w.heap.size w w6 := hW5.trans (hb7.mono (by omega))
  have hr6 := (hb7.block _ (by omega)).trans hr5
  have hz7 : w.heap.size + 2 ≤ w6.heap.size := by have := hb7.size; omega
  rw [← Lib.byteCells_append] at hB6
  clear hb7 hr5 hB5 HLEN5 hW5 hz6
  have HC := Lib.hid (Tryd.Builder_String_any (w.heap.size + 1) (w.heap.size + 1) _ w6 (.inr hB6) (by omega))
  clear hB6
  go_wp2_with fail
  refine HC.out.mono ?_
  rintro e w7 ⟨rfl, hb8⟩
  have hW7 : Below w.heap.size w w7 := hW6.trans (hb8.mono (by omega))
  have hr7 := (hb8.block _ (by omega)).trans hr6
  have c0 := cell_of_row' (cur := [_]) hr7 0
  have f0 := frozen_of_row' (cur := [_]) hr7 0
  have HR7 := Lib.hid hr7
  clear hr7 hr6 hb8 HC hW6 HR0 HZ1 HZ4
  go_wp2
  refine bodyPost_ret (results_cell_row rfl _ _ (w.heap.size) 80 #[.string ⟨(1 :: (Lib.uvarint codec ++ l)).toArray⟩] (0, 0) _ ?h1 ?h2 Tryd.underlying80 rfl ?h5) ?h6 ?h7
  case h1 => rfl
  case h2 => simp [World.setCell, Array.getElem?_modify, HR7.out]
  case h5 => kernel_rfl
  case h6 => rfl
  exact ⟨rfl, hW7.setCell (by exact Nat.le_refl _) _⟩
end Go.Proofs.YthfgnhgijgjggaaDoor
