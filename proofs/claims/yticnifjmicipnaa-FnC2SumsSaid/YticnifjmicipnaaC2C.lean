/- The walks of FnC2DataSize and FnC2Sums. -/
import Derived.Test.YticnifjmicipnaaC2B
import Derived.Test.YticnifjmicipnaaEqS
namespace Go.Proofs.Yticnifjmicipnaa
open Go.RowKit

theorem eq5 (d : Nat) (w : World) (x0 y0 x1 y1 x2 y2 x3 y3 x4 y4 : Int) :
    (Op.equalIn (d + 2) 24 (.agg #[.int .u64 x0, .int .u64 x1, .int .u64 x2, .int .u64 x3, .int .u64 x4]) (.agg #[.int .u64 y0, .int .u64 y1, .int .u64 y2, .int .u64 y3, .int .u64 y4])).run Try.prog w = .ok (x0 == y0 && (x1 == y1 && (x2 == y2 && (x3 == y3 && (x4 == y4))))) w := by
  refine structs_equal Try.underlying24 (by kernel_rfl) ?_
  refine fields_more (by decide) (by go_simp; rfl) (by go_simp; rfl) (by go_simp) ?_
  refine fields_more (by decide) (by go_simp; rfl) (by go_simp; rfl) (by go_simp) ?_
  refine fields_more (by decide) (by go_simp; rfl) (by go_simp; rfl) (by go_simp) ?_
  refine fields_more (by decide) (by go_simp; rfl) (by go_simp; rfl) (by go_simp) ?_
  exact fields_last (by decide) (by go_simp; rfl) (by go_simp; rfl) (by go_simp)
theorem eql5 (w : World) (x0 x1 x2 x3 x4 : Int) :
    (binOp .eql 24 (.agg #[.int .u64 x0, .int .u64 x1, .int .u64 x2, .int .u64 x3, .int .u64 x4]) (.agg #[.int .u64 x0, .int .u64 x1, .int .u64 x2, .int .u64 x3, .int .u64 x4])).run Try.prog w = .ok (.bool true) w := by
  simp only [binOp]
  simp [Op.equal, Op.maxDepth, eq5 9998]

theorem store5 {w : World} {g : Nat} {t : TypeId} {x0 x1 x2 x3 x4 y0 y1 y2 y3 y4 : Value} (h : w.heap[g]? = some (.cells #[x0, x1, x2, x3, x4] t (0, 0))) :
    (((((w.setCell ⟨g, 0, none⟩ y0).setCell ⟨g, 1, none⟩ y1).setCell ⟨g, 2, none⟩ y2).setCell ⟨g, 3, none⟩ y3).setCell ⟨g, 4, none⟩ y4).heap[g]? = some (.cells #[y0, y1, y2, y3, y4] t (0, 0)) := by
  simp [World.setCell, Array.getElem?_modify, h]

set_option maxRecDepth 100000 in
set_option maxHeartbeats 2000000 in
theorem law_C2DataSize (size data index now : Int) (w : World) :
    Calls Try.prog 3 #[.int .u64 size, .int .u64 data, .int .u64 index, .int .u64 now] w fun e w' => e = .returned (.bool true) ∧ Below w.heap.size w w' := by
  by_cases h1 : size ≥ 1152921504606846976
  · go_enter Try.func3, Try.ntmps3
    go_wp2
    go_ret
    exact ⟨rfl, Below.refl _ _⟩
  by_cases h2 : data ≥ 1152921504606846976
  · go_enter Try.func3, Try.ntmps3
    go_wp2
    go_ret
    exact ⟨rfl, Below.refl _ _⟩
  by_cases h3 : index ≥ 1152921504606846976
  · go_enter Try.func3, Try.ntmps3
    go_wp2
    go_ret
    exact ⟨rfl, Below.refl _ _⟩
  by_cases h4 : now ≥ 1152921504606846976
  · go_enter Try.func3, Try.ntmps3
    go_wp2
    go_ret
    exact ⟨rfl, Below.refl _ _⟩
  go_enter Try.func3, Try.ntmps3
  go_wp2_with fail
  refine (c2New_any size w).mono ?_
  rintro e w1 ⟨rfl, hb1⟩
  go_wp2_with fail
  refine (c2Pad_any _ _ _ _ _ _ _ w1).mono ?_
  rintro e w2 ⟨rfl, hb2⟩
  have hb12 := below_next hb1 hb2
  obtain ⟨E, hE⟩ : ∃ E, E = IntKind.u64.wrap (IntKind.u64.wrap (IntKind.u64.wrap (51 + size) + data) + index) := ⟨_, rfl⟩
  rw [← hE]
  obtain ⟨D, hD⟩ : ∃ D, D = IntKind.u64.wrap (51 + data) := ⟨_, rfl⟩
  have HE := Lib.hid hE
  have HD := Lib.hid hD
  rw [← hD]
  clear hE hD
  go_wp2_with fail
  refine (c2Size_any _ _ _ _ _ _ _).mono ?_
  rintro e w3 ⟨rfl, hb3⟩
  obtain ⟨hc, hf⟩ := bcell hb3
  have hz := hb3.size
  simp only [World.size_alloc] at hz hc hf
  have hDb : (D == IntKind.u64.wrap (51 + data)) = true := by rw [HD.out]; simp
  have hEb : (IntKind.u64.wrap (now + E) == IntKind.u64.wrap (E + now)) = true := by rw [Int.add_comm]; simp
  have hb4 : Below w.heap.size w w3 := below_next (hb12.alloc hb12.size _) hb3
  have hz2 : w2.heap.size < w3.heap.size := hz
  go_wp2
  go_ret
  exact ⟨rfl, hb4.alloc hb4.size _⟩

set_option maxRecDepth 100000 in
set_option maxHeartbeats 2000000 in
theorem law_C2Sums (size data index again : Int) (b0 : 0 ≤ size) (b1 : 0 ≤ data) (b2 : 0 ≤ index) (b3 : 0 ≤ again) (w : World) :
    Calls Try.prog 4 #[.int .u64 size, .int .u64 data, .int .u64 index, .int .u64 again] w fun e w' => e = .returned (.bool true) ∧ Below w.heap.size w w' := by
  by_cases g0 : size ≥ 288230376151711744
  · go_enter Try.func4, Try.ntmps4
    go_wp2
    go_ret
    exact ⟨rfl, Below.refl _ _⟩
  by_cases g1 : data ≥ 288230376151711744
  · go_enter Try.func4, Try.ntmps4
    go_wp2
    go_ret
    exact ⟨rfl, Below.refl _ _⟩
  by_cases g2 : index ≥ 288230376151711744
  · go_enter Try.func4, Try.ntmps4
    go_wp2
    go_ret
    exact ⟨rfl, Below.refl _ _⟩
  by_cases g3 : again ≥ 288230376151711744
  · go_enter Try.func4, Try.ntmps4
    go_wp2
    go_ret
    exact ⟨rfl, Below.refl _ _⟩
  go_enter Try.func4, Try.ntmps4
  have s1 : size + 51 = 51 + size := Int.add_comm _ _
  have s2 : size + (51 + data + index) = 51 + size + data + index := by omega
  go_wp2_with fail
  refine (c2New_any size w).mono ?_
  rintro e w1 ⟨rfl, hb1⟩
  go_wp2_with fail
  refine (c2Pad_any _ _ _ _ _ _ _ w1).mono ?_
  rintro e w2 ⟨rfl, hb2⟩
  have hb12 := below_next hb1 hb2
  go_wp2_with fail
  refine (c2New_any 0 _).mono ?_
  rintro e w3 ⟨rfl, hb3⟩
  go_wp2_with fail
  refine (c2Size_any _ _ _ _ _ _ _).mono ?_
  rintro e w4 ⟨rfl, hb4⟩
  go_wp2_with fail
  refine (c2Pad_any _ _ _ _ _ _ _ _).mono ?_
  rintro e w5 ⟨rfl, hb5⟩
  have hb35 := below_next (below_next hb3 hb4) hb5
  obtain ⟨hc5, _⟩ := bcell hb35
  have hz5 := hb35.size
  simp only [World.size_alloc] at hz5 hc5
  have hz5' : w2.heap.size < w5.heap.size := hz5
  have hb05 : Below w.heap.size w w5 := below_next (hb12.alloc hb12.size _) hb35
  clear hb3 hb4 hb5 hb35 hb1 hb2
  go_wp2_with fail
  refine (c2New_any 0 _).mono ?_
  rintro e w6 ⟨rfl, hb6⟩
  go_wp2_with fail
  refine (c2Pad_any _ _ _ _ _ _ _ _).mono ?_
  rintro e w7 ⟨rfl, hb7⟩
  go_wp2_with fail
  refine (c2Size_any _ _ _ _ _ _ _).mono ?_
  rintro e w8 ⟨rfl, hb8⟩
  have hb68 := below_next (below_next hb6 hb7) hb8
  obtain ⟨hc8, _⟩ := bcell hb68
  have hz8 := hb68.size
  simp only [World.size_alloc] at hz8 hc8
  have hz8' : w5.heap.size < w8.heap.size := hz8
  have hz8'' : w2.heap.size < w8.heap.size := by omega
  have hz8a : w2.heap.size < w5.heap.size + 1 := by omega
  have hb08 : Below w.heap.size w w8 := below_next (hb05.alloc hb05.size _) hb68
  clear hb6 hb7 hb8 hb68
  go_wp2_with fail
  refine (c2Pad_any _ _ _ _ _ _ _ _).mono ?_
  rintro e w9 ⟨rfl, hb9⟩
  obtain ⟨hc9, _⟩ := bcell hb9
  have hz9 := hb9.size
  simp only [World.size_alloc] at hz9 hc9
  have hz9' : w8.heap.size < w9.heap.size := hz9
  have hz9b : w5.heap.size < w9.heap.size := by omega
  have hz9c : w2.heap.size < w9.heap.size := by omega
  have hz9d : w5.heap.size < w8.heap.size + 1 := by omega
  have hz9e : w2.heap.size < w8.heap.size + 1 := by omega
  have hb09 : Below w.heap.size w w9 := below_next (hb08.alloc hb08.size _) hb9
  have q := fun W x0 x1 x2 x3 x4 => eql5 W x0 x1 x2 x3 x4
  go_wp2
  go_ret
  exact ⟨rfl, hb09.alloc hb09.size _⟩
end Go.Proofs.Yticnifjmicipnaa
