/- Contracts: impl.CdRead, impl.CdCast; laws.cdOne. -/
import Derived.Test.YthfgnhgijgjggaaDoorCdP
import Derived.Test.YthfgnhgijgjggaaDoorCdI
namespace Go.Proofs.YthfgnhgijgjggaaDoor
open Go.RowKit

theorem conv_in' (w : World) (s : ByteArray) : ∃ A c w1, (convert 9 43 (.string s)).run Tryd.prog w = .ok (.slice A s.size c) w1 ∧ Below w.heap.size w w1 ∧ BS w1 (.slice A s.size c) s.data.toList := by
  obtain ⟨c, w1, h⟩ := conv_in w s
  exact ⟨_, c, w1, h⟩

theorem cidVal_eq (v0 v1 v2 : Int) (S : ByteArray) (x : CidD) (h0 : (x.ver : Int) = v0) (h1 : (x.codec : Int) = v1) (h2 : (x.code : Int) = v2) (hS : (⟨x.dig.toArray⟩ : ByteArray) = S) : cidVal x = .agg #[.int .u64 v0, .int .u64 v1, .int .u64 v2, .string S] := by
  subst h0 h1 h2 hS; rfl

set_option maxRecDepth 100000 in
set_option maxHeartbeats 4000000 in
theorem cdReadI_ok (s : ByteArray) (w : World) (hm : s.size ≤ 2147483600) (hu : CdS w) (x : CidD) (k : Nat) (hd : cidRd s.data.toList = some (x, k)) :
    Calls Tryd.prog 48 #[.string s] w fun e w' => e = .returned (.tuple #[cidVal x, .int .i64 k, .bool true]) ∧ Below w.heap.size w w' := by
  have hA : Below w.heap.size w (w.alloc outZ) := (Below.refl _ _).alloc (Nat.le_refl _) _
  obtain ⟨A, c, w1, hconv, hb1, hbs⟩ := conv_in' (w.alloc outZ) s
  have hb := below_next hA hb1
  have HC := Lib.hid (cidFrom_ok _ _ _ _ w1 hbs (by rw [ba_len]; omega) (hu.below hb) x k hd)
  have hO : OutVar w1 w.heap.size := OutVar.below ⟨heap_alloc_new w outZ⟩ hb1
  have HOut := fun W (h : Below w.heap.size w W) => Lib.hid (cidOut_ok ⟨(cidEnc x).toArray⟩ x (cidStr_rd hd (by rw [ba_len]; omega)) W (hu.below h).toUvS)
  have hz1 : w.heap.size + 1 ≤ w1.heap.size := by have := hb1.size; simpa using this
  have CE := Lib.hid (cidVal_eq _ _ _ _ x rfl rfl rfl rfl)
  generalize (⟨(cidEnc x).toArray⟩ : ByteArray) = E at *
  generalize (x.ver : Int) = v0 at *
  generalize (x.codec : Int) = v1 at *
  generalize (x.code : Int) = v2 at *
  generalize (⟨x.dig.toArray⟩ : ByteArray) = S at *
  rw [CE.out]
  clear CE hd hu hbs hb1
  go_enter Tryd.func48, Tryd.ntmps48
  go_wp2_with fail
  refine HC.out.mono ?_
  rintro e w2 ⟨rfl, hb2⟩
  have hb' := below_next hb hb2
  have hb3 : Below w2.heap.size w2 (w2.alloc (.cells #[.string E] 80)) := (Below.refl _ _).alloc (Nat.le_refl _) _
  have hb4 := below_next hb' hb3
  have hO3 := (hO.below hb2).below hb3
  have HD := HOut _ hb4
  clear hO HC HOut hconv hb' hb3 hb hA hm
  go_wp2_with fail
  refine HD.out.mono ?_
  rintro e w4 ⟨rfl, hb5⟩
  have hO4 := hO3.below hb5
  have hb6 := below_next hb4 hb5
  obtain ⟨⟨k0, k1, k2, k3⟩, f0, f1, f2, f3⟩ := hO4.cells
  have HO := Lib.hid hO4.row
  clear hO3 hO4 HD hb4 hb5
  go_wp2
  refine bodyPost_ret (results_row_tmp2 rfl _ _ (w.heap.size) 26 #[.int .u64 v0, .int .u64 v1, .int .u64 v2, .string S] (0, 0) _ rfl (set4 HO.out _ _ _ _) Tryd.underlying26 rfl (by kernel_rfl)) rfl ?_
  exact ⟨rfl, below_set4 hb6 (Nat.le_refl _) _ _ _ _⟩

set_option maxRecDepth 100000 in
set_option maxHeartbeats 4000000 in
theorem cdReadI_no (s : ByteArray) (w : World) (hm : s.size ≤ 2147483600) (hu : CdS w) (hd : cidRd s.data.toList = none) :
    Calls Tryd.prog 48 #[.string s] w fun e w' => e = .returned (.tuple #[noCid, .int .i64 0, .bool false]) ∧ Below w.heap.size w w' := by
  have hA : Below w.heap.size w (w.alloc outZ) := (Below.refl _ _).alloc (Nat.le_refl _) _
  obtain ⟨A, c, w1, hconv, hb1, hbs⟩ := conv_in' (w.alloc outZ) s
  have hb := below_next hA hb1
  have HC := Lib.hid (cidFrom_no _ _ _ _ w1 hbs (by rw [ba_len]; omega) (hu.below hb) hd)
  have hO : OutVar w1 w.heap.size := OutVar.below ⟨heap_alloc_new w outZ⟩ hb1
  clear hd hu hbs hb1
  go_enter Tryd.func48, Tryd.ntmps48
  go_wp2_with fail
  refine HC.out.mono ?_
  rintro e w2 ⟨⟨E, t, p, rfl⟩, hb2⟩
  have hb' := below_next hb hb2
  have hO2 := hO.below hb2
  have hO3 := fun o => hO2.below ((Below.refl w2.heap.size w2).alloc (Nat.le_refl _) o)
  have k0 := fun o => (hO3 o).cells.1.1
  have k1 := fun o => (hO3 o).cells.1.2.1
  have k2 := fun o => (hO3 o).cells.1.2.2.1
  have k3 := fun o => (hO3 o).cells.1.2.2.2
  have f0 := fun o => (hO3 o).cells.2.1
  have f1 := fun o => (hO3 o).cells.2.2.1
  have f2 := fun o => (hO3 o).cells.2.2.2.1
  have f3 := fun o => (hO3 o).cells.2.2.2.2
  have HO := fun o => Lib.hid (hO3 o).row
  clear hO hO2 hO3 HC hconv hb hA hm
  go_wp2
  refine bodyPost_ret (results_row_tmp2 rfl _ _ (w.heap.size) 26 #[.int .u64 0, .int .u64 0, .int .u64 0, .string ⟨#[]⟩] (0, 0) _ rfl (set4 (HO _).out _ _ _ _) Tryd.underlying26 rfl (by kernel_rfl)) rfl ?_
  exact ⟨rfl, below_set4 (hb'.alloc hb'.size _) (Nat.le_refl _) _ _ _ _⟩

end Go.Proofs.YthfgnhgijgjggaaDoor
