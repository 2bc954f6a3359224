/- Contracts: cid.CidFromBytes at version 1. -/
import Derived.Test.YthfgnhgijgjggaaDoorCdJ
namespace Go.Proofs.YthfgnhgijgjggaaDoor
open Go.RowKit

/-- What the walk asks of the first two bytes, in a world that holds them. -/
def Fst (w : World) (A : Option Addr) (n : Nat) : Prop := (n ≤ 2) ∨ (2 < n ∧ ∃ (b o : Nat) (x y : Int), A = some ⟨b, o, none⟩ ∧ w.cell? ⟨b, o, none⟩ = some (.int .u8 x) ∧ w.cell? ⟨b, o + 1, none⟩ = some (.int .u8 y) ∧ ((x == 18) = false ∨ ((x == 18) = true ∧ (y == 32) = false)))

theorem fst_of {w : World} {A : Option Addr} {n c : Nat} {l : List UInt8} (hs : BS w (.slice A n c) l) (hz : ¬ cidZero l) : Fst w A n := by
  obtain ⟨hnl, _⟩ := hs.slice
  rcases not_zero_cases hz with h | ⟨h2, a, b, ha, hb, h⟩
  · exact .inl (by omega)
  · obtain ⟨bb, oo, rfl, hcl⟩ := hs.at_ (by omega)
    refine .inr ⟨by omega, bb, oo, a.toNat, b.toNat, rfl, ?_, ?_, h⟩
    · have := hcl 0 (by omega)
      rw [(List.getElem?_eq_some_iff.1 ha).2] at this
      exact this
    · have := hcl 1 (by omega)
      rw [(List.getElem?_eq_some_iff.1 hb).2] at this
      exact this

set_option maxRecDepth 100000 in
set_option maxHeartbeats 8000000 in
theorem cidFrom_one (A : Option Addr) (n c : Nat) (l : List UInt8) (w : World) (hs : BS w (.slice A n c) l) (hm : l.length ≤ 2147483647) (hu : CdS w) (x : CidD) (k : Nat) (hd : cidRd l = some (x, k)) (hz : ¬ cidZero l) :
    Calls Tryd.prog 85 #[.slice A n c] w fun e w' => e = .returned (.tuple #[.int .i64 k, .agg #[.string ⟨(cidEnc x).toArray⟩], .nilIface]) ∧ Below w.heap.size w w' := by
  have hA : Below w.heap.size w (w.alloc cidZ) := (Below.refl _ _).alloc (Nat.le_refl _) _
  obtain ⟨hkl, htk, _, _⟩ := cidRd_take hd
  obtain ⟨hnl, hcap⟩ := hs.slice
  rcases cidRd_some hd with ⟨h, _⟩ | ⟨_, e1, m, r, e2, e3, hk, hv⟩
  · exact absurd h hz
  have hs1 := hs.below hA
  have hF := fst_of hs1 hz
  obtain ⟨g1, g2, _, _, _⟩ := uvDec_ok e2
  obtain ⟨q1, _, _, _⟩ := mhRd_take e3
  rw [List.length_drop] at g2
  rw [List.length_drop, List.length_drop] at q1
  have C1 := Lib.hid (fromUv_ok A n c l _ hs1 (by omega) (hu.below hA).toUvS 1 1 e1)
  obtain ⟨r1, hs2⟩ := hs1.from_ (P := Tryd.prog) Tryd.underlying43 info_u8 1 (by omega)
  have l1 : (l.drop 1).length = l.length - 1 := by simp
  have C2 : ∀ W, Below (w.alloc cidZ).heap.size (w.alloc cidZ) W → Hid (Calls Tryd.prog 79 #[.slice (cutA A c 1) (n - 1) (c - 1)] W fun e w' => e = .returned (.tuple #[.int .u64 x.codec, .int .i64 m, .nilIface]) ∧ Below W.heap.size W w') := fun W hb =>
    Lib.hid (fromUv_ok _ _ _ _ W (hs2.below hb) (by omega) ((hu.below hA).below hb).toUvS x.codec m e2)
  obtain ⟨r2, hs3⟩ := hs1.from_ (P := Tryd.prog) Tryd.underlying43 info_u8 (1 + m) (by omega)
  rw [← List.drop_drop] at hs3
  have C3 : ∀ W, Below (w.alloc cidZ).heap.size (w.alloc cidZ) W → Hid (Calls Tryd.prog 105 #[.slice (cutA A c (1 + m)) (n - (1 + m)) (c - (1 + m))] W fun e w' => e = .returned (.tuple #[.int .i64 r, .slice (cutA A c (1 + m)) r (c - (1 + m)), .nilIface]) ∧ Below W.heap.size W w') := fun W hb =>
    Lib.hid (MHFrom_ok _ _ _ _ W (hs3.below hb) (by rw [List.length_drop, List.length_drop]; omega) ((hu.below hA).below hb).toUvS r x.code x.dig e3 (by omega)).2
  have hkn : k ≤ n := by omega
  have r3 := fun W => run_zero_to (P := Tryd.prog) Tryd.underlying43 info_u8 A n c k hkn (by omega) W
  have hsk := (hs1.to_ (P := Tryd.prog) Tryd.underlying43 info_u8 k hkn).2.2
  rw [htk] at hsk
  have HSK := Lib.hid hsk
  have HSTR := fun (W : World) (h : BS W (.slice A k c) (cidEnc x)) => h.str (P := Tryd.prog) (dst := 9) Tryd.underlying43 Tryd.underlying5 Tryd.underlying9
  have ek : ((k : Nat) : Int) = 1 + (m : Int) + r := by omega
  have em : ((1 + m : Nat) : Int) = 1 + (m : Int) := by omega
  rw [show ((1 : Nat) : Int) = 1 from rfl] at r1 C1
  rw [em] at r2
  rw [ek] at r3
  have HEK := Lib.hid ek
  have hr0 := heap_alloc_new w cidZ
  have b1 : m ≤ 2147483647 := by omega
  have b2 : r ≤ 2147483647 := by omega
  clear hs hs1 hs2 hs3 hsk hd hz e1 e2 e3 htk hk hv l1 g1 g2 q1 hkl hnl hcap hm hu ek em
  generalize cutA A c 1 = A1 at *
  generalize cutA A c (1 + m) = A2 at *
  generalize n - 1 = N1 at *
  generalize n - (1 + m) = N2 at *
  generalize c - 1 = c1 at *
  generalize c - (1 + m) = c2 at *
  generalize (⟨(cidEnc x).toArray⟩ : ByteArray) = S at *
  generalize x.codec = cdc at *
  have fin : ∀ w4, Below (w.alloc cidZ).heap.size (w.alloc cidZ) w4 → (w4.drew.cell? ⟨w.heap.size, 0, none⟩ = some (.string ⟨#[]⟩)) ∧ (w4.drew.frozen? ⟨w.heap.size, 0, none⟩ = false) ∧ (convert 43 9 (.slice A k c)).run Tryd.prog w4.drew = .ok (.string S) w4.drew ∧ Hid ((w4.setCell ⟨w.heap.size, 0, none⟩ (.string S)).heap[w.heap.size]? = some (.cells #[.string S] 80 (0, 0))) ∧ Hid (Below w.heap.size w (w4.setCell ⟨w.heap.size, 0, none⟩ (.string S)).drew) := fun w4 hb4 => by
    have hr4 := row_below hb4 (block_of_row hr0) hr0
    refine ⟨cell_of_row' (cur := [_]) hr4 0, frozen_of_row' (cur := [_]) hr4 0, ?_, Lib.hid (Lib.heap_setCell_same (i := 0) hr4 (.string S)), Lib.hid ?_⟩
    · exact HSTR _ ((HSK.out.below hb4).drewN 1)
    · exact ((below_next hA hb4).setCell (by exact Nat.le_refl _) _).drewN 1
  clear hr0 HSK HSTR hA hkn
  obtain ⟨w0, hw0⟩ : ∃ w0, w0 = w.alloc cidZ := ⟨_, rfl⟩
  rcases hF with hn2 | ⟨hn2, b, o, x0, x1, rfl, i0, i1, h18 | ⟨h18, h32⟩⟩
  all_goals
    go_enter Tryd.func85, Tryd.ntmps85
    go_wp2_with fail
    refine C1.out.mono ?_
    rintro e w1 ⟨rfl, hb1⟩
    go_wp2_with fail
    refine (C2 w1 hb1).out.mono ?_
    rintro e w2 ⟨rfl, hb2⟩
    have hb2' := below_next hb1 hb2
    go_wp2_with fail
    refine (C3 w2 hb2').out.mono ?_
    rintro e w3 ⟨rfl, hb3⟩
    obtain ⟨p1, p2, p3, p4, p5⟩ := fin w3 (below_next hb2' hb3)
    go_wp2_with fail
    go_region
    all_goals
      go_wp2
      refine bodyPost_ret (results_tmp_row_tmp rfl _ _ (w.heap.size) 80 #[.string S] (0, 0) _ rfl p4.out Tryd.underlying80 rfl (by kernel_rfl)) rfl ?_
      exact ⟨by rw [HEK.out]; rfl, p5.out⟩
end Go.Proofs.YthfgnhgijgjggaaDoor
