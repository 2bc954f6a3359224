/- FnCdCast's walk: a text is an identifier just if one is read of it and nothing stands behind it. -/
import Derived.Test.YthldlpggconmcaaDoorRCdU
import Derived.Test.YthldlpggconmcaaDoorRSpC
namespace Go.Proofs.YthldlpggconmcaaDoorR
open Go.RowKit

theorem cells4 {w : World} {g : Nat} {a b c d : Value} {t : TypeId} (h : w.heap[g]? = some (.cells #[a, b, c, d] t (0, 0))) : w.cell? ⟨g, 0, none⟩ = some a ∧ w.cell? ⟨g, 1, none⟩ = some b ∧ w.cell? ⟨g, 2, none⟩ = some c ∧ w.cell? ⟨g, 3, none⟩ = some d :=
  ⟨cell_of_row' (cur := [_, _, _, _]) h 0, cell_of_row' (cur := [_, _, _, _]) h 1, cell_of_row' (cur := [_, _, _, _]) h 2, cell_of_row' (cur := [_, _, _, _]) h 3⟩
abbrev objO (a b c : Int) (d : ByteArray) : Obj := .cells #[.int .u64 a, .int .u64 b, .int .u64 c, .string d] 26

set_option maxRecDepth 100000 in
set_option maxHeartbeats 4000000 in
theorem law_CdCast (s : ByteArray) (w : World) (hmx : s.size ≤ 9223372036854775807) (hu : CdS w) :
    Calls Tryd.prog 8 #[.string s] w fun e w' => e = .returned (.bool true) ∧ Below w.heap.size w w' := by
  by_cases hz : 2147483647 < s.size
  · go_enter Tryd.func8, Tryd.ntmps8
    go_wp2
    go_ret
    exact ⟨rfl, Below.refl _ _⟩
  by_cases hz2 : 4096 < s.size
  · go_enter Tryd.func8, Tryd.ntmps8
    go_wp2
    go_ret
    exact ⟨rfl, Below.refl _ _⟩
  have O := fun W (h : Below w.heap.size w W) => Lib.hid (cdOne_any W (hu.below h))
  have R := fun W => Lib.hid (readCid_any s W (by omega))
  cases hd : cidRd s.data.toList with
  | none =>
    have K := fun W (h : Below w.heap.size w W) => Lib.hid (cdCastI_no s W (by omega) (hu.below h) (fun x => by rw [hd]; exact fun e => by cases e))
    rw [hd] at R
    unfold rdSpec at R
    dsimp only at R
    clear hd hu
    go_enter Tryd.func8, Tryd.ntmps8
    go_wp2_with fail
    refine (R _).out.mono ?_
    rintro e w1 ⟨rfl, hb1⟩
    have b1 : Below w.heap.size w (w1.alloc (objO 0 0 0 ⟨#[]⟩)) := hb1.alloc hb1.size _
    clear hb1
    go_wp2_with fail
    refine (K _ b1).out.mono ?_
    rintro e w2 ⟨rfl, hb2⟩
    have b2 : Below w.heap.size w (w2.alloc (objO 0 0 0 ⟨#[]⟩)) := (below_next b1 hb2).alloc (below_next b1 hb2).size _
    clear hb2
    go_wp2_with fail
    refine (O _ b2).out.mono ?_
    rintro e w3 ⟨rfl, hb3⟩
    have b3 := below_next b2 hb3
    go_wp2
    go_ret
    exact ⟨rfl, b3⟩
  | some y =>
    obtain ⟨x, k⟩ := y
    have heq := fun W => eqCid_same x W
    rw [hd] at R
    unfold rdSpec at R
    dsimp only at R
    have CE := Lib.hid (cidVal_eq _ _ _ _ x rfl rfl rfl rfl)
    have hkl := (cidRd_dig hd).2
    rw [ba_len] at hkl
    by_cases hkn : k = s.size
    · have K := fun W (h : Below w.heap.size w W) => Lib.hid (cdCastI_ok s W (by omega) (hu.below h) x (by rw [hd, hkn]))
      have hk1 : ((k : Int) == (s.size : Int)) = true := by rw [hkn]; exact beq_self_eq_true _
      generalize (x.ver : Int) = v0 at *
      generalize (x.codec : Int) = v1 at *
      generalize (x.code : Int) = v2 at *
      generalize (⟨x.dig.toArray⟩ : ByteArray) = D at *
      rw [CE.out] at R K heq
      clear hd hu CE hkn
      go_enter Tryd.func8, Tryd.ntmps8
      go_wp2_with fail
      refine (R _).out.mono ?_
      rintro e w1 ⟨rfl, hb1⟩
      have b1 : Below w.heap.size w (w1.alloc (objO v0 v1 v2 D)) := hb1.alloc hb1.size _
      have r1 := Lib.hid (heap_alloc_new w1 (objO v0 v1 v2 D))
      clear hb1
      go_wp2_with fail
      refine (K _ b1).out.mono ?_
      rintro e w2 ⟨rfl, hb2⟩
      have b2 : Below w.heap.size w (w2.alloc (objO v0 v1 v2 D)) := (below_next b1 hb2).alloc (below_next b1 hb2).size _
      have r2 := row_below hb2 (block_of_row r1.out) r1.out
      obtain ⟨k0, k1, k2, k3⟩ := cells4 (row_alloc r2 (objO v0 v1 v2 D))
      clear hb2 r2 r1
      go_wp2_with fail
      refine (O _ b2).out.mono ?_
      rintro e w3 ⟨rfl, hb3⟩
      have b3 := below_next b2 hb3
      go_wp2
      go_ret
      exact ⟨rfl, b3⟩
    · have K := fun W (h : Below w.heap.size w W) => Lib.hid (cdCastI_no s W (by omega) (hu.below h) (fun x' => by rw [hd]; exact fun e => by injection e with e; injection e with _ e; exact hkn e))
      have hk1 : ((k : Int) == (s.size : Int)) = false := by rw [beq_eq_false_iff_ne]; omega
      generalize (x.ver : Int) = v0 at *
      generalize (x.codec : Int) = v1 at *
      generalize (x.code : Int) = v2 at *
      generalize (⟨x.dig.toArray⟩ : ByteArray) = D at *
      rw [CE.out] at R
      clear hd hu CE hkn heq
      go_enter Tryd.func8, Tryd.ntmps8
      go_wp2_with fail
      refine (R _).out.mono ?_
      rintro e w1 ⟨rfl, hb1⟩
      have b1 : Below w.heap.size w (w1.alloc (objO v0 v1 v2 D)) := hb1.alloc hb1.size _
      clear hb1
      go_wp2_with fail
      refine (K _ b1).out.mono ?_
      rintro e w2 ⟨rfl, hb2⟩
      have b2 : Below w.heap.size w (w2.alloc (objO 0 0 0 ⟨#[]⟩)) := (below_next b1 hb2).alloc (below_next b1 hb2).size _
      clear hb2
      go_wp2_with fail
      refine (O _ b2).out.mono ?_
      rintro e w3 ⟨rfl, hb3⟩
      have b3 := below_next b2 hb3
      go_wp2
      go_ret
      exact ⟨rfl, b3⟩
end Go.Proofs.YthldlpggconmcaaDoorR
