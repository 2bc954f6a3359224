/- Contracts: impl.cidIn at a version that is none; impl.CdBytes. -/
import Derived.Test.YthfgnhgijgjggaaDoorCdH
import Derived.Test.YthfgnhgijgjggaaDoorCdA
namespace Go.Proofs.YthfgnhgijgjggaaDoor
open Go.RowKit

set_option maxRecDepth 100000 in
set_option maxHeartbeats 4000000 in
theorem cidIn_other (v codec code : Nat) (hv : 2 ≤ v) (hcode : code < 18446744073709551616) (d : ByteArray) (hd : d.size ≤ 2147483647) (w : World) :
    Calls Tryd.prog 40 #[.agg #[.int .u64 v, .int .u64 codec, .int .u64 code, .string d]] w fun e w' => e = .returned (.tuple #[.agg #[.string ⟨#[]⟩], .bool false]) ∧ Below w.heap.size w w' := by
  have hmf := hmfA
  obtain ⟨A, c, w4, hconv, hbs, hb4, r1, r2, r3⟩ := cidIn_pre v codec code d w
  have HE := Lib.hid (encode_any _ _ _ _ w4 hbs (by rw [ba_len]; exact hd) code hcode)
  generalize mhEnc code d.data.toList = M at HE
  have d2 := cell_of_row' (cur := [_, _, _, _]) r1 2
  have HR1 := Lib.hid r1
  have HR2 := Lib.hid r2
  have HR3 := Lib.hid r3
  have v0 : ((v : Int) == 0) = false := by rw [beq_eq_false_iff_ne]; omega
  have v1 : ((v : Int) == 1) = false := by rw [beq_eq_false_iff_ne]; omega
  clear hbs r1 r2 r3
  go_enter_defers Tryd.func40, Tryd.ntmps40
  go_wp2_with fail
  refine HE.out.mono ?_
  rintro e w5 ⟨rfl, hr, hb5⟩
  have hb6 := below_next hb4 hb5
  have q1 := row_below hb5 (block_of_row HR1.out) HR1.out
  have q2 := row_below hb5 (block_of_row HR2.out) HR2.out
  have q3 := row_below hb5 (block_of_row HR3.out) HR3.out
  have c0 := cell_of_row' (cur := [_, _, _, _]) q1 0
  have k2 := cell_of_row' (cur := [_]) q2 0
  have k3 := cell_of_row' (cur := [_]) q3 0
  have f2 := frozen_of_row' (cur := [_]) q2 0
  have f3 := frozen_of_row' (cur := [_]) q3 0
  have S2 := Lib.hid q2
  clear hr HE hconv d2 q1 q2 q3
  go_wp2
  refine leaves_cons (f := 68) (args := #[.pointer (some ⟨w.heap.size + 1, 0, none⟩), .pointer (some ⟨w.heap.size + 1 + 1, 0, none⟩)]) (by simp) (by simp [go_sem]) ?_
  refine (cidIn_idle _ _ _).mono ?_
  rintro e u' w'' ⟨rfl, rfl, rfl⟩
  refine ⟨_, results_row_cell rfl _ _ (w.heap.size + 1) 80 #[.string ⟨#[]⟩] (0, 0) _ ⟨w.heap.size + 2, 0, none⟩ (.bool false) rfl (by simp [World.setCell, Array.getElem?_modify, S2.out]) Tryd.underlying80 rfl (by kernel_rfl) rfl (loadBool (World.cell?_setCell_same _ _ _ (by rw [World.cell?_setCell_other _ _ _ _ (by simp)]; exact k3))), rfl, ?_⟩
  exact (hb6.setCell (by show w.heap.size ≤ w.heap.size + 1; omega) _).setCell (by show w.heap.size ≤ w.heap.size + 1 + 1; omega) _

/-- A tidy identifier goes in. -/
theorem cidIn_ok (c : CidD) (ht : c.tidy) (d : ByteArray) (hcd : c.dig = d.data.toList) (hd : d.size ≤ 2147483600) (w : World) (hu : UvS w) :
    Calls Tryd.prog 40 #[.agg #[.int .u64 c.ver, .int .u64 c.codec, .int .u64 c.code, .string d]] w fun e w' => e = .returned (.tuple #[.agg #[.string ⟨(cidEnc c).toArray⟩], .bool true]) ∧ Below w.heap.size w w' := by
  obtain ⟨v, codec, code, dg⟩ := c
  simp only at hcd
  subst hcd
  rcases ht with ⟨h0, h1, h2, h3⟩ | ⟨h0, h1, h2⟩
  · simp only at h0 h1 h2 h3
    subst h0 h1 h2
    rw [ba_len] at h3
    exact cidIn_v0 112 d h3 w hu
  · simp only at h0 h1 h2
    subst h0
    exact cidIn_v1 codec code (by omega) (by omega) d (by omega) w

/-- What is no tidy identifier does not. -/
theorem cidIn_no (c : CidD) (ht : ¬ c.tidy) (h1 : c.codec < 9223372036854775808) (h2 : c.code < 9223372036854775808) (d : ByteArray) (hcd : c.dig = d.data.toList) (hd : d.size ≤ 2147483600) (w : World) (hu : CdS w) :
    Calls Tryd.prog 40 #[.agg #[.int .u64 c.ver, .int .u64 c.codec, .int .u64 c.code, .string d]] w fun e w' => (∃ s, e = .returned (.tuple #[.agg #[.string s], .bool false])) ∧ Below w.heap.size w w' := by
  obtain ⟨v, codec, code, dg⟩ := c
  simp only at hcd h1 h2
  subst hcd
  by_cases hv0 : v = 0
  · subst hv0
    by_cases h : code = 18 ∧ d.size = 32
    · obtain ⟨rfl, h32⟩ := h
      have hc : ((codec : Int) == 112) = false := by
        rw [beq_eq_false_iff_ne]
        intro e
        exact ht (.inl ⟨rfl, by show codec = 112; omega, rfl, by show d.data.toList.length = 32; rw [ba_len]; exact h32⟩)
      have := cidIn_v0 codec d h32 w hu.toUvS
      rw [hc] at this
      exact this.mono fun e w' ⟨h, k⟩ => ⟨⟨_, h⟩, k⟩
    · exact (cidIn_v0bad codec code d hd h2 h w hu).mono fun e w' ⟨h, k⟩ => ⟨⟨_, h⟩, k⟩
  · by_cases hv1 : v = 1
    · subst hv1
      exact absurd (Or.inr ⟨rfl, h1, h2⟩) ht
    · exact (cidIn_other v codec code (by omega) (by omega) d (by omega) w).mono fun e w' ⟨h, k⟩ => ⟨⟨_, h⟩, k⟩

set_option maxRecDepth 100000 in
set_option maxHeartbeats 2000000 in
theorem cdBytesI (a b c : Int) (d s : ByteArray) (ok : Bool) (w : World)
    (hin : ∀ w1, Below w.heap.size w w1 → Calls Tryd.prog 40 #[.agg #[.int .u64 a, .int .u64 b, .int .u64 c, .string d]] w1 fun e w' => e = .returned (.tuple #[.agg #[.string s], .bool ok]) ∧ Below w1.heap.size w1 w') :
    Calls Tryd.prog 47 #[.agg #[.int .u64 a, .int .u64 b, .int .u64 c, .string d]] w fun e w' => e = .returned (.tuple #[.string s, .bool ok]) ∧ Below w.heap.size w w' := by
  have hA : Below w.heap.size w (w.alloc (cidO a b c d)) := (Below.refl _ _).alloc (Nat.le_refl _) _
  have HC := Lib.hid (hin _ hA)
  clear hin
  go_enter Tryd.func47, Tryd.ntmps47
  go_wp2_with fail
  refine HC.out.mono ?_
  rintro e w1 ⟨rfl, hb1⟩
  have hb := below_next hA hb1
  have hb2 := hb.alloc hb.size (.cells #[.string s] 80)
  clear HC hb1 hA
  go_wp2_with fail
  refine (cdKey s _).mono ?_
  rintro e w2 ⟨rfl, hb3⟩
  have hb4 := below_next hb2 hb3
  go_wp2
  go_ret2
  exact ⟨rfl, hb4⟩

set_option maxRecDepth 100000 in
set_option maxHeartbeats 2000000 in
theorem cdBytesI_no (a b c : Int) (d : ByteArray) (w : World)
    (hin : ∀ w1, Below w.heap.size w w1 → Calls Tryd.prog 40 #[.agg #[.int .u64 a, .int .u64 b, .int .u64 c, .string d]] w1 fun e w' => (∃ s, e = .returned (.tuple #[.agg #[.string s], .bool false])) ∧ Below w1.heap.size w1 w') :
    Calls Tryd.prog 47 #[.agg #[.int .u64 a, .int .u64 b, .int .u64 c, .string d]] w fun e w' => (∃ s, e = .returned (.tuple #[.string s, .bool false])) ∧ Below w.heap.size w w' := by
  have hA : Below w.heap.size w (w.alloc (cidO a b c d)) := (Below.refl _ _).alloc (Nat.le_refl _) _
  have HC := Lib.hid (hin _ hA)
  clear hin
  go_enter Tryd.func47, Tryd.ntmps47
  go_wp2_with fail
  refine HC.out.mono ?_
  rintro e w1 ⟨⟨s, rfl⟩, hb1⟩
  have hb := below_next hA hb1
  have hb2 := hb.alloc hb.size (.cells #[.string s] 80)
  clear HC hb1 hA
  go_wp2_with fail
  refine (cdKey s _).mono ?_
  rintro e w2 ⟨rfl, hb3⟩
  have hb4 := below_next hb2 hb3
  go_wp2
  go_ret2
  exact ⟨⟨s, rfl⟩, hb4⟩
end Go.Proofs.YthfgnhgijgjggaaDoor
