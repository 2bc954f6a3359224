/- Contracts of package spec: MultihashBytes, CidBytes, Tidy. -/
import Derived.Test.YthldlpggconmcaaDoorRSpA
import Derived.Lib.QuietBelow
import Derived.Deep.RegionHeld
namespace Go.Proofs.YthldlpggconmcaaDoorR
open Go.RowKit

/-- A slice that turns to the string S, now and behind all that only makes memory. -/
def TurnsTo (S : ByteArray) (e : Ending) (w' : World) : Prop := ∃ A n c, e = .returned (.slice A n c) ∧ ∀ W, Below w'.heap.size w' W → (convert 40 9 (.slice A n c)).run Tryd.prog W = .ok (.string S) W

theorem spVarintS (n : Nat) (hn : n < 18446744073709551616) (S : ByteArray) (hS : S = ⟨(Lib.uvarint n).toArray⟩) (w : World) :
    Calls Tryd.prog 34 #[.int .u64 n] w fun e w' => TurnsTo S e w' ∧ Below w.heap.size w w' :=
  (spVarint n hn w).mono fun e w' ⟨⟨A, n, c, he, hbs⟩, hb⟩ => ⟨⟨A, n, c, he, fun W hW => by rw [hS]; exact (hbs.below hW).str (dst := 9) Tryd.underlying40 Tryd.underlying5 Tryd.underlying9⟩, hb⟩

theorem ba_cat' (a b : List UInt8) : (⟨a.toArray⟩ : ByteArray) ++ ⟨b.toArray⟩ = ⟨(a ++ b).toArray⟩ := by
  apply ByteArray.ext
  rw [ByteArray.data_append]; simp
theorem ba_eta (s : ByteArray) : s = ⟨s.data.toList.toArray⟩ := (ba_mk s).symm

set_option maxRecDepth 100000 in
set_option maxHeartbeats 400000 in
theorem spMh (code : Nat) (hcode : code < 18446744073709551616) (d : ByteArray) (hd : d.size ≤ 2147483647) (w : World) :
    Calls Tryd.prog 47 #[.int .u64 code, .string d] w fun e w' => e = .returned (.string ⟨(mhEnc code d.data.toList).toArray⟩) ∧ Below w.heap.size w w' := by
  obtain ⟨S1, hS1⟩ : ∃ S : ByteArray, S = ⟨(Lib.uvarint code).toArray⟩ := ⟨_, rfl⟩
  obtain ⟨S2, hS2⟩ : ∃ S : ByteArray, S = ⟨(Lib.uvarint d.size).toArray⟩ := ⟨_, rfl⟩
  have z1 : S1.size ≤ 10 := by rw [hS1]; show (Lib.uvarint code).toArray.size ≤ 10; rw [List.size_toArray]; exact Lib.uvarint_length64 hcode
  have z2 : S2.size ≤ 10 := by rw [hS2]; show (Lib.uvarint d.size).toArray.size ≤ 10; rw [List.size_toArray]; exact Lib.uvarint_length64 (by omega)
  have hout : (⟨(mhEnc code d.data.toList).toArray⟩ : ByteArray) = S1 ++ S2 ++ d := by
    rw [hS1, hS2]
    conv => rhs; rw [ba_eta d]
    rw [ba_cat', ba_cat']
    unfold mhEnc
    rw [ba_len, List.append_assoc]
  rw [hout]
  have C1 := fun W => Lib.hid (spVarintS code hcode S1 hS1 W)
  have C2 := fun W => Lib.hid (spVarintS d.size (by omega) S2 hS2 W)
  have z3 : (S1 ++ S2).size ≤ 20 := by rw [ByteArray.size_append]; omega
  have z4 : (S1 ++ S2).size + d.size ≤ 3000000000 := by omega
  have z5 : S1.size + S2.size ≤ 20 := by omega
  have hwr : IntKind.u64.wrap (d.size : Int) = (d.size : Int) := IntWalk.u64_in _ (by omega)
  generalize (code : Int) = ci at *
  clear hS1 hS2 hout
  obtain ⟨w0, hw0⟩ : ∃ w0 : World, w0 = w.drew := ⟨_, rfl⟩
  have hb0 : Below w.heap.size w w.drew := below_drewN _ _ 1
  go_enter Tryd.func47, Tryd.ntmps47
  go_wp2_with fail
  go_region_with (first
    | (go_at_call_of 34 (ci); (with_reducible refine (C1 _).out.mono ?_); rintro e w1 ⟨⟨A, n, c, rfl, hcv⟩, hb1⟩; have hrefl := Below.refl w1.heap.size w1)
    | (go_at_call 34; (with_reducible refine (C2 _).out.mono ?_); rintro e w2 ⟨⟨A, n, c, rfl, hcv⟩, hb2⟩; have hrefl := Below.refl w2.heap.size w2))
  all_goals
    clear hwr
    have hb := below_next (below_next hb0 hb1) hb2
    go_wp2
    go_ret
    exact ⟨rfl, hb⟩

set_option maxRecDepth 100000 in
set_option maxHeartbeats 400000 in
theorem spCidBytes_v0 (codec code : Nat) (hcode : code < 18446744073709551616) (d : ByteArray) (hd : d.size ≤ 2147483647) (w : World) :
    Calls Tryd.prog 21 #[.agg #[.int .u64 0, .int .u64 codec, .int .u64 code, .string d]] w fun e w' => e = .returned (.string ⟨(mhEnc code d.data.toList).toArray⟩) ∧ Below w.heap.size w w' := by
  have hA : Below w.heap.size w (w.alloc (.cells #[.int .u64 0, .int .u64 codec, .int .u64 code, .string d] 26)) := (Below.refl _ _).alloc (Nat.le_refl _) _
  have HC := fun W => Lib.hid (spMh code hcode d hd W)
  go_enter Tryd.func21, Tryd.ntmps21
  go_wp2_with fail
  refine (HC _).out.mono ?_
  rintro e w1 ⟨rfl, hb1⟩
  go_wp2
  go_ret
  exact ⟨rfl, below_next hA hb1⟩

set_option maxRecDepth 100000 in
set_option maxHeartbeats 2000000 in
theorem spCidBytes_v1 (v codec code : Nat) (hv : v ≠ 0) (hcodec : codec < 18446744073709551616) (hcode : code < 18446744073709551616) (d : ByteArray) (hd : d.size ≤ 2147483647) (w : World) :
    Calls Tryd.prog 21 #[.agg #[.int .u64 v, .int .u64 codec, .int .u64 code, .string d]] w fun e w' => e = .returned (.string ⟨(1 :: (Lib.uvarint codec ++ mhEnc code d.data.toList)).toArray⟩) ∧ Below w.heap.size w w' := by
  obtain ⟨S1, hS1⟩ : ∃ S : ByteArray, S = ⟨(Lib.uvarint 1).toArray⟩ := ⟨_, rfl⟩
  obtain ⟨S2, hS2⟩ : ∃ S : ByteArray, S = ⟨(Lib.uvarint codec).toArray⟩ := ⟨_, rfl⟩
  obtain ⟨S3, hS3⟩ : ∃ S : ByteArray, S = ⟨(mhEnc code d.data.toList).toArray⟩ := ⟨_, rfl⟩
  have z1 : S1.size ≤ 10 := by rw [hS1]; show (Lib.uvarint 1).toArray.size ≤ 10; rw [List.size_toArray]; exact Lib.uvarint_length64 (by omega)
  have z2 : S2.size ≤ 10 := by rw [hS2]; show (Lib.uvarint codec).toArray.size ≤ 10; rw [List.size_toArray]; exact Lib.uvarint_length64 hcodec
  have z3 : S3.size ≤ 3000000000 := by
    rw [hS3]; show (mhEnc code d.data.toList).toArray.size ≤ _; rw [List.size_toArray]
    have := (mhEnc_len_le code d.data.toList hcode (by rw [ba_len]; omega)).2
    rw [ba_len] at this
    omega
  have hout : (⟨(1 :: (Lib.uvarint codec ++ mhEnc code d.data.toList)).toArray⟩ : ByteArray) = S1 ++ S2 ++ S3 := by
    rw [hS1, hS2, hS3, ba_cat', ba_cat', uvarint1]
    rfl
  rw [hout]
  have C1 := fun W => Lib.hid (spVarintS 1 (by omega) S1 hS1 W)
  rw [show ((1 : Nat) : Int) = 1 from rfl] at C1
  have C2 := fun W => Lib.hid (spVarintS codec hcodec S2 hS2 W)
  have C3 := fun W => Lib.hid (spMh code hcode d hd W)
  rw [← hS3] at C3
  have z4 : (S1 ++ S2).size ≤ 20 := by rw [ByteArray.size_append]; omega
  have z5 : (S1 ++ S2).size + S3.size ≤ 4000000000 := by omega
  have z6 : S1.size + S2.size ≤ 20 := by omega
  have z7 : S1.size + S2.size + S3.size ≤ 4000000000 := by omega
  have hA : Below w.heap.size w (w.alloc (.cells #[.int .u64 v, .int .u64 codec, .int .u64 code, .string d] 26)) := (Below.refl _ _).alloc (Nat.le_refl _) _
  have hr0 := heap_alloc_new w (.cells #[.int .u64 v, .int .u64 codec, .int .u64 code, .string d] 26)
  have hv0 : ((v : Int) == 0) = false := by rw [beq_eq_false_iff_ne]; omega
  generalize (code : Int) = c2 at *
  generalize (codec : Int) = c1 at *
  generalize (v : Int) = c0 at *
  clear hS1 hS2 hS3 hout
  have Q1 : ∀ W, Below (w.alloc (.cells #[.int .u64 c0, .int .u64 c1, .int .u64 c2, .string d] 26)).heap.size (w.alloc (.cells #[.int .u64 c0, .int .u64 c1, .int .u64 c2, .string d] 26)) W → W.cell? ⟨w.heap.size, 1, none⟩ = some (.int .u64 c1) := fun W h => cell_of_row' (cur := [_, _, _, _]) (row_below h (block_of_row hr0) hr0) 1
  have Q2 : ∀ W, Below (w.alloc (.cells #[.int .u64 c0, .int .u64 c1, .int .u64 c2, .string d] 26)).heap.size (w.alloc (.cells #[.int .u64 c0, .int .u64 c1, .int .u64 c2, .string d] 26)) W → W.cell? ⟨w.heap.size, 2, none⟩ = some (.int .u64 c2) := fun W h => cell_of_row' (cur := [_, _, _, _]) (row_below h (block_of_row hr0) hr0) 2
  have Q3 : ∀ W, Below (w.alloc (.cells #[.int .u64 c0, .int .u64 c1, .int .u64 c2, .string d] 26)).heap.size (w.alloc (.cells #[.int .u64 c0, .int .u64 c1, .int .u64 c2, .string d] 26)) W → W.cell? ⟨w.heap.size, 3, none⟩ = some (.string d) := fun W h => cell_of_row' (cur := [_, _, _, _]) (row_below h (block_of_row hr0) hr0) 3
  have hr0' := Lib.hid hr0
  clear hr0
  go_enter Tryd.func21, Tryd.ntmps21
  go_wp2_with fail
  generalize hw1 : w.alloc (.cells #[.int .u64 c0, .int .u64 c1, .int .u64 c2, .string d] 26) = w1 at *
  clear hw1
  have h0 : Below w1.heap.size w1 w1.drew := below_drewN _ _ 1
  have q1 := Q1 _ h0
  have q2 := Q2 _ h0
  have q3 := Q3 _ h0
  go_region_held (fun W : World => Below w1.heap.size w1 W ∧ W.cell? ⟨w.heap.size, 1, none⟩ = some (.int .u64 c1) ∧ W.cell? ⟨w.heap.size, 2, none⟩ = some (.int .u64 c2) ∧ W.cell? ⟨w.heap.size, 3, none⟩ = some (.string d))
    (first | assumption | (refine ⟨?_, ?_, ?_, ?_⟩ <;> assumption) | (go_split_ands; refine ⟨?_, ?_, ?_, ?_⟩ <;> assumption))
    (first
    | (go_at_call_of 34 (c1); (with_reducible refine (C2 _).out.mono ?_); rintro e wb ⟨⟨A2, n2, k2, rfl, hcvb⟩, hbb⟩; have hrefb := Below.refl wb.heap.size wb; have hkb := below_next (And.left (by assumption)) hbb; have qb1 := Q1 wb hkb; have qb2 := Q2 wb hkb; have qb3 := Q3 wb hkb)
    | (go_at_call 34; (with_reducible refine (C1 _).out.mono ?_); rintro e wa ⟨⟨A1, n1, k1, rfl, hcva⟩, hba⟩; have hrefa := Below.refl wa.heap.size wa; have hka := below_next (And.left (by assumption)) hba; have qa1 := Q1 wa hka; have qa2 := Q2 wa hka; have qa3 := Q3 wa hka)
    | (go_at_call 47; (with_reducible refine (C3 _).out.mono ?_); rintro e wc ⟨rfl, hbc⟩; have hac := below_next hbb hbc; have hkc := below_next (And.left (by assumption)) hbc; have qc1 := Q1 wc hkc; have qc2 := Q2 wc hkc; have qc3 := Q3 wc hkc))
  all_goals
    have hb := below_next hA hkc
    clear Q1 Q2 Q3 C1 C2 C3
    go_wp2
    go_ret
    exact ⟨rfl, hb⟩
end Go.Proofs.YthldlpggconmcaaDoorR
