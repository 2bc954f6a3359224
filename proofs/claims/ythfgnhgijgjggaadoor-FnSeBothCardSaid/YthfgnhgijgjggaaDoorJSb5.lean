/- Contracts, joined (SpC PfA Rdr RdrB RdC). -/
import Derived.Test.YthfgnhgijgjggaaDoorJSb1
import Derived.Test.YthfgnhgijgjggaaDoorJSb2
import Derived.Test.YthfgnhgijgjggaaDoorJSb4
import Derived.StillTailTactics
import Derived.Test.YthfgnhgijgjggaaDoorProg
import Derived.Lib.BufferWrite
import Derived.Outline
import Derived.LaidEql
import Derived.BigQuiet
/- Contracts of package spec: ReadMultihash, ReadCid. -/
namespace Go.Proofs.YthfgnhgijgjggaaDoor
open Go.RowKit

section
variable {P : Program}
/-- 's[i:j]' of a string. -/
theorem run_str_mid {t : TypeId} (ht : P.underlying t = some .string) (s : ByteArray) (i j : Nat) (hij : i ≤ j) (hj : j ≤ s.size) (x y : Int) (hx : x = i) (hy : y = j) (W : World) :
    (Instr.slice t (.string s) (some (.int .i64 x)) (some (.int .i64 y)) none).run P W = .ok (.string ⟨((s.data.toList.drop i).take (j - i)).toArray⟩) W := by
  subst hx hy
  rw [run_slice_string (P := P) W t s .i64 .i64 (i : Int) (j : Int) ht (by omega) (by omega) (by omega)]
  simp only [Int.toNat_natCast]
  congr 2
  apply ByteArray.ext
  apply Array.toList_inj.1
  rw [Lib.extract_data]
end

theorem readVarint_ok (s : ByteArray) (w : World) (hm : s.size ≤ 9223372036854775807) (x m : Nat) (hd : uvDec s.data.toList = .ok x m) :
    Calls Tryd.prog 57 #[.string s] w fun e w' => e = .returned (.tuple #[.int .u64 x, .int .i64 m, .int .i64 0]) ∧ Below w.heap.size w w' :=
  (readVarint_any s w hm).mono fun e w' ⟨he, hw⟩ => ⟨by rw [he, hd]; rfl, hw ▸ Below.refl _ _⟩
theorem readVarint_no (s : ByteArray) (w : World) (hm : s.size ≤ 9223372036854775807) (hd : (uvDec s.data.toList).no) :
    Calls Tryd.prog 57 #[.string s] w fun e w' => (∃ k : Int, (k != 0) = true ∧ e = .returned (.tuple #[.int .u64 0, .int .i64 0, .int .i64 k])) ∧ Below w.heap.size w w' :=
  (readVarint_any s w hm).mono fun e w' ⟨he, hw⟩ => ⟨by
    cases h : uvDec s.data.toList with
    | ok => rw [h] at hd; exact hd.elim
    | over => exact ⟨2, rfl, by rw [he, h]; rfl⟩
    | notMin => exact ⟨3, rfl, by rw [he, h]; rfl⟩
    | under => exact ⟨1, rfl, by rw [he, h]; rfl⟩, hw ▸ Below.refl _ _⟩

theorem uvDec_nil : (uvDec []).no := trivial

theorem mhNone_cases {l : List UInt8} (h : mhRd l = none) (hl : l.length ≤ 2147483647) : (uvDec l).no ∨ ∃ x1 m1, uvDec l = .ok x1 m1 ∧ ((uvDec (l.drop m1)).no ∨ ∃ x2 m2, uvDec (l.drop m1) = .ok x2 m2 ∧ l.length - m1 - m2 < x2) := by
  rcases mhRd_none h with h2 | ⟨_, h | ⟨x1, m1, e1, h⟩⟩
  · rcases uvR_cases (uvDec l) with ⟨x, m, e⟩ | h
    · obtain ⟨g1, g2, _⟩ := uvDec_ok e
      refine .inr ⟨x, m, e, .inl ?_⟩
      rw [List.drop_eq_nil_of_le (by omega)]
      exact uvDec_nil
    · exact .inl h
  · exact .inl h
  · refine .inr ⟨x1, m1, e1, ?_⟩
    rcases h with h | ⟨x2, m2, e2, h⟩
    · exact .inl h
    · refine .inr ⟨x2, m2, e2, ?_⟩
      rw [List.length_drop, List.length_drop] at h
      omega

theorem ba_size_drop (s : ByteArray) (k : Nat) : (⟨(s.data.toList.drop k).toArray⟩ : ByteArray).size = s.size - k := by
  show (s.data.toList.drop k).toArray.size = _
  rw [List.size_toArray, List.length_drop, ba_len]

set_option maxRecDepth 100000 in
set_option maxHeartbeats 2000000 in
theorem readMh_ok (s : ByteArray) (w : World) (hm : s.size ≤ 2147483600) (r code : Nat) (d : List UInt8) (hd : mhRd s.data.toList = some (r, code, d)) :
    Calls Tryd.prog 90 #[.string s] w fun e w' => e = .returned (.tuple #[.int .u64 code, .string ⟨d.toArray⟩, .int .i64 r, .bool true]) ∧ Below w.heap.size w w' := by
  obtain ⟨h2, m1, x2, m2, e1, e2, hx, hx2, rfl, rfl⟩ := mhRd_some hd
  obtain ⟨g1, g2, g3, _, _⟩ := uvDec_ok e1
  obtain ⟨k1, k2, k3, _, _⟩ := uvDec_ok e2
  rw [List.length_drop] at k2
  rw [List.length_drop, List.length_drop] at hx2
  rw [ba_len] at g2 k2 hx2
  have C1 := fun W => Lib.hid (readVarint_ok s W (by omega) code m1 e1)
  have T1 := fun W => run_str_from (P := Tryd.prog) Tryd.underlying9 s m1 g2 m1 rfl W
  have C2 := fun W => Lib.hid (readVarint_ok ⟨(s.data.toList.drop m1).toArray⟩ W (by rw [ba_size_drop]; omega) x2 m2 e2)
  have T2 := fun W => run_str_mid (P := Tryd.prog) Tryd.underlying9 s (m1 + m2) (m1 + m2 + x2) (by omega) (by omega) ((m1 : Int) + m2) ((m1 : Int) + m2 + x2) (by omega) (by omega) W
  rw [← List.drop_drop, show m1 + m2 + x2 - (m1 + m2) = x2 by omega] at T2
  have HR := Lib.hid (show ((m1 : Int) + m2 + x2) = ((m1 + m2 + x2 : Nat) : Int) by omega)
  have i1 : (m1 : Int) + m2 ≤ s.size := by omega
  have i2 : (x2 : Int) ≤ (s.size : Int) - m1 - m2 := by omega
  have i3 : ¬ ((s.size : Int) - m1 - m2 < x2) := by omega
  have i4 : (m1 : Int) ≤ s.size := by omega
  generalize (⟨(s.data.toList.drop m1).toArray⟩ : ByteArray) = S1 at *
  generalize (⟨(((s.data.toList.drop m1).drop m2).take x2).toArray⟩ : ByteArray) = D at *
  clear hd e1 e2 g1 g2 g3 k1 k2 k3 h2 hx2
  go_enter Tryd.func90, Tryd.ntmps90
  go_wp2_with fail
  refine (C1 _).out.mono ?_
  rintro e w1 ⟨rfl, hb1⟩
  go_wp2_with fail
  refine (C2 _).out.mono ?_
  rintro e w2 ⟨rfl, hb2⟩
  have hb := below_next hb1 hb2
  go_wp2
  go_quiet (fail)
  go_wp2
  refine bodyPost_ret (v := .tuple #[.int .u64 code, .string D, .int .i64 ((m1 : Int) + m2 + x2), .bool true]) (by simp [results, Tryd.results90, go_sem]) rfl ⟨by rw [HR.out], hb.drewN _⟩

set_option maxRecDepth 100000 in
set_option maxHeartbeats 2000000 in
theorem readMh_no (s : ByteArray) (w : World) (hm : s.size ≤ 2147483600) (hd : mhRd s.data.toList = none) :
    Calls Tryd.prog 90 #[.string s] w fun e w' => e = .returned (.tuple #[.int .u64 0, .string ⟨#[]⟩, .int .i64 0, .bool false]) ∧ Below w.heap.size w w' := by
  rcases mhNone_cases hd (by rw [ba_len]; omega) with h | ⟨x1, m1, e1, h⟩
  · have C1 := fun W => Lib.hid (readVarint_no s W (by omega) h)
    clear hd h
    go_enter Tryd.func90, Tryd.ntmps90
    go_wp2_with fail
    refine (C1 _).out.mono ?_
    rintro e w1 ⟨⟨k, hk, rfl⟩, hb1⟩
    go_wp2
    refine bodyPost_ret (v := .tuple #[.int .u64 0, .string ⟨#[]⟩, .int .i64 0, .bool false]) (by simp [results, Tryd.results90, go_sem]) rfl ⟨rfl, hb1⟩
  · obtain ⟨g1, g2, g3, _, _⟩ := uvDec_ok e1
    rw [ba_len] at g2
    have C1 := fun W => Lib.hid (readVarint_ok s W (by omega) x1 m1 e1)
    have T1 := fun W => run_str_from (P := Tryd.prog) Tryd.underlying9 s m1 g2 m1 rfl W
    rcases h with h | ⟨x2, m2, e2, hx⟩
    · have C2 := fun W => Lib.hid (readVarint_no ⟨(s.data.toList.drop m1).toArray⟩ W (by rw [ba_size_drop]; omega) h)
      generalize (⟨(s.data.toList.drop m1).toArray⟩ : ByteArray) = S1 at *
      clear hd h e1 g1 g3
      go_enter Tryd.func90, Tryd.ntmps90
      go_wp2_with fail
      refine (C1 _).out.mono ?_
      rintro e w1 ⟨rfl, hb1⟩
      go_wp2_with fail
      refine (C2 _).out.mono ?_
      rintro e w2 ⟨⟨k, hk, rfl⟩, hb2⟩
      have hb := below_next hb1 hb2
      go_wp2
      refine bodyPost_ret (v := .tuple #[.int .u64 0, .string ⟨#[]⟩, .int .i64 0, .bool false]) (by simp [results, Tryd.results90, go_sem]) rfl ⟨rfl, hb⟩
    · obtain ⟨k1, k2, k3, _, _⟩ := uvDec_ok e2
      rw [List.length_drop, ba_len] at k2
      rw [ba_len] at hx
      have C2 := fun W => Lib.hid (readVarint_ok ⟨(s.data.toList.drop m1).toArray⟩ W (by rw [ba_size_drop]; omega) x2 m2 e2)
      have i1 : (m1 : Int) + m2 ≤ s.size := by omega
      have i2 : (s.size : Int) - m1 - m2 < x2 := by omega
      have i4 : (m1 : Int) ≤ s.size := by omega
      generalize (⟨(s.data.toList.drop m1).toArray⟩ : ByteArray) = S1 at *
      clear hd e1 e2 g1 g2 g3 k1 k2 k3 hx
      go_enter Tryd.func90, Tryd.ntmps90
      go_wp2_with fail
      refine (C1 _).out.mono ?_
      rintro e w1 ⟨rfl, hb1⟩
      go_wp2_with fail
      refine (C2 _).out.mono ?_
      rintro e w2 ⟨rfl, hb2⟩
      have hb := below_next hb1 hb2
      go_wp2
      refine bodyPost_ret (v := .tuple #[.int .u64 0, .string ⟨#[]⟩, .int .i64 0, .bool false]) (by simp [results, Tryd.results90, go_sem]) rfl ⟨rfl, hb⟩

/-- What the first bytes of a string say: no version 0. -/
def FstS (s : ByteArray) : Prop := (s.size ≤ 2) ∨ (2 < s.size ∧ ∃ x y : Int, (∀ W, (Instr.index 9 (.string s) (.int .i64 0)).run Tryd.prog W = .ok (.int .u8 x) W) ∧ (∀ W, (Instr.index 9 (.string s) (.int .i64 1)).run Tryd.prog W = .ok (.int .u8 y) W) ∧ ((x == 18) = false ∨ ((x == 18) = true ∧ (y == 32) = false)))
theorem fstS_of {s : ByteArray} (hz : ¬ cidZero s.data.toList) : FstS s := by
  rcases not_zero_cases hz with h | ⟨h2, a, b, ha, hb, h⟩
  · rw [ba_len] at h; exact .inl h
  · rw [ba_len] at h2
    exact .inr ⟨h2, a.toNat, b.toNat, fun W => idx_ba (P := Tryd.prog) Tryd.underlying9 s 0 a ha 0 rfl W, fun W => idx_ba (P := Tryd.prog) Tryd.underlying9 s 1 b hb 1 rfl W, h⟩

/-- What spec.ReadCid answers. -/
def rdSpec : Option (CidD × Nat) → Value
  | some (x, n) => .tuple #[cidVal x, .int .i64 n, .bool true]
  | none => .tuple #[noCid, .int .i64 0, .bool false]

theorem out4 (w : World) : OutVar (w.alloc outZ) w.heap.size := ⟨heap_alloc_new w outZ⟩

set_option maxRecDepth 100000 in
set_option maxHeartbeats 2000000 in
theorem readCid_zero (s : ByteArray) (w : World) (hm : s.size ≤ 2147483600) (hz : cidZero s.data.toList) :
    Calls Tryd.prog 62 #[.string s] w fun e w' => e = .returned (rdSpec (cidRd s.data.toList)) ∧ Below w.heap.size w w' := by
  have hA : Below w.heap.size w (w.alloc outZ) := (Below.refl _ _).alloc (Nat.le_refl _) _
  have hO := out4 w
  have h2 := hz.1
  rw [ba_len] at h2
  have i0 := fun W => idx_ba (P := Tryd.prog) Tryd.underlying9 s 0 18 hz.2.1 0 rfl W
  have i1 := fun W => idx_ba (P := Tryd.prog) Tryd.underlying9 s 1 32 hz.2.2 1 rfl W
  obtain ⟨⟨k0, k1, k2, k3⟩, f0, f1, f2, f3⟩ := hO.cells
  by_cases h34 : s.size < 34
  · have HR := Lib.hid (show cidRd s.data.toList = none by unfold cidRd; rw [if_pos hz, if_pos (by rw [ba_len]; exact h34)])
    clear hz
    go_enter Tryd.func62, Tryd.ntmps62
    go_wp2
    refine bodyPost_ret (results_row_tmp2 rfl _ _ (w.heap.size) 26 #[.int .u64 0, .int .u64 0, .int .u64 0, .string ⟨#[]⟩] (0, 0) _ rfl (heap_alloc_new _ _) Tryd.underlying26 rfl (by kernel_rfl)) rfl ?_
    exact ⟨by rw [HR.out]; rfl, (Below.refl _ _).alloc (Nat.le_refl _) _⟩
  · have T := fun W => run_str_mid (P := Tryd.prog) Tryd.underlying9 s 2 34 (by omega) (by omega) 2 34 rfl rfl W
    obtain ⟨D, hD⟩ : ∃ D : ByteArray, D = ⟨((s.data.toList.drop 2).take 32).toArray⟩ := ⟨_, rfl⟩
    have HR := Lib.hid (show cidRd s.data.toList = some (⟨0, 112, 18, (s.data.toList.drop 2).take 32⟩, 34) by unfold cidRd; rw [if_pos hz, if_neg (by rw [ba_len]; exact h34)])
    rw [show 34 - 2 = 32 from rfl, ← hD] at T
    have HD := Lib.hid hD
    clear hz hD
    go_enter Tryd.func62, Tryd.ntmps62
    go_wp2
    refine bodyPost_ret (results_row_tmp2 rfl _ _ (w.heap.size) 26 #[.int .u64 0, .int .u64 112, .int .u64 18, .string D] (0, 0) _ rfl (heap_alloc_new _ _) Tryd.underlying26 rfl (by kernel_rfl)) rfl ?_
    exact ⟨by rw [HR.out, HD.out]; rfl, (Below.refl _ _).alloc (Nat.le_refl _) _⟩
set_option maxRecDepth 100000 in
set_option maxHeartbeats 4000000 in
theorem readCid_none (s : ByteArray) (w : World) (hm : s.size ≤ 2147483600) (hz : ¬ cidZero s.data.toList) (hd : cidRd s.data.toList = none) :
    Calls Tryd.prog 62 #[.string s] w fun e w' => e = .returned (rdSpec (cidRd s.data.toList)) ∧ Below w.heap.size w w' := by
  have b0 : Below w.heap.size w (w.alloc outZ) := (Below.refl _ _).alloc (Nat.le_refl _) _
  have O0 := out4 w
  have hF := fstS_of hz
  have HR := Lib.hid hd
  rcases cidRd_none hd with ⟨h, _⟩ | ⟨_, h | ⟨v, k, e1, hv⟩ | ⟨e1, h | ⟨codec, m, e2, e3⟩⟩⟩
  · exact absurd h hz
  · have C1 := fun W => Lib.hid (readVarint_no s W (by omega) h)
    clear hd hz h
    rcases hF with hn2 | ⟨hn2, x0, x1, i0, i1, h18 | ⟨h18, h32⟩⟩
    all_goals
      go_enter Tryd.func62, Tryd.ntmps62
      go_wp2_with fail
      refine (C1 _).out.mono ?_
      rintro e w1 ⟨⟨kk, hk, rfl⟩, hb⟩
      have b1 := below_next b0 hb
      have O1 := O0.below hb
      clear hb
      have bb := b1
      obtain ⟨⟨k0, k1, k2, k3⟩, f0, f1, f2, f3⟩ := O1.cells
      have HO := Lib.hid O1.row
      clear O1
      go_wp2
      refine bodyPost_ret (results_row_tmp2 rfl _ _ (w.heap.size) 26 #[.int .u64 0, .int .u64 0, .int .u64 0, .string ⟨#[]⟩] (0, 0) _ rfl (set4 HO.out _ _ _ _) Tryd.underlying26 rfl (by kernel_rfl)) rfl ?_
      exact ⟨by rw [HR.out]; rfl, below_set4 bb (Nat.le_refl _) _ _ _ _⟩
  · have C1 := fun W => Lib.hid (readVarint_ok s W (by omega) v k e1)
    have hv1 : ((v : Int) != 1) = true := by rw [bne_iff_ne]; omega
    clear hd hz e1 hv
    generalize (v : Int) = vi at *
    rcases hF with hn2 | ⟨hn2, x0, x1, i0, i1, h18 | ⟨h18, h32⟩⟩
    all_goals
      go_enter Tryd.func62, Tryd.ntmps62
      go_wp2_with fail
      refine (C1 _).out.mono ?_
      rintro e w1 ⟨rfl, hb⟩
      have b1 := below_next b0 hb
      have O1 := O0.below hb
      clear hb
      have bb := b1
      obtain ⟨⟨k0, k1, k2, k3⟩, f0, f1, f2, f3⟩ := O1.cells
      have HO := Lib.hid O1.row
      clear O1
      go_wp2
      refine bodyPost_ret (results_row_tmp2 rfl _ _ (w.heap.size) 26 #[.int .u64 0, .int .u64 0, .int .u64 0, .string ⟨#[]⟩] (0, 0) _ rfl (set4 HO.out _ _ _ _) Tryd.underlying26 rfl (by kernel_rfl)) rfl ?_
      exact ⟨by rw [HR.out]; rfl, below_set4 bb (Nat.le_refl _) _ _ _ _⟩
  · have C1 := fun W => Lib.hid (readVarint_ok s W (by omega) 1 1 e1)
    rw [show ((1 : Nat) : Int) = 1 from rfl] at C1
    have g2 := (uvDec_ok e1).2.1
    rw [ba_len] at g2
    have T1 := fun W => run_str_from (P := Tryd.prog) Tryd.underlying9 s 1 g2 1 rfl W
    have C2 := fun W => Lib.hid (readVarint_no ⟨(s.data.toList.drop 1).toArray⟩ W (by rw [ba_size_drop]; omega) h)
    generalize (⟨(s.data.toList.drop 1).toArray⟩ : ByteArray) = S1 at *
    clear hd hz e1 h
    rcases hF with hn2 | ⟨hn2, x0, x1, i0, i1, h18 | ⟨h18, h32⟩⟩
    all_goals
      go_enter Tryd.func62, Tryd.ntmps62
      go_wp2_with fail
      refine (C1 _).out.mono ?_
      rintro e w1 ⟨rfl, hb⟩
      have b1 := below_next b0 hb
      have O1 := O0.below hb
      clear hb
      go_wp2_with fail
      refine (C2 _).out.mono ?_
      rintro e w2 ⟨⟨kk, hk, rfl⟩, hb⟩
      have b2 := below_next b1 hb
      have O2 := O1.below hb
      clear hb
      have bb := b2
      obtain ⟨⟨k0, k1, k2, k3⟩, f0, f1, f2, f3⟩ := O2.cells
      have HO := Lib.hid O2.row
      clear O2
      go_wp2
      refine bodyPost_ret (results_row_tmp2 rfl _ _ (w.heap.size) 26 #[.int .u64 0, .int .u64 0, .int .u64 0, .string ⟨#[]⟩] (0, 0) _ rfl (set4 HO.out _ _ _ _) Tryd.underlying26 rfl (by kernel_rfl)) rfl ?_
      exact ⟨by rw [HR.out]; rfl, below_set4 bb (Nat.le_refl _) _ _ _ _⟩
  · have C1 := fun W => Lib.hid (readVarint_ok s W (by omega) 1 1 e1)
    rw [show ((1 : Nat) : Int) = 1 from rfl] at C1
    have g2 := (uvDec_ok e1).2.1
    rw [ba_len] at g2
    have g3 := (uvDec_ok e2).2.1
    rw [List.length_drop, ba_len] at g3
    have T1 := fun W => run_str_from (P := Tryd.prog) Tryd.underlying9 s 1 g2 1 rfl W
    have T2 := fun W => run_str_from (P := Tryd.prog) Tryd.underlying9 s (1 + m) (by omega) (1 + (m : Int)) (by omega) W
    have C2 := fun W => Lib.hid (readVarint_ok ⟨(s.data.toList.drop 1).toArray⟩ W (by rw [ba_size_drop]; omega) codec m e2)
    have C3 := fun W => Lib.hid (readMh_no ⟨(s.data.toList.drop (1 + m)).toArray⟩ W (by rw [ba_size_drop]; omega) (by show mhRd (s.data.toList.drop (1 + m)) = none; rw [← List.drop_drop]; exact e3))
    have i4 : (m : Int) ≤ s.size := by omega
    generalize (⟨(s.data.toList.drop 1).toArray⟩ : ByteArray) = S1 at *
    generalize (⟨(s.data.toList.drop (1 + m)).toArray⟩ : ByteArray) = S2 at *
    clear hd hz e1 e2 e3
    rcases hF with hn2 | ⟨hn2, x0, x1, i0, i1, h18 | ⟨h18, h32⟩⟩
    all_goals
      go_enter Tryd.func62, Tryd.ntmps62
      go_wp2_with fail
      refine (C1 _).out.mono ?_
      rintro e w1 ⟨rfl, hb⟩
      have b1 := below_next b0 hb
      have O1 := O0.below hb
      clear hb
      go_wp2_with fail
      refine (C2 _).out.mono ?_
      rintro e w2 ⟨rfl, hb⟩
      have b2 := below_next b1 hb
      have O2 := O1.below hb
      clear hb
      go_wp2_with fail
      refine (C3 _).out.mono ?_
      rintro e w3 ⟨rfl, hb⟩
      have b3 := below_next b2 hb
      have O3 := O2.below hb
      clear hb
      have bb := b3
      obtain ⟨⟨k0, k1, k2, k3⟩, f0, f1, f2, f3⟩ := O3.cells
      have HO := Lib.hid O3.row
      clear O3
      go_wp2
      refine bodyPost_ret (results_row_tmp2 rfl _ _ (w.heap.size) 26 #[.int .u64 0, .int .u64 0, .int .u64 0, .string ⟨#[]⟩] (0, 0) _ rfl (set4 HO.out _ _ _ _) Tryd.underlying26 rfl (by kernel_rfl)) rfl ?_
      exact ⟨by rw [HR.out]; rfl, below_set4 bb (Nat.le_refl _) _ _ _ _⟩

set_option maxRecDepth 100000 in
set_option maxHeartbeats 4000000 in
theorem readCid_one (s : ByteArray) (w : World) (hm : s.size ≤ 2147483600) (hz : ¬ cidZero s.data.toList) (x : CidD) (k : Nat) (hd : cidRd s.data.toList = some (x, k)) :
    Calls Tryd.prog 62 #[.string s] w fun e w' => e = .returned (rdSpec (cidRd s.data.toList)) ∧ Below w.heap.size w w' := by
  have b0 : Below w.heap.size w (w.alloc outZ) := (Below.refl _ _).alloc (Nat.le_refl _) _
  have O0 := out4 w
  have hF := fstS_of hz
  have hkl := (cidRd_dig hd).2
  rw [ba_len] at hkl
  rcases cidRd_some hd with ⟨h, _⟩ | ⟨_, e1, m, r, e2, e3, hk, hv⟩
  · exact absurd h hz
  · have C1 := fun W => Lib.hid (readVarint_ok s W (by omega) 1 1 e1)
    rw [show ((1 : Nat) : Int) = 1 from rfl] at C1
    have g2 := (uvDec_ok e1).2.1
    rw [ba_len] at g2
    have g3 := (uvDec_ok e2).2.1
    rw [List.length_drop, ba_len] at g3
    have T1 := fun W => run_str_from (P := Tryd.prog) Tryd.underlying9 s 1 g2 1 rfl W
    have T2 := fun W => run_str_from (P := Tryd.prog) Tryd.underlying9 s (1 + m) (by omega) (1 + (m : Int)) (by omega) W
    have C2 := fun W => Lib.hid (readVarint_ok ⟨(s.data.toList.drop 1).toArray⟩ W (by rw [ba_size_drop]; omega) x.codec m e2)
    have C3 := fun W => Lib.hid (readMh_ok ⟨(s.data.toList.drop (1 + m)).toArray⟩ W (by rw [ba_size_drop]; omega) r x.code x.dig (by show mhRd (s.data.toList.drop (1 + m)) = _; rw [← List.drop_drop]; exact e3))
    have i4 : (m : Int) ≤ s.size := by omega
    have i5 : (r : Int) ≤ s.size := by omega
    have HK := Lib.hid (show (1 + (m : Int) + r) = (k : Int) by omega)
    have HR : Hid (rdSpec (cidRd s.data.toList) = .tuple #[.agg #[.int .u64 1, .int .u64 x.codec, .int .u64 x.code, .string ⟨x.dig.toArray⟩], .int .i64 k, .bool true]) := Lib.hid (by rw [hd]; show Value.tuple #[cidVal x, .int .i64 k, .bool true] = _; unfold cidVal; rw [hv]; rfl)
    generalize (⟨(s.data.toList.drop 1).toArray⟩ : ByteArray) = S1 at *
    generalize (⟨(s.data.toList.drop (1 + m)).toArray⟩ : ByteArray) = S2 at *
    generalize (⟨x.dig.toArray⟩ : ByteArray) = D at *
    rw [HR.out]
    clear hd hz e1 e2 e3 hk hv HR hkl
    generalize (x.codec : Int) = v1 at *
    generalize (x.code : Int) = v2 at *
    rcases hF with hn2 | ⟨hn2, x0, x1, i0, i1, h18 | ⟨h18, h32⟩⟩
    all_goals
      go_enter Tryd.func62, Tryd.ntmps62
      go_wp2_with fail
      refine (C1 _).out.mono ?_
      rintro e w1 ⟨rfl, hb⟩
      have b1 := below_next b0 hb
      have O1 := O0.below hb
      clear hb
      go_wp2_with fail
      refine (C2 _).out.mono ?_
      rintro e w2 ⟨rfl, hb⟩
      have b2 := below_next b1 hb
      have O2 := O1.below hb
      clear hb
      go_wp2_with fail
      refine (C3 _).out.mono ?_
      rintro e w3 ⟨rfl, hb⟩
      have b3 := below_next b2 hb
      have O3 := O2.below hb
      clear hb
      have bb := b3
      obtain ⟨⟨k0, k1, k2, k3⟩, f0, f1, f2, f3⟩ := O3.cells
      have HO := Lib.hid O3.row
      clear O3
      go_wp2
      refine bodyPost_ret (results_row_tmp2 rfl _ _ (w.heap.size) 26 #[.int .u64 1, .int .u64 v1, .int .u64 v2, .string D] (0, 0) _ rfl (set4 HO.out _ _ _ _) Tryd.underlying26 rfl (by kernel_rfl)) rfl ?_
      exact ⟨by rw [← HK.out]; rfl, below_set4 bb (Nat.le_refl _) _ _ _ _⟩

theorem readCid_any (s : ByteArray) (w : World) (hm : s.size ≤ 2147483600) :
    Calls Tryd.prog 62 #[.string s] w fun e w' => e = .returned (rdSpec (cidRd s.data.toList)) ∧ Below w.heap.size w w' := by
  by_cases hz : cidZero s.data.toList
  · exact readCid_zero s w hm hz
  · cases hd : cidRd s.data.toList with
    | none => rw [← hd]; exact readCid_none s w hm hz hd
    | some y => obtain ⟨x, k⟩ := y; rw [← hd]; exact readCid_one s w hm hz x k hd
end Go.Proofs.YthfgnhgijgjggaaDoor
/- Contracts: (cid.Prefix).Bytes. -/
namespace Go.Proofs.YthfgnhgijgjggaaDoor
open Go.RowKit

theorem splice_next (z : Value) (a b : List Value) (r : Nat) : splice (a ++ List.replicate r z) a.length b = (a ++ b) ++ List.replicate (r - b.length) z := by
  simp [splice]

theorem putUvR_any (g n c x r o : Nat) (done : List UInt8) (t : TypeId) (w : World) (hx : x < 18446744073709551616) (ho : o = done.length)
    (hrow : w.heap[g]? = some (.cells (Lib.byteCells done ++ List.replicate r (Value.int .u8 0)).toArray t (0, 0)))
    (hfit : (Lib.uvarint x).length ≤ r) (hn : (Lib.uvarint x).length ≤ n) :
    Calls Tryd.prog 82 #[.slice (some ⟨g, o, none⟩) n c, .int .u64 x] w fun e w' =>
      e = .returned (.int .i64 (Lib.uvarint x).length) ∧ Hid (w'.heap[g]? = some (.cells (Lib.byteCells (done ++ Lib.uvarint x) ++ List.replicate (r - (Lib.uvarint x).length) (Value.int .u8 0)).toArray t (0, 0))) ∧ Turn g w w' := by
  refine (putUvW_any g o n c x _ t w hx hrow (by rw [List.length_append, List.length_replicate, Lib.byteCells_length, ho]; omega) hn).mono ?_
  rintro e w' ⟨rfl, h1, h2⟩
  refine ⟨rfl, Lib.hid ?_, h2⟩
  rw [h1.out, ho, ← Lib.byteCells_length done, splice_next, ← Lib.byteCells_append, Lib.byteCells_length]

/-- The bytes of a prefix. -/
def pfEnc (a b c d : Nat) : List UInt8 := Lib.uvarint a ++ (Lib.uvarint b ++ (Lib.uvarint c ++ Lib.uvarint d))

set_option maxRecDepth 100000 in
set_option maxHeartbeats 4000000 in
theorem pfBytes (a b c d : Nat) (ha : a < 18446744073709551616) (hb : b < 18446744073709551616) (hc : c < 18446744073709551616) (hd : d < 9223372036854775808) (w : World) :
    Calls Tryd.prog 45 #[.agg #[.int .u64 a, .int .u64 b, .int .u64 c, .int .i64 d]] w fun e w' => HasBytes (pfEnc a b c d) e w' ∧ Below w.heap.size w w' := by
  have hA : Below w.heap.size w (w.alloc (.cells #[.int .u64 a, .int .u64 b, .int .u64 c, .int .i64 d] 91)) := (Below.refl _ _).alloc (Nat.le_refl _) _
  have R0 := heap_alloc_new w (.cells #[.int .u64 a, .int .u64 b, .int .u64 c, .int .i64 d] 91)
  have hg0 : (w.alloc (.cells #[.int .u64 a, .int .u64 b, .int .u64 c, .int .i64 d] 91)).heap.size = w.heap.size + 1 := by simp
  have la := Lib.uvarint_length64 ha
  have lb := Lib.uvarint_length64 hb
  have lc := Lib.uvarint_length64 hc
  have ld := Lib.uvarint_length64 (x := d) (by omega)
  have pa := Lib.uvarint_pos a
  have pb := Lib.uvarint_pos b
  have pc := Lib.uvarint_pos c
  have pd := Lib.uvarint_pos d
  have hw64 : (d : Int) % 18446744073709551616 = d := by omega
  have S1 := fun W => Lib.hid (uvSize_any a W ha)
  have S2 := fun W => Lib.hid (uvSize_any b W hb)
  have S3 := fun W => Lib.hid (uvSize_any c W hc)
  have S4 := fun W => Lib.hid (uvSize_any d W (by omega))
  have P1 := fun g n k r o done W h1 h2 h3 h4 => Lib.hid (putUvR_any g n k a r o done 5 W ha h1 h2 h3 h4)
  have P2 := fun g n k r o done W h1 h2 h3 h4 => Lib.hid (putUvR_any g n k b r o done 5 W hb h1 h2 h3 h4)
  have P3 := fun g n k r o done W h1 h2 h3 h4 => Lib.hid (putUvR_any g n k c r o done 5 W hc h1 h2 h3 h4)
  have P4 := fun g n k r o done W h1 h2 h3 h4 => Lib.hid (putUvR_any g n k d r o done 5 W (by omega) h1 h2 h3 h4)
  have hE : pfEnc a b c d = (((([] ++ Lib.uvarint a) ++ Lib.uvarint b) ++ Lib.uvarint c) ++ Lib.uvarint d) := by unfold pfEnc; simp
  rw [hE]
  clear hE ha hb hc
  generalize Lib.uvarint a = A at *
  generalize Lib.uvarint b = B at *
  generalize Lib.uvarint c = C at *
  generalize Lib.uvarint d = D at *
  obtain ⟨na, hna⟩ : ∃ n, n = A.length := ⟨_, rfl⟩
  obtain ⟨nb, hnb⟩ : ∃ n, n = B.length := ⟨_, rfl⟩
  obtain ⟨nc, hnc⟩ : ∃ n, n = C.length := ⟨_, rfl⟩
  obtain ⟨nd, hnd⟩ : ∃ n, n = D.length := ⟨_, rfl⟩
  rw [← hna] at la pa P1 S1
  rw [← hnb] at lb pb P2 S2
  rw [← hnc] at lc pc P3 S3
  rw [← hnd] at ld pd P4 S4
  have HNA := Lib.hid hna
  have HNB := Lib.hid hnb
  have HNC := Lib.hid hnc
  have HND := Lib.hid hnd
  clear hna hnb hnc hnd
  have k0 := cell_of_row' (cur := [_, _, _, _]) R0 0
  have k1 := cell_of_row' (cur := [_, _, _, _]) R0 1
  have k2 := cell_of_row' (cur := [_, _, _, _]) R0 2
  have k3 := cell_of_row' (cur := [_, _, _, _]) R0 3
  have HR0 := Lib.hid R0
  obtain ⟨w1, hmk, hb1, hs1, hrow⟩ := make_bytes (P := Tryd.prog) Tryd.underlying43 info_u8 (w.alloc (.cells #[.int .u64 a, .int .u64 b, .int .u64 c, .int .i64 d] 91)) (na + nb + nc + nd) (by omega)
  rw [hg0] at hmk hs1 hrow
  have eN : ((na + nb + nc + nd : Nat) : Int) = (na : Int) + nb + nc + nd := by omega
  rw [eN] at hmk
  have HROW := Lib.hid hrow
  have R1 := row_below hb1 (block_of_row R0) R0
  have b1 := below_next hA hb1
  clear R0 hrow hb1 hA
  have f1 := fun W => run_from (P := Tryd.prog) Tryd.underlying43 info_u8 (some ⟨w.heap.size + 1, 0, none⟩) (na + nb + nc + nd) (na + nb + nc + nd) na (by omega) W
  have f2 := fun W => run_from (P := Tryd.prog) Tryd.underlying43 info_u8 (some ⟨w.heap.size + 1, 0, none⟩) (na + nb + nc + nd) (na + nb + nc + nd) (na + nb) (by omega) W
  have f3 := fun W => run_from (P := Tryd.prog) Tryd.underlying43 info_u8 (some ⟨w.heap.size + 1, 0, none⟩) (na + nb + nc + nd) (na + nb + nc + nd) (na + nb + nc) (by omega) W
  rw [cutA_own _ _ _ _ (by omega), Nat.zero_add] at f1 f2 f3
  rw [show ((na + nb : Nat) : Int) = (na : Int) + nb by omega] at f2
  rw [show ((na + nb + nc : Nat) : Int) = (na : Int) + nb + nc by omega] at f3
  rw [show na + nb + nc + nd - (na + nb + nc) = nd by omega] at f3
  have g2 : IntKind.i64.wrap ((na : Int) + nb) = (na : Int) + nb := IntWalk.i64_in _ (by omega)
  have g3 : IntKind.i64.wrap ((na : Int) + nb + nc) = (na : Int) + nb + nc := IntWalk.i64_in _ (by omega)
  have g5 : IntKind.u64.wrap (d : Int) = (d : Int) := IntWalk.u64_in _ (by omega)
  have g4 : IntKind.i64.wrap ((na : Int) + nb + nc + nd) = (na : Int) + nb + nc + nd := IntWalk.i64_in _ (by omega)
  go_enter Tryd.func45, Tryd.ntmps45
  go_wp2_with fail
  generalize (w.alloc (.cells #[.int .u64 a, .int .u64 b, .int .u64 c, .int .i64 d] 91)) = w0 at *
  refine (S1 w0).out.mono ?_
  rintro e w' ⟨rfl, rfl⟩
  go_wp2_with fail
  refine (S2 w0).out.mono ?_
  rintro e w' ⟨rfl, rfl⟩
  go_wp2_with fail
  refine (S3 w0).out.mono ?_
  rintro e w' ⟨rfl, rfl⟩
  go_wp2_with fail
  refine (S4 w0).out.mono ?_
  rintro e w' ⟨rfl, rfl⟩
  clear S1 S2 S3 S4
  have j0 := cell_of_row' (cur := [_, _, _, _]) R1 0
  have j1 := cell_of_row' (cur := [_, _, _, _]) R1 1
  have j2 := cell_of_row' (cur := [_, _, _, _]) R1 2
  have j3 := cell_of_row' (cur := [_, _, _, _]) R1 3
  have HR1 := Lib.hid R1
  clear R1
  go_wp2_with fail
  clear hmk k0 k1 k2 k3
  refine (P1 (w.heap.size + 1) (na + nb + nc + nd) (na + nb + nc + nd) (na + nb + nc + nd) 0 [] w1 rfl HROW.out (by omega) (by omega)).out.mono ?_
  rintro e w2 ⟨rfl, h2, t2⟩
  have R2 := (t2.block w.heap.size (by omega)).trans HR1.out
  have b2 := b1.trans (t2.below (B := w.heap.size) (by omega))
  have k1 := cell_of_row' (cur := [_, _, _, _]) R2 1
  have Q2 := Lib.hid (P2 (w.heap.size + 1) (na + nb + nc + nd - na) (na + nb + nc + nd - na) (na + nb + nc + nd - na) na _ w2.drew (by rw [List.nil_append]; exact HNA.out) h2.out (by omega) (by omega))
  have HR2 := Lib.hid R2
  clear R2 t2 P1 P2 j0 j1 j2 j3
  go_wp2_with fail
  go_region_with (go_at_call 82; refine Q2.out.mono ?_; rintro e w3 ⟨rfl, h3, t3⟩)
  have R3 := (t3.block w.heap.size (by omega)).trans (show w2.drew.heap[w.heap.size]? = _ from HR2.out)
  have b3 := (show Below w.heap.size w w2.drew from below_drewN _ _ 1 |> b2.trans).trans (t3.below (B := w.heap.size) (by omega))
  have k2 := cell_of_row' (cur := [_, _, _, _]) R3 2
  have Q3 := Lib.hid (P3 (w.heap.size + 1) (na + nb + nc + nd - (na + nb)) (na + nb + nc + nd - (na + nb)) (na + nb + nc + nd - na - nb) (na + nb) _ w3.drew (by rw [List.nil_append, List.length_append, ← HNA.out, ← HNB.out]) h3.out (by omega) (by omega))
  have HR3 := Lib.hid R3
  clear R3 t3 P3 k1 Q2 HR2 h2 b2 f1
  go_wp2_with fail
  go_region_with (go_at_call 82; refine Q3.out.mono ?_; rintro e w4 ⟨rfl, h4, t4⟩)
  have R4 := (t4.block w.heap.size (by omega)).trans (show w3.drew.heap[w.heap.size]? = _ from HR3.out)
  have b4 := (show Below w.heap.size w w3.drew from below_drewN _ _ 1 |> b3.trans).trans (t4.below (B := w.heap.size) (by omega))
  have k3 := cell_of_row' (cur := [_, _, _, _]) R4 3
  have Q4 := Lib.hid (P4 (w.heap.size + 1) nd nd (na + nb + nc + nd - na - nb - nc) (na + nb + nc) _ w4.drew (by rw [List.nil_append, List.length_append, List.length_append, ← HNA.out, ← HNB.out, ← HNC.out]) h4.out (by omega) (by omega))
  have HR4 := Lib.hid R4
  clear R4 t4 P4 k2 Q3 HR3 h3 b3 f2
  go_wp2_with fail
  go_region_with (go_at_call 82; refine Q4.out.mono ?_; rintro e w5 ⟨rfl, h5, t5⟩)
  have b5 := (show Below w.heap.size w w4.drew from below_drewN _ _ 1 |> b4.trans).trans (t5.below (B := w.heap.size) (by omega))
  have hbs := Lib.hid (BS.of_row (c := na + nb + nc + nd) (g := w.heap.size + 1) (l := A ++ B ++ C ++ D) (w := w5) (t := 5) (m := (0, 0)) (by
    have h := h5.out
    rw [show na + nb + nc + nd - na - nb - nc - nd = 0 by omega, List.replicate_zero, List.append_nil, List.nil_append] at h
    exact h) (by simp only [List.length_append]; rw [← HNA.out, ← HNB.out, ← HNC.out, ← HND.out]; exact Nat.le_refl _))
  have hL : Hid ((A ++ B ++ C ++ D).length = na + nb + nc + nd) := Lib.hid (by simp only [List.length_append]; rw [← HNA.out, ← HNB.out, ← HNC.out, ← HND.out])
  clear t5 h5 k3 HR4 h4 f3 Q4
  go_wp2
  go_ret
  rw [hL.out] at hbs
  exact ⟨⟨_, _, _, rfl, hbs.out⟩, b5⟩
end Go.Proofs.YthfgnhgijgjggaaDoor
/- Contracts of a reader over bytes: (*bytes.Reader).Read, and io.ReadAtLeast, io.ReadFull over one, into a row that is known whole. -/
namespace Go.Proofs.YthfgnhgijgjggaaDoor
open Go.RowKit

abbrev Rdr (w : World) (p : Nat) (v : Value) (l : List UInt8) (i : Nat) : Prop := RdrT 163 w p v l i
abbrev errV (a : Addr) : Value := .iface 218 (.pointer (some a))
/-- Variable g holds the error a, an object of its own; both lie below B. -/
structure ErrAt (B : Nat) (w : World) (g : Nat) (a : Addr) : Prop where
  lt : g < B
  lta : a.block < B
  cell : w.cell? ⟨g, 0, none⟩ = some (errV a)
  row : ∃ cs t, w.heap[a.block]? = some (.cells cs t (0, 0))
theorem ErrAt.keep {B : Nat} {S : Nat → Prop} {w w' : World} {g : Nat} {a : Addr} (h : ErrAt B w g a) (hb : Keep S w w') (hS : ∀ k, S k → B ≤ k) : ErrAt B w' g a := by
  obtain ⟨cs, t, hr⟩ := h.row
  exact ⟨h.lt, h.lta, hb.cell h.cell (fun hh => by have h1 := hS _ hh; have h2 := h.lt; exact absurd h1 (Nat.not_le.2 h2)), cs, t, hb.row hr (fun hh => by have h1 := hS _ hh; have h2 := h.lta; exact absurd h1 (Nat.not_le.2 h2))⟩
theorem ErrAt.below {B : Nat} {w w' : World} {g : Nat} {a : Addr} (h : ErrAt B w g a) (hb : Below w.heap.size w w') : ErrAt B w' g a := h.keep (S := fun _ => False) hb.keep (fun _ h => h.elim)
theorem ErrAt.drew {B : Nat} {w : World} {g : Nat} {a : Addr} (h : ErrAt B w g a) : ErrAt B w.drew g a := h.keep (keep_drew (fun _ => False) w) (fun _ h => h.elim)
theorem ErrAt.mono {B C : Nat} {w : World} {g : Nat} {a : Addr} (h : ErrAt B w g a) (hB : B ≤ C) : ErrAt C w g a := ⟨Nat.lt_of_lt_of_le h.lt hB, Nat.lt_of_lt_of_le h.lta hB, h.cell, h.row⟩
theorem ErrAt.size {B : Nat} {w : World} {g : Nat} {a : Addr} (h : ErrAt B w g a) : ErrAt w.heap.size w g a := by
  obtain ⟨cs, t, hr⟩ := h.row
  exact ⟨block_of_cell h.cell, block_of_row hr, h.cell, cs, t, hr⟩
theorem errInfo : ∃ i, Tryd.prog.info? 218 = some i ∧ i.comparable = true := by
  have h : (Tryd.prog.info? 218).map (·.comparable) = some true := by kernel_rfl
  obtain ⟨i, hi, h2⟩ := Option.map_eq_some_iff.1 h
  exact ⟨i, hi, h2⟩
theorem errInfo2 : ∃ i, Tryd.prog.info? 220 = some i ∧ i.size ≠ 0 := by
  have h : (Tryd.prog.info? 220).map (·.size) = some 1 := by kernel_rfl
  obtain ⟨i, hi, h2⟩ := Option.map_eq_some_iff.1 h
  exact ⟨i, hi, by omega⟩
/-- '==' of errors: one and the same; two. -/
theorem run_eqErr_same (a : Addr) (w : World) : (binOp .eql 84 (errV a) (errV a)).run Tryd.prog w = .ok (.bool true) w := by
  obtain ⟨i, hi, hc⟩ := errInfo
  obtain ⟨j, hj, _⟩ := errInfo2
  exact run_eql_iface_ptr_same w a Tryd.underlying84 Tryd.underlying218 hi hc hj
theorem run_eqErr_other {a b : Addr} {w : World} (hne : a ≠ b) (ha : ∃ cs t, w.heap[a.block]? = some (.cells cs t (0, 0))) (hb : ∃ cs t, w.heap[b.block]? = some (.cells cs t (0, 0))) :
    (binOp .eql 84 (errV a) (errV b)).run Tryd.prog w = .ok (.bool false) w := by
  obtain ⟨i, hi, hc⟩ := errInfo
  obtain ⟨j, hj, hz⟩ := errInfo2
  obtain ⟨ca, ta, ha⟩ := ha
  obtain ⟨cb, tb, hb⟩ := hb
  exact run_eql_iface_ptr_other w Tryd.underlying84 Tryd.underlying218 hi hc hj hz hne ha hb

theorem hsz1 : (Tryd.prog.info? 5).map (·.size) = some 1 := by kernel_rfl

set_option maxRecDepth 100000 in
set_option maxHeartbeats 1000000 in
/-- Bytes that are there are read. -/
theorem rdRead_some (p g o m c : Nat) (v : Value) (l : List UInt8) (i : Nat) (cur : List Value) (t : TypeId) (A : Option Addr) (w : World) (hr : Rdr w p v l i) (hi : i < l.length) (hpg : p < g)
    (hg : w.heap[g]? = some (.cells cur.toArray t (0, 0))) (hA : 0 < m → A = some ⟨g, o, none⟩) (hfit : o + m ≤ cur.length) :
    Calls Tryd.prog 141 #[.pointer (some ⟨p, 0, none⟩), .slice A m c] w fun e w' => e = .returned (.tuple #[.int .i64 (min m (l.length - i) : Nat), .nilIface]) ∧ Rdr w' p v l (i + min m (l.length - i)) ∧
      Hid (w'.heap[g]? = some (.cells (splice cur o (Lib.byteCells ((l.drop i).take m))).toArray t (0, 0))) ∧ Keep (fun k => k = p ∨ k = g) w w' := by
  obtain ⟨⟨r, hrow⟩, ⟨⟨A0, c0, rfl, hc0, hcl⟩, hout⟩, hle, hfits⟩ := hr
  have h0 : w.cell? ⟨p, 0, none⟩ = some (.slice A0 l.length c0) := by rw [cell_of_row' (cur := [_, _, _]) hrow]; rfl
  have h1 : w.cell? ⟨p, 1, none⟩ = some (.int .i64 i) := by rw [cell_of_row' (cur := [_, _, _]) hrow]; rfl
  have h2 : w.cell? ⟨p, 2, none⟩ = some (.int .i64 r) := by rw [cell_of_row' (cur := [_, _, _]) hrow]; rfl
  have f2 : w.frozen? ⟨p, 2, none⟩ = false := frozen_of_row' (cur := [_, _, _]) hrow 2
  have f1 : w.frozen? ⟨p, 1, none⟩ = false := frozen_of_row' (cur := [_, _, _]) hrow 1
  have hsl := fun W => run_from (P := Tryd.prog) Tryd.underlying43 info_u8 A0 l.length c0 i (by omega) W
  obtain ⟨N, hN⟩ : ∃ N, N = l.length := ⟨_, rfl⟩
  have HN := Lib.hid hN
  have HG := Lib.hid hg
  have HC := Lib.hid hcl
  have HO := Lib.hid hout
  have HF := Lib.hid hfit
  have HROW := Lib.hid hrow
  have HC0 := Lib.hid hc0
  rw [← hN] at hsl h0 hi hfits
  clear hg hcl hout hfit hle hc0 hrow hN
  go_enter Tryd.func141, Tryd.ntmps141
  go_wp2
  go_quiet (fail)
  go_wp2
  have k1 : Keep (fun k => k = p) w ((w.drewN nq).setCell ⟨p, 2, none⟩ (.int .i64 (-1))) := Keep.setCell (S := fun k => k = p) (keep_drewN _ w nq) (show p = p from rfl) _ _
  have hrow2 := Lib.heap_setCell_same (i := 2) (w := w.drewN nq) (HROW.out : (w.drewN nq).heap[p]? = _) (.int .i64 (-1))
  generalize (w.drewN nq).setCell ⟨p, 2, none⟩ (.int .i64 (-1)) = w2 at k1 hrow2 ⊢
  clear h0 h1 h2 f2 f1
  have hrow3 : w2.heap[p]? = some (.cells #[.slice A0 l.length c0, .int .i64 i, .int .i64 (-1)] 163 (0, 0)) := hrow2
  rw [← HN.out] at hrow3
  have h0 : w2.cell? ⟨p, 0, none⟩ = some (.slice A0 N c0) := by rw [cell_of_row' (cur := [_, _, _]) hrow3]; rfl
  have h1 : w2.cell? ⟨p, 1, none⟩ = some (.int .i64 i) := by rw [cell_of_row' (cur := [_, _, _]) hrow3]; rfl
  have f1 : w2.frozen? ⟨p, 1, none⟩ = false := frozen_of_row' (cur := [_, _, _]) hrow3 1
  have HROW3 := Lib.hid hrow3
  clear hrow2 hrow3
  go_still_tail 10, (by kernel_rfl)
  change wpList _ _ _ _ _ w2.drew
  have k2 : Keep (fun k => k = p) w w2.drew := k1.drewN 1
  have hrow3 : w2.drew.heap[p]? = some (.cells #[.slice A0 N c0, .int .i64 i, .int .i64 (-1)] 163 (0, 0)) := HROW3.out
  generalize w2.drew = w3 at k2 hrow3 ⊢
  clear h0 h1 f1 k1 HROW3
  have hg3 := k2.row HG.out (by omega)
  have hb3 : BSo (fun k => p ≤ k) w3 (.slice A0 l.length c0) l := BSo.keep ⟨⟨A0, c0, rfl, by have := HC0.out; omega, HC.out⟩, HO.out⟩ (k2.mono fun _ _ e => by omega)
  have hfrom := (hb3.bs.from_ (P := Tryd.prog) Tryd.underlying43 info_u8 i (by rw [← HN.out]; omega)).2
  have hlenD : (l.drop i).length = N - i := by rw [List.length_drop, HN.out]
  obtain ⟨K, hK⟩ : ∃ K, K = min m (N - i) := ⟨_, rfl⟩
  have hlen : (Lib.byteCells ((l.drop i).take m)).length = K := by rw [Lib.byteCells_length, List.length_take, hlenD, hK]
  have hpos : 0 < (Lib.byteCells ((l.drop i).take m)).length → A = some ⟨g, o, none⟩ ∧ ∃ ad, cutA A0 c0 i = some ad ∧ ∀ j v, (Lib.byteCells ((l.drop i).take m))[j]? = some v → w3.cell? (ad.add j) = some v := by
    intro hp
    rw [hlen] at hp
    refine ⟨hA (by omega), ?_⟩
    rw [← HN.out] at hfrom
    obtain ⟨b, o', e, hcell⟩ := hfrom.at_ (by omega)
    refine ⟨_, e, fun j v hv => ?_⟩
    have hj : j < ((l.drop i).take m).length := by
      rcases Nat.lt_or_ge j ((l.drop i).take m).length with h | h
      · exact h
      · rw [List.getElem?_eq_none (by rw [Lib.byteCells_length]; exact h)] at hv; cases hv
    have ead : (⟨b, o', none⟩ : Addr).add j = ⟨b, o' + j, none⟩ := by by_cases h : j = 0 <;> simp [Addr.add, h]
    have hj2 : j < (l.drop i).length := by rw [List.length_take] at hj; omega
    rw [ead, hcell j hj2]
    simp only [Lib.byteCells, List.getElem?_map, List.getElem?_eq_getElem hj, Option.map_some, Option.some.injEq] at hv
    rw [← hv, List.getElem_take]
  have hn : (Lib.byteCells ((l.drop i).take m)).length = Nat.min (N - i) m := by rw [hlen, hK]; exact Nat.min_comm _ _
  have hfit2 : o + (Lib.byteCells ((l.drop i).take m)).length ≤ cur.length := by rw [hlen]; have := HF.out; omega
  have h1c := Lib.byteCells_one ((l.drop i).take m)
  have hrow4 : ∀ w4, Keep (fun k => k = g) w3 w4 → w4.heap[p]? = some (.cells #[.slice A0 N c0, .int .i64 i, .int .i64 (-1)] 163 (0, 0)) := fun w4 hk => hk.row hrow3 (by omega)
  refine wpList_copy_keep rfl (.tmp 20) (.tmp 29) 43 43 rfl 5 Tryd.underlying43 hsz1 A (cutA A0 c0 i) m c (N - i) (c0 - i) rfl rfl g o cur t hg3 _ hn hpos hfit2 h1c ?_
  intro w4 hg4 hk4
  have hr4 := hrow4 w4 hk4
  have h1 : w4.cell? ⟨p, 1, none⟩ = some (.int .i64 i) := by rw [cell_of_row' (cur := [_, _, _]) hr4]; rfl
  have f1 : w4.frozen? ⟨p, 1, none⟩ = false := frozen_of_row' (cur := [_, _, _]) hr4 1
  rw [hlen]
  have HR4 := Lib.hid hr4
  have HB3 := Lib.hid hb3
  have HK := Lib.hid hK
  have hKN : i + K ≤ N := by omega
  clear hr4 hrow4 hb3 hfrom hlenD hlen hpos hn hfit2 h1c hg3 hrow3 hA hK
  go_wp2
  go_ret2
  have eK2 : min m (l.length - i) = K := by rw [← HN.out, HK.out]
  rw [eK2]
  have hk5 : Keep (fun k => k = p ∨ k = g) w4 (w4.setCell ⟨p, 1, none⟩ (.int .i64 ((i : Int) + K))) := Keep.setCell (Keep.refl _ _) (Or.inl rfl) _ _
  have hk3 : Keep (fun k => k = p ∨ k = g) w3 (w4.setCell ⟨p, 1, none⟩ (.int .i64 ((i : Int) + K))) := (hk4.mono fun _ _ h => Or.inr h).trans hk5
  refine ⟨rfl, ⟨⟨-1, ?_⟩, ?_, ?_, ?_⟩, Lib.hid ?_, ?_⟩
  · have h := Lib.heap_setCell_same (i := 1) HR4.out (.int .i64 ((i : Int) + K))
    rw [← HN.out]
    rw [h]; rfl
  · exact HB3.out.keep (hk3.mono fun _ _ h => by omega)
  · rw [← HN.out]; exact hKN
  · rw [← HN.out]; exact hfits
  · rw [← hg4.out]; exact Below.heap_setCell _ _ _ _ (by show g ≠ p; omega)
  · exact (k2.mono fun _ _ h => Or.inl h).trans hk3

set_option maxRecDepth 100000 in
set_option maxHeartbeats 1000000 in
/-- Behind the last byte the end is told. -/
theorem rdRead_end (p m c : Nat) (v : Value) (l : List UInt8) (i : Nat) (A : Option Addr) (w : World) (hr : Rdr w p v l i) (hi : i = l.length) (e0 : Addr) (he : ErrAt p w 0 e0) :
    Calls Tryd.prog 141 #[.pointer (some ⟨p, 0, none⟩), .slice A m c] w fun e w' => e = .returned (.tuple #[.int .i64 0, errV e0]) ∧ Keep (fun _ => False) w w' := by
  obtain ⟨⟨r, hrow⟩, ⟨⟨A0, c0, rfl, hc0, hcl⟩, hout⟩, hle, hfits⟩ := hr
  have h0 : w.cell? ⟨p, 0, none⟩ = some (.slice A0 l.length c0) := by rw [cell_of_row' (cur := [_, _, _]) hrow]; rfl
  have h1 : w.cell? ⟨p, 1, none⟩ = some (.int .i64 i) := by rw [cell_of_row' (cur := [_, _, _]) hrow]; rfl
  have he := he.cell
  clear hcl hout hle hc0 hrow
  go_enter Tryd.func141, Tryd.ntmps141
  go_wp2
  go_quiet (fail)
  go_wp2
  go_quiet (fail)
  go_wp2
  go_ret2
  exact ⟨rfl, (keep_drewN _ _ _).drewN _⟩

theorem nil_rdRead (a : Addr) (w : World) : (nilAhead 359 99 (.pointer (some a)) "Read").run Tryd.prog w = .ok (some false) w := by kernel_rfl
theorem method_rdRead (a : Addr) (w : World) : (method 359 99 (.pointer (some a)) "Read").run Tryd.prog w = .ok (141, .pointer (some a)) w := by kernel_rfl

abbrev rdV (p : Nat) : Value := .iface 99 (.pointer (some ⟨p, 0, none⟩))

set_option maxRecDepth 100000 in
set_option maxHeartbeats 1000000 in
theorem rdAtLeast_ok (p g n c : Nat) (v : Value) (l : List UInt8) (i : Nat) (cur : List Value) (t : TypeId) (w : World) (hr : Rdr w p v l i) (hpg : p < g)
    (hg : w.heap[g]? = some (.cells cur.toArray t (0, 0))) (hn0 : 0 < n) (hn : cur.length = n) (hi : i + n ≤ l.length) :
    Calls Tryd.prog 107 #[rdV p, .slice (some ⟨g, 0, none⟩) n c, .int .i64 n] w fun e w' => e = .returned (.tuple #[.int .i64 n, .nilIface]) ∧ Rdr w' p v l (i + n) ∧
      Hid (w'.heap[g]? = some (.cells (Lib.byteCells ((l.drop i).take n)).toArray t (0, 0))) ∧ Keep (fun k => k = p ∨ k = g) w w' := by
  have hL := hr.fits
  have HR := Lib.hid (rdRead_some p g 0 n c v l i cur t (some ⟨g, 0, none⟩) w.drew hr.drew (by omega) hpg hg (fun _ => rfl) (by omega))
  have HRd := Lib.hid hr
  have b1 : n ≤ 9223372036854775807 := by omega
  have hmin : min n (l.length - i) = n := by omega
  have HMIN := Lib.hid hmin
  have hlen : (Lib.byteCells ((l.drop i).take n)).length = cur.length := by rw [Lib.byteCells_length, List.length_take, List.length_drop]; omega
  have HLEN := Lib.hid hlen
  clear hlen
  have hsl := fun W => run_from (P := Tryd.prog) Tryd.underlying43 info_u8 (some ⟨g, 0, none⟩) n c 0 (by omega) W
  have hmf : ∀ (fn : Fn) (first cap : Array Value) (w : World), (Instr.makeFunc fn first cap).run Tryd.prog w = .ok (.func fn first cap) w := fun _ _ _ _ => rfl
  clear hr hg hn hmin hi hL
  go_enter Tryd.func107, Tryd.ntmps107
  go_wp2
  refine wp_loop_rounds 2 ?_
  rw [rounds_succ]
  go_wp2_with fail
  have hna := fun w => nil_rdRead ⟨p, 0, none⟩ w
  have hme := fun w => method_rdRead ⟨p, 0, none⟩ w
  go_region_with (go_at_call 141; refine HR.out.mono ?_; rw [HMIN.out]; rintro e w1 ⟨rfl, hr1, hg1, hk1⟩)
  go_wp2
  rw [rounds_succ]
  go_wp2
  go_ret2
  refine ⟨rfl, hr1, ?_, (keep_drew _ w).trans hk1⟩
  rw [splice_whole _ _ HLEN.out] at hg1
  exact hg1

set_option maxRecDepth 100000 in
set_option maxHeartbeats 1000000 in
theorem rdAtLeast_end (p n c g : Nat) (v : Value) (l : List UInt8) (i : Nat) (w : World) (hr : Rdr w p v l i) (hn0 : 0 < n) (b1 : n ≤ 9223372036854775807) (hi : i = l.length) (e0 : Addr) (he : ErrAt p w 0 e0) :
    Calls Tryd.prog 107 #[rdV p, .slice (some ⟨g, 0, none⟩) n c, .int .i64 n] w fun e w' => e = .returned (.tuple #[.int .i64 0, errV e0]) ∧ Keep (fun _ => False) w w' := by
  have HR := Lib.hid (rdRead_end p n c v l i (some ⟨g, 0, none⟩) w.drew hr.drew hi e0 he.drew)
  have hsl := fun W => run_from (P := Tryd.prog) Tryd.underlying43 info_u8 (some ⟨g, 0, none⟩) n c 0 (by omega) W
  have hmf : ∀ (fn : Fn) (first cap : Array Value) (w : World), (Instr.makeFunc fn first cap).run Tryd.prog w = .ok (.func fn first cap) w := fun _ _ _ _ => rfl
  have hna := fun w => nil_rdRead ⟨p, 0, none⟩ w
  have hme := fun w => method_rdRead ⟨p, 0, none⟩ w
  have he := he.cell
  clear hr hi
  go_enter Tryd.func107, Tryd.ntmps107
  go_wp2
  refine wp_loop_rounds 2 ?_
  rw [rounds_succ]
  go_wp2_with fail
  go_region_with (go_at_call 141; refine HR.out.mono ?_; rintro e w1 ⟨rfl, hk1⟩)
  go_wp2
  rw [rounds_succ]
  go_wp2
  go_ret2
  exact ⟨rfl, (keep_drew _ w).trans hk1⟩
end Go.Proofs.YthfgnhgijgjggaaDoor
/- Contracts of a reader over bytes, part 2: io.ReadAtLeast where the bytes end; io.ReadFull. -/
namespace Go.Proofs.YthfgnhgijgjggaaDoor
open Go.RowKit

set_option maxRecDepth 100000 in
set_option maxHeartbeats 1000000 in
theorem rdAtLeast_cut (p n c g K : Nat) (v : Value) (l : List UInt8) (i : Nat) (cur : List Value) (t : TypeId) (w : World) (hr : Rdr w p v l i) (hpg : p < g) (hg : w.heap[g]? = some (.cells cur.toArray t (0, 0))) (hn : cur.length = n) (hc : n ≤ c)
    (b1 : n ≤ 9223372036854775807) (hK : K = l.length - i) (hK0 : 0 < K) (hKn : K < n) (e0 e1 : Addr) (he : ErrAt p w 0 e0) (he1 : ErrAt p w 5 e1) :
    Calls Tryd.prog 107 #[rdV p, .slice (some ⟨g, 0, none⟩) n c, .int .i64 n] w fun e w' => e = .returned (.tuple #[.int .i64 K, errV e1]) ∧ Rdr w' p v l l.length ∧ Keep (fun k => k = p ∨ k = g) w w' := by
  have hL := hr.fits
  have hle := hr.le
  have HR := Lib.hid (rdRead_some p g 0 n c v l i cur t (some ⟨g, 0, none⟩) w.drew hr.drew (by omega) hpg hg (fun _ => rfl) (by omega))
  have hmin : min n (l.length - i) = K := by omega
  have hmin2 : i + K = l.length := by omega
  have HMIN := Lib.hid hmin
  have HMIN2 := Lib.hid hmin2
  have hsl := fun W => run_from (P := Tryd.prog) Tryd.underlying43 info_u8 (some ⟨g, 0, none⟩) n c 0 (by omega) W
  have hsl2 := fun W => run_from (P := Tryd.prog) Tryd.underlying43 info_u8 (some ⟨g, 0, none⟩) n c K (by omega) W
  rw [cutA_own _ _ _ _ (by omega), Nat.zero_add] at hsl2
  have hmf : ∀ (fn : Fn) (first cap : Array Value) (w : World), (Instr.makeFunc fn first cap).run Tryd.prog w = .ok (.func fn first cap) w := fun _ _ _ _ => rfl
  have hna := fun w => nil_rdRead ⟨p, 0, none⟩ w
  have hme := fun w => method_rdRead ⟨p, 0, none⟩ w
  have HE := Lib.hid he
  have HE1 := Lib.hid he1
  clear hr hg hn hmin hmin2 he he1 hL hle hK
  go_enter Tryd.func107, Tryd.ntmps107
  go_wp2
  refine wp_loop_rounds 3 ?_
  rw [rounds_succ]
  go_wp2_with fail
  go_region_with (go_at_call 141; refine HR.out.mono ?_; rw [HMIN.out, HMIN2.out]; rintro e w1 ⟨rfl, hr1, hg1, hk1⟩)
  have hk1' := (keep_drew (fun k => k = p ∨ k = g) w).trans hk1
  have q1 : ErrAt p w1 0 e0 := HE.out.keep hk1' (fun k h => by omega)
  have q2 : ErrAt p w1 5 e1 := HE1.out.keep hk1' (fun k h => by omega)
  have HR2 := Lib.hid (rdRead_end p (n - K) (c - K) v l l.length (some ⟨g, K, none⟩) w1.drew hr1.drew rfl e0 q1.drew)
  clear HR hg1 hk1
  go_wp2
  rw [rounds_succ]
  go_wp2_with fail
  go_region_with (go_at_call 141; refine HR2.out.mono ?_; rintro e w2 ⟨rfl, hk2⟩)
  have k1 : w2.cell? ⟨0, 0, none⟩ = _ := hk2.cell q1.drew.cell (fun h => h)
  have k2 : w2.cell? ⟨5, 0, none⟩ = _ := hk2.cell q2.drew.cell (fun h => h)
  have keq := run_eqErr_same e0
  go_wp2
  rw [rounds_succ]
  go_wp2
  go_ret2
  have hk3 : Keep (fun _ => False) w1 w2 := (keep_drew _ w1).trans hk2
  exact ⟨rfl, hr1.keep hk3 (fun _ h => h.elim), hk1'.trans (hk3.mono fun _ _ h => h.elim)⟩

set_option maxRecDepth 100000 in
set_option maxHeartbeats 1000000 in
theorem rdAtLeast_zero (p c : Nat) (A : Option Addr) (w : World) :
    Calls Tryd.prog 107 #[rdV p, .slice A 0 c, .int .i64 0] w fun e w' => e = .returned (.tuple #[.int .i64 0, .nilIface]) ∧ w' = w := by
  go_enter Tryd.func107, Tryd.ntmps107
  go_wp2
  refine wp_loop_rounds 1 ?_
  rw [rounds_succ]
  go_wp2
  go_ret2
  exact ⟨rfl, rfl⟩

/-- io.ReadFull where the bytes are there. -/
theorem rdFull_ok (p g n c : Nat) (v : Value) (l : List UInt8) (i : Nat) (cur : List Value) (t : TypeId) (w : World) (hr : Rdr w p v l i) (hpg : p < g)
    (hg : w.heap[g]? = some (.cells cur.toArray t (0, 0))) (hn : cur.length = n) (hi : i + n ≤ l.length) :
    Calls Tryd.prog 87 #[rdV p, .slice (some ⟨g, 0, none⟩) n c] w fun e w' => e = .returned (.tuple #[.int .i64 n, .nilIface]) ∧ Rdr w' p v l (i + n) ∧
      Hid (w'.heap[g]? = some (.cells (Lib.byteCells ((l.drop i).take n)).toArray t (0, 0))) ∧ Keep (fun k => k = p ∨ k = g) w w' := by
  rcases Nat.eq_zero_or_pos n with h0 | h0
  · subst h0
    have hcur : cur = [] := List.eq_nil_of_length_eq_zero hn
    subst hcur
    have HR := Lib.hid (rdAtLeast_zero p c (some ⟨g, 0, none⟩) w)
    have HR0 := Lib.hid hr
    have HG := Lib.hid hg
    clear hr hg hi hn
    go_enter Tryd.func87, Tryd.ntmps87
    go_wp2_with fail
    refine HR.out.mono ?_
    rintro e w1 ⟨rfl, rfl⟩
    go_wp2
    go_ret2
    exact ⟨rfl, HR0.out, HG, Keep.refl _ _⟩
  · have HR := Lib.hid (rdAtLeast_ok p g n c v l i cur t w hr hpg hg h0 hn hi)
    have hL := hr.fits
    have b1 : n ≤ 9223372036854775807 := by omega
    clear hr hg hi hn
    go_enter Tryd.func87, Tryd.ntmps87
    go_wp2_with fail
    refine HR.out.mono ?_
    rintro e w1 ⟨rfl, h1, h2, h3⟩
    go_wp2
    go_ret2
    exact ⟨rfl, h1, h2, h3⟩

/-- .. where they end: io.EOF where there is none, io.ErrUnexpectedEOF where there are too few. -/
theorem rdFull_short (p g n c K : Nat) (v : Value) (l : List UInt8) (i : Nat) (cur : List Value) (t : TypeId) (w : World) (hr : Rdr w p v l i) (hpg : p < g) (hg : w.heap[g]? = some (.cells cur.toArray t (0, 0))) (hn : cur.length = n) (hc : n ≤ c)
    (b1 : n ≤ 9223372036854775807) (hK : K = l.length - i) (hKn : K < n) (e0 e1 : Addr) (he : ErrAt p w 0 e0) (he1 : ErrAt p w 5 e1) :
    Calls Tryd.prog 87 #[rdV p, .slice (some ⟨g, 0, none⟩) n c] w fun e w' => e = .returned (.tuple #[.int .i64 K, errV (if K = 0 then e0 else e1)]) ∧ Rdr w' p v l l.length ∧ Keep (fun k => k = p ∨ k = g) w w' := by
  have hle := hr.le
  rcases Nat.eq_zero_or_pos K with h0 | h0
  · subst h0
    have hi : i = l.length := by omega
    subst hi
    have HR := Lib.hid (rdAtLeast_end p n c g v l _ w hr hKn b1 rfl e0 he)
    have HR0 := Lib.hid hr
    clear hr hg hn he he1 hK hle
    go_enter Tryd.func87, Tryd.ntmps87
    go_wp2_with fail
    refine HR.out.mono ?_
    rintro e w1 ⟨rfl, hk⟩
    go_wp2
    go_ret2
    exact ⟨rfl, HR0.out.keep hk (fun _ h => h.elim), hk.mono fun _ _ h => h.elim⟩
  · have HR := Lib.hid (rdAtLeast_cut p n c g K v l i cur t w hr hpg hg hn hc b1 hK h0 hKn e0 e1 he he1)
    rw [if_neg (by omega)]
    clear hr hg hn he he1 hK hle
    go_enter Tryd.func87, Tryd.ntmps87
    go_wp2_with fail
    refine HR.out.mono ?_
    rintro e w1 ⟨rfl, h1, h2⟩
    go_wp2
    go_ret2
    exact ⟨rfl, h1, h2⟩

/-- bytes.NewReader: a new block. -/
theorem newReader (v : Value) (l : List UInt8) (w : World) (hv : BS w v l) (hL : l.length ≤ 9223372036854775807) :
    Calls Tryd.prog 49 #[v] w fun e w' => e = .returned (.pointer (some ⟨w.heap.size, 0, none⟩)) ∧ Rdr w' w.heap.size v l 0 ∧ w'.heap.size = w.heap.size + 1 ∧ Below w.heap.size w w' := by
  have hb : BSo (fun k => w.heap.size ≤ k) w v l := by
    refine ⟨hv, fun h0 A n c a e1 e2 => ?_⟩
    obtain ⟨A', c', e3, _, hcl⟩ := hv
    obtain ⟨b, o, e4, hcl⟩ := hcl h0
    have h1 := block_of_cell (hcl 0 h0)
    rw [e1] at e3
    injection e3 with e3
    rw [← e3, e2] at e4
    injection e4 with e4
    rw [e4]
    exact Nat.not_le.2 h1
  obtain ⟨A, c, rfl, _, hcl⟩ := hv
  have HB := Lib.hid hb
  clear hcl hb
  go_enter Tryd.func49, Tryd.ntmps49
  go_wp2
  go_ret
  have hbel : Below w.heap.size w (w.alloc (.cells #[.slice A l.length c, .int .i64 0, .int .i64 (-1)] 163)) := (Below.refl _ _).alloc (Nat.le_refl _) _
  exact ⟨rfl, ⟨⟨-1, heap_alloc_new _ _⟩, HB.out.keep (S := fun k => w.heap.size ≤ k) hbel.keep, Nat.zero_le _, hL⟩, by simp, hbel⟩
end Go.Proofs.YthfgnhgijgjggaaDoor
/- Contracts: (*bytes.Reader).ReadByte. -/
namespace Go.Proofs.YthfgnhgijgjggaaDoor
open Go.RowKit

set_option maxRecDepth 100000 in
set_option maxHeartbeats 1000000 in
/-- A byte that is there is read. -/
theorem rdByte_some (p : Nat) (v : Value) (l : List UInt8) (i : Nat) (w : World) (hr : Rdr w p v l i) (hi : i < l.length) :
    Calls Tryd.prog 142 #[.pointer (some ⟨p, 0, none⟩)] w fun e w' => e = .returned (.tuple #[.int .u8 (l[i].toNat), .nilIface]) ∧ Rdr w' p v l (i + 1) ∧ Keep (fun k => k = p) w w' := by
  obtain ⟨⟨r, hrow⟩, hbs, hle, hfits⟩ := hr
  have HB := Lib.hid hbs
  obtain ⟨⟨A0, c0, rfl, hc0, hcl⟩, hout⟩ := hbs
  obtain ⟨b, o, rfl, hcl2⟩ := hcl (by omega)
  have hbp : ¬ p ≤ b := hout (by omega) _ _ _ _ rfl rfl
  have f2 : w.frozen? ⟨p, 2, none⟩ = false := frozen_of_row' (cur := [_, _, _]) hrow 2
  have h2 : w.cell? ⟨p, 2, none⟩ = some (.int .i64 r) := by rw [cell_of_row' (cur := [_, _, _]) hrow]; rfl
  have hcell := hcl2 i hi
  have k1 : Keep (fun k => k = p) w (w.setCell ⟨p, 2, none⟩ (.int .i64 (-1))) := Keep.setCell (S := fun k => k = p) (Keep.refl _ w) (show p = p from rfl) _ _
  have hrow2 := Lib.heap_setCell_same (i := 2) (w := w) hrow (.int .i64 (-1))
  obtain ⟨B, hB⟩ : ∃ B, B = l[i].toNat := ⟨_, rfl⟩
  rw [← hB] at hcell ⊢
  obtain ⟨N, hN⟩ : ∃ N, N = l.length := ⟨_, rfl⟩
  have HN := Lib.hid hN
  rw [← hN] at hi hfits
  clear hB hN hcl hcl2 hout hle hc0 hrow
  go_enter Tryd.func142, Tryd.ntmps142
  go_wp2
  generalize w.setCell ⟨p, 2, none⟩ (.int .i64 (-1)) = w2 at k1 hrow2 ⊢
  have hrow3 : w2.heap[p]? = some (.cells #[.slice (some ⟨b, o, none⟩) l.length c0, .int .i64 i, .int .i64 (-1)] 163 (0, 0)) := hrow2
  rw [← HN.out] at hrow3
  have h0 : w2.cell? ⟨p, 0, none⟩ = some (.slice (some ⟨b, o, none⟩) N c0) := by rw [cell_of_row' (cur := [_, _, _]) hrow3]; rfl
  have h1 : w2.cell? ⟨p, 1, none⟩ = some (.int .i64 i) := by rw [cell_of_row' (cur := [_, _, _]) hrow3]; rfl
  have f1 : w2.frozen? ⟨p, 1, none⟩ = false := frozen_of_row' (cur := [_, _, _]) hrow3 1
  have hc2 : w2.cell? ⟨b, o + i, none⟩ = some (.int .u8 B) := k1.cell hcell (by show ¬ b = p; omega)
  have HROW := Lib.hid hrow3
  clear hrow2 hrow3 f2 h2 hcell
  go_quiet (fail)
  go_wp2
  go_quiet (fail)
  go_wp2
  go_ret2
  refine ⟨rfl, ⟨⟨-1, ?_⟩, ?_, ?_, ?_⟩, ?_⟩
  · have h := Lib.heap_setCell_same (i := 1) HROW.out (.int .i64 ((i : Int) + 1))
    rw [← HN.out]
    exact h
  · exact HB.out.keep (Keep.setCell (S := fun k => p ≤ k) ((k1.mono fun _ _ h => by omega).drewN _) (Nat.le_refl p) _ _)
  · rw [← HN.out]; omega
  · rw [← HN.out]; exact hfits
  · exact Keep.setCell (S := fun k => k = p) (k1.drewN _) (show p = p from rfl) _ _

set_option maxRecDepth 100000 in
set_option maxHeartbeats 1000000 in
/-- Behind the last byte the end is told. -/
theorem rdByte_end (p : Nat) (v : Value) (l : List UInt8) (i : Nat) (w : World) (hr : Rdr w p v l i) (hi : i = l.length) (e0 : Addr) (he : ErrAt p w 0 e0) :
    Calls Tryd.prog 142 #[.pointer (some ⟨p, 0, none⟩)] w fun e w' => e = .returned (.tuple #[.int .u8 0, errV e0]) ∧ Rdr w' p v l i ∧ Keep (fun k => k = p) w w' := by
  obtain ⟨⟨r, hrow⟩, hbs, hle, hfits⟩ := hr
  have HB := Lib.hid hbs
  obtain ⟨⟨A0, c0, rfl, hc0, hcl⟩, hout⟩ := hbs
  have f2 : w.frozen? ⟨p, 2, none⟩ = false := frozen_of_row' (cur := [_, _, _]) hrow 2
  have h2 : w.cell? ⟨p, 2, none⟩ = some (.int .i64 r) := by rw [cell_of_row' (cur := [_, _, _]) hrow]; rfl
  have k1 : Keep (fun k => k = p) w (w.setCell ⟨p, 2, none⟩ (.int .i64 (-1))) := Keep.setCell (S := fun k => k = p) (Keep.refl _ w) (show p = p from rfl) _ _
  have hrow2 := Lib.heap_setCell_same (i := 2) (w := w) hrow (.int .i64 (-1))
  have he2 := (he.keep k1 (fun k hk => by omega)).cell
  clear hcl hout hc0 hrow he
  go_enter Tryd.func142, Tryd.ntmps142
  go_wp2
  generalize w.setCell ⟨p, 2, none⟩ (.int .i64 (-1)) = w2 at k1 hrow2 he2 ⊢
  have hrow3 : w2.heap[p]? = some (.cells #[.slice A0 l.length c0, .int .i64 i, .int .i64 (-1)] 163 (0, 0)) := hrow2
  have h0 : w2.cell? ⟨p, 0, none⟩ = some (.slice A0 l.length c0) := by rw [cell_of_row' (cur := [_, _, _]) hrow3]; rfl
  have h1 : w2.cell? ⟨p, 1, none⟩ = some (.int .i64 i) := by rw [cell_of_row' (cur := [_, _, _]) hrow3]; rfl
  have HROW := Lib.hid hrow3
  clear hrow2 hrow3 f2 h2
  go_quiet (fail)
  go_wp2
  go_quiet (fail)
  go_wp2
  go_ret2
  exact ⟨rfl, ⟨⟨-1, HROW.out⟩, HB.out.keep (S := fun k => p ≤ k) (((k1.mono fun _ _ h => by omega).drewN _).drewN _), by omega, hfits⟩, (k1.drewN _).drewN _⟩
end Go.Proofs.YthfgnhgijgjggaaDoor
