/- Contracts, joined (SpC SeQ PfA PfB PfC SeR). -/
import Derived.Test.YthfgnhgijgjggaaDoorJSh2
import Derived.Test.YthfgnhgijgjggaaDoorJSh3
import Derived.Test.YthfgnhgijgjggaaDoorJSh4
import Derived.Test.YthfgnhgijgjggaaDoorJSh5
import Derived.Test.YthfgnhgijgjggaaDoorJSh8
import Derived.StillTailTactics
/- Contracts of package spec: ReadMultihash, ReadCid. -/
namespace Go.Proofs.YthfgnhgijgjggaaDoor
open Go.RowKit

section
variable {P : Program}
/-- 's[i:j]' of a string. -/
theorem run_str_mid {t : TypeId} (ht : P.underlying t = some .string) (s : ByteArray) (i j : Nat) (hij : i ≤ j) (hj : j ≤ s.size) (x y : Int) (hx : x = i) (hy : y = j) (W : World) :
    (Instr.slice t (.string s) (some (.int .i64 x)) (some (.int .i64 y)) none).run P W = .ok (.string ⟨((s.data.toList.drop i).take (j - i)).toArray⟩) W := by
  subst hx hy
  rw [run_slice_string (P := P) W t s .i64 .i64 (i : Int) (j : Int) ht (by omega) (by omega) (by omega)]
  simp only [Int.toNat_natCast]
  congr 2
  apply ByteArray.ext
  apply Array.toList_inj.1
  rw [Lib.extract_data]
end

theorem readVarint_ok (s : ByteArray) (w : World) (hm : s.size ≤ 9223372036854775807) (x m : Nat) (hd : uvDec s.data.toList = .ok x m) :
    Calls Tryd.prog 57 #[.string s] w fun e w' => e = .returned (.tuple #[.int .u64 x, .int .i64 m, .int .i64 0]) ∧ Below w.heap.size w w' :=
  (readVarint_any s w hm).mono fun e w' ⟨he, hw⟩ => ⟨by rw [he, hd]; rfl, hw ▸ Below.refl _ _⟩
theorem readVarint_no (s : ByteArray) (w : World) (hm : s.size ≤ 9223372036854775807) (hd : (uvDec s.data.toList).no) :
    Calls Tryd.prog 57 #[.string s] w fun e w' => (∃ k : Int, (k != 0) = true ∧ e = .returned (.tuple #[.int .u64 0, .int .i64 0, .int .i64 k])) ∧ Below w.heap.size w w' :=
  (readVarint_any s w hm).mono fun e w' ⟨he, hw⟩ => ⟨by
    cases h : uvDec s.data.toList with
    | ok => rw [h] at hd; exact hd.elim
    | over => exact ⟨2, rfl, by rw [he, h]; rfl⟩
    | notMin => exact ⟨3, rfl, by rw [he, h]; rfl⟩
    | under => exact ⟨1, rfl, by rw [he, h]; rfl⟩, hw ▸ Below.refl _ _⟩

theorem uvDec_nil : (uvDec []).no := trivial

theorem mhNone_cases {l : List UInt8} (h : mhRd l = none) (hl : l.length ≤ 2147483647) : (uvDec l).no ∨ ∃ x1 m1, uvDec l = .ok x1 m1 ∧ ((uvDec (l.drop m1)).no ∨ ∃ x2 m2, uvDec (l.drop m1) = .ok x2 m2 ∧ l.length - m1 - m2 < x2) := by
  rcases mhRd_none h with h2 | ⟨_, h | ⟨x1, m1, e1, h⟩⟩
  · rcases uvR_cases (uvDec l) with ⟨x, m, e⟩ | h
    · obtain ⟨g1, g2, _⟩ := uvDec_ok e
      refine .inr ⟨x, m, e, .inl ?_⟩
      rw [List.drop_eq_nil_of_le (by omega)]
      exact uvDec_nil
    · exact .inl h
  · exact .inl h
  · refine .inr ⟨x1, m1, e1, ?_⟩
    rcases h with h | ⟨x2, m2, e2, h⟩
    · exact .inl h
    · refine .inr ⟨x2, m2, e2, ?_⟩
      rw [List.length_drop, List.length_drop] at h
      omega

theorem ba_size_drop (s : ByteArray) (k : Nat) : (⟨(s.data.toList.drop k).toArray⟩ : ByteArray).size = s.size - k := by
  show (s.data.toList.drop k).toArray.size = _
  rw [List.size_toArray, List.length_drop, ba_len]

set_option maxRecDepth 100000 in
set_option maxHeartbeats 2000000 in
theorem readMh_ok (s : ByteArray) (w : World) (hm : s.size ≤ 2147483600) (r code : Nat) (d : List UInt8) (hd : mhRd s.data.toList = some (r, code, d)) :
    Calls Tryd.prog 90 #[.string s] w fun e w' => e = .returned (.tuple #[.int .u64 code, .string ⟨d.toArray⟩, .int .i64 r, .bool true]) ∧ Below w.heap.size w w' := by
  obtain ⟨h2, m1, x2, m2, e1, e2, hx, hx2, rfl, rfl⟩ := mhRd_some hd
  obtain ⟨g1, g2, g3, _, _⟩ := uvDec_ok e1
  obtain ⟨k1, k2, k3, _, _⟩ := uvDec_ok e2
  rw [List.length_drop] at k2
  rw [List.length_drop, List.length_drop] at hx2
  rw [ba_len] at g2 k2 hx2
  have C1 := fun W => Lib.hid (readVarint_ok s W (by omega) code m1 e1)
  have T1 := fun W => run_str_from (P := Tryd.prog) Tryd.underlying9 s m1 g2 m1 rfl W
  have C2 := fun W => Lib.hid (readVarint_ok ⟨(s.data.toList.drop m1).toArray⟩ W (by rw [ba_size_drop]; omega) x2 m2 e2)
  have T2 := fun W => run_str_mid (P := Tryd.prog) Tryd.underlying9 s (m1 + m2) (m1 + m2 + x2) (by omega) (by omega) ((m1 : Int) + m2) ((m1 : Int) + m2 + x2) (by omega) (by omega) W
  rw [← List.drop_drop, show m1 + m2 + x2 - (m1 + m2) = x2 by omega] at T2
  have HR := Lib.hid (show ((m1 : Int) + m2 + x2) = ((m1 + m2 + x2 : Nat) : Int) by omega)
  have i1 : (m1 : Int) + m2 ≤ s.size := by omega
  have i2 : (x2 : Int) ≤ (s.size : Int) - m1 - m2 := by omega
  have i3 : ¬ ((s.size : Int) - m1 - m2 < x2) := by omega
  have i4 : (m1 : Int) ≤ s.size := by omega
  generalize (⟨(s.data.toList.drop m1).toArray⟩ : ByteArray) = S1 at *
  generalize (⟨(((s.data.toList.drop m1).drop m2).take x2).toArray⟩ : ByteArray) = D at *
  clear hd e1 e2 g1 g2 g3 k1 k2 k3 h2 hx2
  go_enter Tryd.func90, Tryd.ntmps90
  go_wp2_with fail
  refine (C1 _).out.mono ?_
  rintro e w1 ⟨rfl, hb1⟩
  go_wp2_with fail
  refine (C2 _).out.mono ?_
  rintro e w2 ⟨rfl, hb2⟩
  have hb := below_next hb1 hb2
  go_wp2
  go_quiet (fail)
  go_wp2
  refine bodyPost_ret (v := .tuple #[.int .u64 code, .string D, .int .i64 ((m1 : Int) + m2 + x2), .bool true]) (by simp [results, Tryd.results90, go_sem]) rfl ⟨by rw [HR.out], hb.drewN _⟩

set_option maxRecDepth 100000 in
set_option maxHeartbeats 2000000 in
theorem readMh_no (s : ByteArray) (w : World) (hm : s.size ≤ 2147483600) (hd : mhRd s.data.toList = none) :
    Calls Tryd.prog 90 #[.string s] w fun e w' => e = .returned (.tuple #[.int .u64 0, .string ⟨#[]⟩, .int .i64 0, .bool false]) ∧ Below w.heap.size w w' := by
  rcases mhNone_cases hd (by rw [ba_len]; omega) with h | ⟨x1, m1, e1, h⟩
  · have C1 := fun W => Lib.hid (readVarint_no s W (by omega) h)
    clear hd h
    go_enter Tryd.func90, Tryd.ntmps90
    go_wp2_with fail
    refine (C1 _).out.mono ?_
    rintro e w1 ⟨⟨k, hk, rfl⟩, hb1⟩
    go_wp2
    refine bodyPost_ret (v := .tuple #[.int .u64 0, .string ⟨#[]⟩, .int .i64 0, .bool false]) (by simp [results, Tryd.results90, go_sem]) rfl ⟨rfl, hb1⟩
  · obtain ⟨g1, g2, g3, _, _⟩ := uvDec_ok e1
    rw [ba_len] at g2
    have C1 := fun W => Lib.hid (readVarint_ok s W (by omega) x1 m1 e1)
    have T1 := fun W => run_str_from (P := Tryd.prog) Tryd.underlying9 s m1 g2 m1 rfl W
    rcases h with h | ⟨x2, m2, e2, hx⟩
    · have C2 := fun W => Lib.hid (readVarint_no ⟨(s.data.toList.drop m1).toArray⟩ W (by rw [ba_size_drop]; omega) h)
      generalize (⟨(s.data.toList.drop m1).toArray⟩ : ByteArray) = S1 at *
      clear hd h e1 g1 g3
      go_enter Tryd.func90, Tryd.ntmps90
      go_wp2_with fail
      refine (C1 _).out.mono ?_
      rintro e w1 ⟨rfl, hb1⟩
      go_wp2_with fail
      refine (C2 _).out.mono ?_
      rintro e w2 ⟨⟨k, hk, rfl⟩, hb2⟩
      have hb := below_next hb1 hb2
      go_wp2
      refine bodyPost_ret (v := .tuple #[.int .u64 0, .string ⟨#[]⟩, .int .i64 0, .bool false]) (by simp [results, Tryd.results90, go_sem]) rfl ⟨rfl, hb⟩
    · obtain ⟨k1, k2, k3, _, _⟩ := uvDec_ok e2
      rw [List.length_drop, ba_len] at k2
      rw [ba_len] at hx
      have C2 := fun W => Lib.hid (readVarint_ok ⟨(s.data.toList.drop m1).toArray⟩ W (by rw [ba_size_drop]; omega) x2 m2 e2)
      have i1 : (m1 : Int) + m2 ≤ s.size := by omega
      have i2 : (s.size : Int) - m1 - m2 < x2 := by omega
      have i4 : (m1 : Int) ≤ s.size := by omega
      generalize (⟨(s.data.toList.drop m1).toArray⟩ : ByteArray) = S1 at *
      clear hd e1 e2 g1 g2 g3 k1 k2 k3 hx
      go_enter Tryd.func90, Tryd.ntmps90
      go_wp2_with fail
      refine (C1 _).out.mono ?_
      rintro e w1 ⟨rfl, hb1⟩
      go_wp2_with fail
      refine (C2 _).out.mono ?_
      rintro e w2 ⟨rfl, hb2⟩
      have hb := below_next hb1 hb2
      go_wp2
      refine bodyPost_ret (v := .tuple #[.int .u64 0, .string ⟨#[]⟩, .int .i64 0, .bool false]) (by simp [results, Tryd.results90, go_sem]) rfl ⟨rfl, hb⟩

/-- What the first bytes of a string say: no version 0. -/
def FstS (s : ByteArray) : Prop := (s.size ≤ 2) ∨ (2 < s.size ∧ ∃ x y : Int, (∀ W, (Instr.index 9 (.string s) (.int .i64 0)).run Tryd.prog W = .ok (.int .u8 x) W) ∧ (∀ W, (Instr.index 9 (.string s) (.int .i64 1)).run Tryd.prog W = .ok (.int .u8 y) W) ∧ ((x == 18) = false ∨ ((x == 18) = true ∧ (y == 32) = false)))
theorem fstS_of {s : ByteArray} (hz : ¬ cidZero s.data.toList) : FstS s := by
  rcases not_zero_cases hz with h | ⟨h2, a, b, ha, hb, h⟩
  · rw [ba_len] at h; exact .inl h
  · rw [ba_len] at h2
    exact .inr ⟨h2, a.toNat, b.toNat, fun W => idx_ba (P := Tryd.prog) Tryd.underlying9 s 0 a ha 0 rfl W, fun W => idx_ba (P := Tryd.prog) Tryd.underlying9 s 1 b hb 1 rfl W, h⟩

/-- What spec.ReadCid answers. -/
def rdSpec : Option (CidD × Nat) → Value
  | some (x, n) => .tuple #[cidVal x, .int .i64 n, .bool true]
  | none => .tuple #[noCid, .int .i64 0, .bool false]

theorem out4 (w : World) : OutVar (w.alloc outZ) w.heap.size := ⟨heap_alloc_new w outZ⟩

set_option maxRecDepth 100000 in
set_option maxHeartbeats 2000000 in
theorem readCid_zero (s : ByteArray) (w : World) (hm : s.size ≤ 2147483600) (hz : cidZero s.data.toList) :
    Calls Tryd.prog 62 #[.string s] w fun e w' => e = .returned (rdSpec (cidRd s.data.toList)) ∧ Below w.heap.size w w' := by
  have hA : Below w.heap.size w (w.alloc outZ) := (Below.refl _ _).alloc (Nat.le_refl _) _
  have hO := out4 w
  have h2 := hz.1
  rw [ba_len] at h2
  have i0 := fun W => idx_ba (P := Tryd.prog) Tryd.underlying9 s 0 18 hz.2.1 0 rfl W
  have i1 := fun W => idx_ba (P := Tryd.prog) Tryd.underlying9 s 1 32 hz.2.2 1 rfl W
  obtain ⟨⟨k0, k1, k2, k3⟩, f0, f1, f2, f3⟩ := hO.cells
  by_cases h34 : s.size < 34
  · have HR := Lib.hid (show cidRd s.data.toList = none by unfold cidRd; rw [if_pos hz, if_pos (by rw [ba_len]; exact h34)])
    clear hz
    go_enter Tryd.func62, Tryd.ntmps62
    go_wp2
    refine bodyPost_ret (results_row_tmp2 rfl _ _ (w.heap.size) 26 #[.int .u64 0, .int .u64 0, .int .u64 0, .string ⟨#[]⟩] (0, 0) _ rfl (heap_alloc_new _ _) Tryd.underlying26 rfl (by kernel_rfl)) rfl ?_
    exact ⟨by rw [HR.out]; rfl, (Below.refl _ _).alloc (Nat.le_refl _) _⟩
  · have T := fun W => run_str_mid (P := Tryd.prog) Tryd.underlying9 s 2 34 (by omega) (by omega) 2 34 rfl rfl W
    obtain ⟨D, hD⟩ : ∃ D : ByteArray, D = ⟨((s.data.toList.drop 2).take 32).toArray⟩ := ⟨_, rfl⟩
    have HR := Lib.hid (show cidRd s.data.toList = some (⟨0, 112, 18, (s.data.toList.drop 2).take 32⟩, 34) by unfold cidRd; rw [if_pos hz, if_neg (by rw [ba_len]; exact h34)])
    rw [show 34 - 2 = 32 from rfl, ← hD] at T
    have HD := Lib.hid hD
    clear hz hD
    go_enter Tryd.func62, Tryd.ntmps62
    go_wp2
    refine bodyPost_ret (results_row_tmp2 rfl _ _ (w.heap.size) 26 #[.int .u64 0, .int .u64 112, .int .u64 18, .string D] (0, 0) _ rfl (heap_alloc_new _ _) Tryd.underlying26 rfl (by kernel_rfl)) rfl ?_
    exact ⟨by rw [HR.out, HD.out]; rfl, (Below.refl _ _).alloc (Nat.le_refl _) _⟩
set_option maxRecDepth 100000 in
set_option maxHeartbeats 4000000 in
theorem readCid_none (s : ByteArray) (w : World) (hm : s.size ≤ 2147483600) (hz : ¬ cidZero s.data.toList) (hd : cidRd s.data.toList = none) :
    Calls Tryd.prog 62 #[.string s] w fun e w' => e = .returned (rdSpec (cidRd s.data.toList)) ∧ Below w.heap.size w w' := by
  have b0 : Below w.heap.size w (w.alloc outZ) := (Below.refl _ _).alloc (Nat.le_refl _) _
  have O0 := out4 w
  have hF := fstS_of hz
  have HR := Lib.hid hd
  rcases cidRd_none hd with ⟨h, _⟩ | ⟨_, h | ⟨v, k, e1, hv⟩ | ⟨e1, h | ⟨codec, m, e2, e3⟩⟩⟩
  · exact absurd h hz
  · have C1 := fun W => Lib.hid (readVarint_no s W (by omega) h)
    clear hd hz h
    rcases hF with hn2 | ⟨hn2, x0, x1, i0, i1, h18 | ⟨h18, h32⟩⟩
    all_goals
      go_enter Tryd.func62, Tryd.ntmps62
      go_wp2_with fail
      refine (C1 _).out.mono ?_
      rintro e w1 ⟨⟨kk, hk, rfl⟩, hb⟩
      have b1 := below_next b0 hb
      have O1 := O0.below hb
      clear hb
      have bb := b1
      obtain ⟨⟨k0, k1, k2, k3⟩, f0, f1, f2, f3⟩ := O1.cells
      have HO := Lib.hid O1.row
      clear O1
      go_wp2
      refine bodyPost_ret (results_row_tmp2 rfl _ _ (w.heap.size) 26 #[.int .u64 0, .int .u64 0, .int .u64 0, .string ⟨#[]⟩] (0, 0) _ rfl (set4 HO.out _ _ _ _) Tryd.underlying26 rfl (by kernel_rfl)) rfl ?_
      exact ⟨by rw [HR.out]; rfl, below_set4 bb (Nat.le_refl _) _ _ _ _⟩
  · have C1 := fun W => Lib.hid (readVarint_ok s W (by omega) v k e1)
    have hv1 : ((v : Int) != 1) = true := by rw [bne_iff_ne]; omega
    clear hd hz e1 hv
    generalize (v : Int) = vi at *
    rcases hF with hn2 | ⟨hn2, x0, x1, i0, i1, h18 | ⟨h18, h32⟩⟩
    all_goals
      go_enter Tryd.func62, Tryd.ntmps62
      go_wp2_with fail
      refine (C1 _).out.mono ?_
      rintro e w1 ⟨rfl, hb⟩
      have b1 := below_next b0 hb
      have O1 := O0.below hb
      clear hb
      have bb := b1
      obtain ⟨⟨k0, k1, k2, k3⟩, f0, f1, f2, f3⟩ := O1.cells
      have HO := Lib.hid O1.row
      clear O1
      go_wp2
      refine bodyPost_ret (results_row_tmp2 rfl _ _ (w.heap.size) 26 #[.int .u64 0, .int .u64 0, .int .u64 0, .string ⟨#[]⟩] (0, 0) _ rfl (set4 HO.out _ _ _ _) Tryd.underlying26 rfl (by kernel_rfl)) rfl ?_
      exact ⟨by rw [HR.out]; rfl, below_set4 bb (Nat.le_refl _) _ _ _ _⟩
  · have C1 := fun W => Lib.hid (readVarint_ok s W (by omega) 1 1 e1)
    rw [show ((1 : Nat) : Int) = 1 from rfl] at C1
    have g2 := (uvDec_ok e1).2.1
    rw [ba_len] at g2
    have T1 := fun W => run_str_from (P := Tryd.prog) Tryd.underlying9 s 1 g2 1 rfl W
    have C2 := fun W => Lib.hid (readVarint_no ⟨(s.data.toList.drop 1).toArray⟩ W (by rw [ba_size_drop]; omega) h)
    generalize (⟨(s.data.toList.drop 1).toArray⟩ : ByteArray) = S1 at *
    clear hd hz e1 h
    rcases hF with hn2 | ⟨hn2, x0, x1, i0, i1, h18 | ⟨h18, h32⟩⟩
    all_goals
      go_enter Tryd.func62, Tryd.ntmps62
      go_wp2_with fail
      refine (C1 _).out.mono ?_
      rintro e w1 ⟨rfl, hb⟩
      have b1 := below_next b0 hb
      have O1 := O0.below hb
      clear hb
      go_wp2_with fail
      refine (C2 _).out.mono ?_
      rintro e w2 ⟨⟨kk, hk, rfl⟩, hb⟩
      have b2 := below_next b1 hb
      have O2 := O1.below hb
      clear hb
      have bb := b2
      obtain ⟨⟨k0, k1, k2, k3⟩, f0, f1, f2, f3⟩ := O2.cells
      have HO := Lib.hid O2.row
      clear O2
      go_wp2
      refine bodyPost_ret (results_row_tmp2 rfl _ _ (w.heap.size) 26 #[.int .u64 0, .int .u64 0, .int .u64 0, .string ⟨#[]⟩] (0, 0) _ rfl (set4 HO.out _ _ _ _) Tryd.underlying26 rfl (by kernel_rfl)) rfl ?_
      exact ⟨by rw [HR.out]; rfl, below_set4 bb (Nat.le_refl _) _ _ _ _⟩
  · have C1 := fun W => Lib.hid (readVarint_ok s W (by omega) 1 1 e1)
    rw [show ((1 : Nat) : Int) = 1 from rfl] at C1
    have g2 := (uvDec_ok e1).2.1
    rw [ba_len] at g2
    have g3 := (uvDec_ok e2).2.1
    rw [List.length_drop, ba_len] at g3
    have T1 := fun W => run_str_from (P := Tryd.prog) Tryd.underlying9 s 1 g2 1 rfl W
    have T2 := fun W => run_str_from (P := Tryd.prog) Tryd.underlying9 s (1 + m) (by omega) (1 + (m : Int)) (by omega) W
    have C2 := fun W => Lib.hid (readVarint_ok ⟨(s.data.toList.drop 1).toArray⟩ W (by rw [ba_size_drop]; omega) codec m e2)
    have C3 := fun W => Lib.hid (readMh_no ⟨(s.data.toList.drop (1 + m)).toArray⟩ W (by rw [ba_size_drop]; omega) (by show mhRd (s.data.toList.drop (1 + m)) = none; rw [← List.drop_drop]; exact e3))
    have i4 : (m : Int) ≤ s.size := by omega
    generalize (⟨(s.data.toList.drop 1).toArray⟩ : ByteArray) = S1 at *
    generalize (⟨(s.data.toList.drop (1 + m)).toArray⟩ : ByteArray) = S2 at *
    clear hd hz e1 e2 e3
    rcases hF with hn2 | ⟨hn2, x0, x1, i0, i1, h18 | ⟨h18, h32⟩⟩
    all_goals
      go_enter Tryd.func62, Tryd.ntmps62
      go_wp2_with fail
      refine (C1 _).out.mono ?_
      rintro e w1 ⟨rfl, hb⟩
      have b1 := below_next b0 hb
      have O1 := O0.below hb
      clear hb
      go_wp2_with fail
      refine (C2 _).out.mono ?_
      rintro e w2 ⟨rfl, hb⟩
      have b2 := below_next b1 hb
      have O2 := O1.below hb
      clear hb
      go_wp2_with fail
      refine (C3 _).out.mono ?_
      rintro e w3 ⟨rfl, hb⟩
      have b3 := below_next b2 hb
      have O3 := O2.below hb
      clear hb
      have bb := b3
      obtain ⟨⟨k0, k1, k2, k3⟩, f0, f1, f2, f3⟩ := O3.cells
      have HO := Lib.hid O3.row
      clear O3
      go_wp2
      refine bodyPost_ret (results_row_tmp2 rfl _ _ (w.heap.size) 26 #[.int .u64 0, .int .u64 0, .int .u64 0, .string ⟨#[]⟩] (0, 0) _ rfl (set4 HO.out _ _ _ _) Tryd.underlying26 rfl (by kernel_rfl)) rfl ?_
      exact ⟨by rw [HR.out]; rfl, below_set4 bb (Nat.le_refl _) _ _ _ _⟩

set_option maxRecDepth 100000 in
set_option maxHeartbeats 4000000 in
theorem readCid_one (s : ByteArray) (w : World) (hm : s.size ≤ 2147483600) (hz : ¬ cidZero s.data.toList) (x : CidD) (k : Nat) (hd : cidRd s.data.toList = some (x, k)) :
    Calls Tryd.prog 62 #[.string s] w fun e w' => e = .returned (rdSpec (cidRd s.data.toList)) ∧ Below w.heap.size w w' := by
  have b0 : Below w.heap.size w (w.alloc outZ) := (Below.refl _ _).alloc (Nat.le_refl _) _
  have O0 := out4 w
  have hF := fstS_of hz
  have hkl := (cidRd_dig hd).2
  rw [ba_len] at hkl
  rcases cidRd_some hd with ⟨h, _⟩ | ⟨_, e1, m, r, e2, e3, hk, hv⟩
  · exact absurd h hz
  · have C1 := fun W => Lib.hid (readVarint_ok s W (by omega) 1 1 e1)
    rw [show ((1 : Nat) : Int) = 1 from rfl] at C1
    have g2 := (uvDec_ok e1).2.1
    rw [ba_len] at g2
    have g3 := (uvDec_ok e2).2.1
    rw [List.length_drop, ba_len] at g3
    have T1 := fun W => run_str_from (P := Tryd.prog) Tryd.underlying9 s 1 g2 1 rfl W
    have T2 := fun W => run_str_from (P := Tryd.prog) Tryd.underlying9 s (1 + m) (by omega) (1 + (m : Int)) (by omega) W
    have C2 := fun W => Lib.hid (readVarint_ok ⟨(s.data.toList.drop 1).toArray⟩ W (by rw [ba_size_drop]; omega) x.codec m e2)
    have C3 := fun W => Lib.hid (readMh_ok ⟨(s.data.toList.drop (1 + m)).toArray⟩ W (by rw [ba_size_drop]; omega) r x.code x.dig (by show mhRd (s.data.toList.drop (1 + m)) = _; rw [← List.drop_drop]; exact e3))
    have i4 : (m : Int) ≤ s.size := by omega
    have i5 : (r : Int) ≤ s.size := by omega
    have HK := Lib.hid (show (1 + (m : Int) + r) = (k : Int) by omega)
    have HR : Hid (rdSpec (cidRd s.data.toList) = .tuple #[.agg #[.int .u64 1, .int .u64 x.codec, .int .u64 x.code, .string ⟨x.dig.toArray⟩], .int .i64 k, .bool true]) := Lib.hid (by rw [hd]; show Value.tuple #[cidVal x, .int .i64 k, .bool true] = _; unfold cidVal; rw [hv]; rfl)
    generalize (⟨(s.data.toList.drop 1).toArray⟩ : ByteArray) = S1 at *
    generalize (⟨(s.data.toList.drop (1 + m)).toArray⟩ : ByteArray) = S2 at *
    generalize (⟨x.dig.toArray⟩ : ByteArray) = D at *
    rw [HR.out]
    clear hd hz e1 e2 e3 hk hv HR hkl
    generalize (x.codec : Int) = v1 at *
    generalize (x.code : Int) = v2 at *
    rcases hF with hn2 | ⟨hn2, x0, x1, i0, i1, h18 | ⟨h18, h32⟩⟩
    all_goals
      go_enter Tryd.func62, Tryd.ntmps62
      go_wp2_with fail
      refine (C1 _).out.mono ?_
      rintro e w1 ⟨rfl, hb⟩
      have b1 := below_next b0 hb
      have O1 := O0.below hb
      clear hb
      go_wp2_with fail
      refine (C2 _).out.mono ?_
      rintro e w2 ⟨rfl, hb⟩
      have b2 := below_next b1 hb
      have O2 := O1.below hb
      clear hb
      go_wp2_with fail
      refine (C3 _).out.mono ?_
      rintro e w3 ⟨rfl, hb⟩
      have b3 := below_next b2 hb
      have O3 := O2.below hb
      clear hb
      have bb := b3
      obtain ⟨⟨k0, k1, k2, k3⟩, f0, f1, f2, f3⟩ := O3.cells
      have HO := Lib.hid O3.row
      clear O3
      go_wp2
      refine bodyPost_ret (results_row_tmp2 rfl _ _ (w.heap.size) 26 #[.int .u64 1, .int .u64 v1, .int .u64 v2, .string D] (0, 0) _ rfl (set4 HO.out _ _ _ _) Tryd.underlying26 rfl (by kernel_rfl)) rfl ?_
      exact ⟨by rw [← HK.out]; rfl, below_set4 bb (Nat.le_refl _) _ _ _ _⟩

theorem readCid_any (s : ByteArray) (w : World) (hm : s.size ≤ 2147483600) :
    Calls Tryd.prog 62 #[.string s] w fun e w' => e = .returned (rdSpec (cidRd s.data.toList)) ∧ Below w.heap.size w w' := by
  by_cases hz : cidZero s.data.toList
  · exact readCid_zero s w hm hz
  · cases hd : cidRd s.data.toList with
    | none => rw [← hd]; exact readCid_none s w hm hz hd
    | some y => obtain ⟨x, k⟩ := y; rw [← hd]; exact readCid_one s w hm hz x k hd
end Go.Proofs.YthfgnhgijgjggaaDoor
/- Contract: impl.SeHead. -/
namespace Go.Proofs.YthfgnhgijgjggaaDoor
open Go.RowKit

set_option maxRecDepth 100000 in
set_option maxHeartbeats 8000000 in
theorem seHead_bad (k : Nat) (s : ByteArray) (hs : s.size ≤ 2147483647) (z : Bool) (most : Nat) (w : World)
    (HN : ∀ p v w2, Rdr w2 p v s.data.toList 0 → w.heap.size < p → Below w.heap.size w w2 → Calls Tryd.prog 59 #[rdV p, .bool z, .int .u64 most] w2 (NodeBad k p v s.data.toList w2)) :
    Calls Tryd.prog 32 #[.string s, .bool z, .int .u64 most] w fun e w' => (∃ n : Int, e = .returned (.tuple #[noCid, .int .u64 0, .int .i64 n, .int .u8 k])) ∧ Below w.heap.size w w' := by
  obtain ⟨A, c, w1, hconv, hb1, hbs⟩ := conv_in' (w.alloc outZ) s
  have hA : Below w.heap.size w (w.alloc outZ) := (Below.refl _ _).alloc (Nat.le_refl _) _
  have hl : s.data.toList.length = s.size := by rw [Array.length_toList]; rfl
  obtain ⟨l, hll⟩ : ∃ l, l = s.data.toList := ⟨_, rfl⟩
  rw [← hll] at hbs hl HN
  have HNR := Lib.hid (newReader (.slice A s.size c) l w1 hbs (by omega))
  have hp : w.heap.size + 1 ≤ w1.heap.size := by have := hb1.size; simp at this; omega
  have hr0 := row_below hb1 (block_of_row (heap_alloc_new w outZ)) (heap_alloc_new w outZ)
  have HB1 := Lib.hid (below_next hA hb1)
  have HNN := Lib.hid HN
  clear hbs hl hll hb1 hA HN
  go_enter Tryd.func32, Tryd.ntmps32
  go_wp2_with fail
  refine HNR.out.mono ?_
  rintro e w2 ⟨rfl, hr, hs2, hb2⟩
  have b2 : Below w.heap.size w w2 := below_next HB1.out hb2
  have HC := Lib.hid (HNN.out _ _ w2 hr (by omega) b2)
  have hr2 := row_below hb2 (block_of_row hr0) hr0
  have B2 := Lib.hid b2
  clear hr hb2 HNR HNN b2 hr0
  generalize w1.heap.size = p at *
  go_wp2_with fail
  refine HC.out.mono ?_
  rintro e w3 ⟨us, _, rfl, ⟨⟨t, y, rfl⟩, hK⟩, ⟨j, hj⟩, hk3⟩
  have b3 : Below w.heap.size w w3 := B2.out.trans (hk3.below (fun k hk e => by omega) B2.out.size)
  have hr3 := hk3.row hr2 (fun h => by omega)
  have hbA : Below w3.heap.size w3 (w3.alloc (.cells #[.string us] 80)) := (Below.refl _ _).alloc (Nat.le_refl _) _
  obtain ⟨W3, hW3⟩ : ∃ W3, W3 = w3.alloc (.cells #[.string us] 80) := ⟨_, rfl⟩
  rw [← hW3] at hbA
  have hr4 := row_below hbA (block_of_row hr3) hr3
  have HLen := Lib.hid (rdLen p _ l j W3 (hj.keep (S := fun _ => False) hbA.keep (fun _ h => h.elim)))
  have B3 := Lib.hid (below_next b3 hbA)
  have HK := Lib.hid (fun W (hW : Below W3.heap.size W3 W) => hK W (hbA.keep.trans hW.keep))
  have HR4 := Lib.hid hr4
  rw [hW3] at HLen B3 HK HR4
  clear hW3 hr4 hr3 hbA b3 hk3 hj hK hr2 HC
  generalize l.length = N at *
  go_wp2_with fail
  refine HLen.out.mono ?_
  rintro e w4 ⟨rfl, hk4⟩
  have hb4 := hk4.below'
  have HB4 := Lib.hid (below_next B3.out hb4)
  have hr5 := row_below hb4 (block_of_row HR4.out) HR4.out
  have hO : OutVar w4 w.heap.size := ⟨hr5⟩
  obtain ⟨⟨k0, k1, k2, k3⟩, f0, f1, f2, f3⟩ := hO.cells
  have HK4 := HK.out w4 hb4
  have p4 := Lib.hid (set4 hr5 (.int .u64 0) (.int .u64 0) (.int .u64 0) (.string ⟨#[]⟩))
  have HF := Lib.hid (below_set4 HB4.out (Nat.le_refl _) (.int .u64 0) (.int .u64 0) (.int .u64 0) (.string ⟨#[]⟩))
  have HKK := Lib.hid HK4
  clear hk4 hb4 hO HK4 HK hr5 HLen
  go_wp2_with fail
  refine HKK.out.mono ?_
  rintro e w5 ⟨rfl, rfl⟩
  go_wp2
  refine bodyPost_ret (results_row_tmp3 rfl _ _ (w.heap.size) 26 #[.int .u64 0, .int .u64 0, .int .u64 0, .string ⟨#[]⟩] (0, 0) _ rfl p4.out Tryd.underlying26 rfl (by kernel_rfl)) rfl ?_
  exact ⟨⟨_, rfl⟩, HF.out⟩

set_option maxRecDepth 100000 in
set_option maxHeartbeats 8000000 in
theorem seHead_ok (s : ByteArray) (hs : s.size ≤ 2147483647) (z : Bool) (most : Nat) (w : World) (us : ByteArray) (x : CidD) (hx : CidStr us x) (X : Int) (J : Nat) (hu : CdS w) (hJ : J ≤ s.size)
    (HN : ∀ p v w2, Rdr w2 p v s.data.toList 0 → w.heap.size < p → Below w.heap.size w w2 → Calls Tryd.prog 59 #[rdV p, .bool z, .int .u64 most] w2 fun e w' => e = .returned (.tuple #[.agg #[.string us], .int .u64 X, .nilIface]) ∧ Rdr w' p v s.data.toList J ∧ Keep (fun k => k = p) w2 w') :
    Calls Tryd.prog 32 #[.string s, .bool z, .int .u64 most] w fun e w' => e = .returned (.tuple #[.agg #[.int .u64 x.ver, .int .u64 x.codec, .int .u64 x.code, .string ⟨x.dig.toArray⟩], .int .u64 X, .int .i64 J, .int .u8 0]) ∧ Below w.heap.size w w' := by
  obtain ⟨A, c, w1, hconv, hb1, hbs⟩ := conv_in' (w.alloc outZ) s
  have hA : Below w.heap.size w (w.alloc outZ) := (Below.refl _ _).alloc (Nat.le_refl _) _
  have hl : s.data.toList.length = s.size := by rw [Array.length_toList]; rfl
  obtain ⟨l, hll⟩ : ∃ l, l = s.data.toList := ⟨_, rfl⟩
  rw [← hll] at hbs hl HN
  have HNR := Lib.hid (newReader (.slice A s.size c) l w1 hbs (by omega))
  have hp : w.heap.size + 1 ≤ w1.heap.size := by have := hb1.size; simp at this; omega
  have hr0 := row_below hb1 (block_of_row (heap_alloc_new w outZ)) (heap_alloc_new w outZ)
  have HB1 := Lib.hid (below_next hA hb1)
  have HNN := Lib.hid HN
  have HU := Lib.hid hu
  have HX := Lib.hid hx
  have HL := Lib.hid hl
  clear hbs hl hll hb1 hA HN hu hx
  go_enter Tryd.func32, Tryd.ntmps32
  go_wp2_with fail
  refine HNR.out.mono ?_
  rintro e w2 ⟨rfl, hr, hs2, hb2⟩
  have b2 : Below w.heap.size w w2 := below_next HB1.out hb2
  have HC := Lib.hid (HNN.out _ _ w2 hr (by omega) b2)
  have hr2 := row_below hb2 (block_of_row hr0) hr0
  have B2 := Lib.hid b2
  clear hr hb2 HNR HNN b2 hr0
  generalize w1.heap.size = p at *
  go_wp2_with fail
  refine HC.out.mono ?_
  rintro e w3 ⟨rfl, hj, hk3⟩
  have b3 : Below w.heap.size w w3 := B2.out.trans (hk3.below (fun k hk e => by omega) B2.out.size)
  have hr3 := hk3.row hr2 (fun h => by omega)
  have hbA : Below w3.heap.size w3 (w3.alloc (.cells #[.string us] 80)) := (Below.refl _ _).alloc (Nat.le_refl _) _
  obtain ⟨W3, hW3⟩ : ∃ W3, W3 = w3.alloc (.cells #[.string us] 80) := ⟨_, rfl⟩
  rw [← hW3] at hbA
  have hr4 := row_below hbA (block_of_row hr3) hr3
  have hB3 := below_next b3 hbA
  have c0 : W3.cell? ⟨w3.heap.size, 0, none⟩ = some (.string us) := by rw [hW3]; exact cell_of_row' (cur := [_]) (heap_alloc_new w3 _) 0
  have HOut := Lib.hid (cidOut_ok us x HX.out W3 (HU.out.below hB3).toUvS)
  have HJ := Lib.hid (hj.keep (S := fun _ => False) hbA.keep (fun _ h => h.elim))
  have B3 := Lib.hid hB3
  have HR4 := Lib.hid hr4
  have HW3 := Lib.hid hW3
  rw [hW3] at HOut c0
  clear hW3 hr4 hr3 hbA b3 hk3 hj hr2 HC hB3
  go_wp2_with fail
  refine HOut.out.mono ?_
  rw [← HW3.out]
  rintro e w4 ⟨rfl, hb4⟩
  have HLen := Lib.hid (rdLen p _ l J w4 (HJ.out.below hb4))
  rw [HL.out] at HLen
  have HB4 := Lib.hid (below_next B3.out hb4)
  have HR5 := Lib.hid (row_below hb4 (block_of_row HR4.out) HR4.out)
  clear hb4 HOut HJ HR4 c0
  obtain ⟨v0, hv0⟩ : ∃ v0 : Int, v0 = x.ver := ⟨_, rfl⟩
  obtain ⟨v1, hv1⟩ : ∃ v1 : Int, v1 = x.codec := ⟨_, rfl⟩
  obtain ⟨v2, hv2⟩ : ∃ v2 : Int, v2 = x.code := ⟨_, rfl⟩
  obtain ⟨v3, hv3⟩ : ∃ v3 : ByteArray, v3 = ⟨x.dig.toArray⟩ := ⟨_, rfl⟩
  rw [← hv0, ← hv1, ← hv2, ← hv3]
  have HV0 := Lib.hid hv0
  have HV1 := Lib.hid hv1
  have HV2 := Lib.hid hv2
  have HV3 := Lib.hid hv3
  clear hv0 hv1 hv2 hv3
  go_wp2_with fail
  refine HLen.out.mono ?_
  rintro e w5 ⟨rfl, hk5⟩
  have hb5 := hk5.below'
  have hr6 := row_below hb5 (block_of_row HR5.out) HR5.out
  have hO : OutVar w5 w.heap.size := ⟨hr6⟩
  obtain ⟨⟨k0, k1, k2, k3⟩, f0, f1, f2, f3⟩ := hO.cells
  have p4 := Lib.hid (set4 hr6 (.int .u64 v0) (.int .u64 v1) (.int .u64 v2) (.string v3))
  have HF := Lib.hid (below_set4 (below_next HB4.out hb5) (Nat.le_refl _) (.int .u64 v0) (.int .u64 v1) (.int .u64 v2) (.string v3))
  clear hk5 hb5 hO hr6 HLen
  go_wp2
  refine bodyPost_ret (results_row_tmp3 rfl _ _ (w.heap.size) 26 #[.int .u64 v0, .int .u64 v1, .int .u64 v2, .string v3] (0, 0) _ rfl p4.out Tryd.underlying26 rfl (by kernel_rfl)) rfl ?_
  exact ⟨by show Ending.returned (.tuple #[.agg #[.int .u64 v0, .int .u64 v1, .int .u64 v2, .string v3], .int .u64 X, .int .i64 ((s.size : Int) - ((s.size : Int) - (J : Int))), .int .u8 0]) = _; rw [show (s.size : Int) - ((s.size : Int) - (J : Int)) = J by omega, HV0.out, HV1.out, HV2.out, HV3.out], HF.out⟩
end Go.Proofs.YthfgnhgijgjggaaDoor
/- Contracts: (cid.Prefix).Bytes. -/
namespace Go.Proofs.YthfgnhgijgjggaaDoor
open Go.RowKit

theorem splice_next (z : Value) (a b : List Value) (r : Nat) : splice (a ++ List.replicate r z) a.length b = (a ++ b) ++ List.replicate (r - b.length) z := by
  simp [splice]

theorem putUvR_any (g n c x r o : Nat) (done : List UInt8) (t : TypeId) (w : World) (hx : x < 18446744073709551616) (ho : o = done.length)
    (hrow : w.heap[g]? = some (.cells (Lib.byteCells done ++ List.replicate r (Value.int .u8 0)).toArray t (0, 0)))
    (hfit : (Lib.uvarint x).length ≤ r) (hn : (Lib.uvarint x).length ≤ n) :
    Calls Tryd.prog 82 #[.slice (some ⟨g, o, none⟩) n c, .int .u64 x] w fun e w' =>
      e = .returned (.int .i64 (Lib.uvarint x).length) ∧ Hid (w'.heap[g]? = some (.cells (Lib.byteCells (done ++ Lib.uvarint x) ++ List.replicate (r - (Lib.uvarint x).length) (Value.int .u8 0)).toArray t (0, 0))) ∧ Turn g w w' := by
  refine (putUvW_any g o n c x _ t w hx hrow (by rw [List.length_append, List.length_replicate, Lib.byteCells_length, ho]; omega) hn).mono ?_
  rintro e w' ⟨rfl, h1, h2⟩
  refine ⟨rfl, Lib.hid ?_, h2⟩
  rw [h1.out, ho, ← Lib.byteCells_length done, splice_next, ← Lib.byteCells_append, Lib.byteCells_length]

/-- The bytes of a prefix. -/
def pfEnc (a b c d : Nat) : List UInt8 := Lib.uvarint a ++ (Lib.uvarint b ++ (Lib.uvarint c ++ Lib.uvarint d))

set_option maxRecDepth 100000 in
set_option maxHeartbeats 4000000 in
theorem pfBytes (a b c d : Nat) (ha : a < 18446744073709551616) (hb : b < 18446744073709551616) (hc : c < 18446744073709551616) (hd : d < 9223372036854775808) (w : World) :
    Calls Tryd.prog 45 #[.agg #[.int .u64 a, .int .u64 b, .int .u64 c, .int .i64 d]] w fun e w' => HasBytes (pfEnc a b c d) e w' ∧ Below w.heap.size w w' := by
  have hA : Below w.heap.size w (w.alloc (.cells #[.int .u64 a, .int .u64 b, .int .u64 c, .int .i64 d] 91)) := (Below.refl _ _).alloc (Nat.le_refl _) _
  have R0 := heap_alloc_new w (.cells #[.int .u64 a, .int .u64 b, .int .u64 c, .int .i64 d] 91)
  have hg0 : (w.alloc (.cells #[.int .u64 a, .int .u64 b, .int .u64 c, .int .i64 d] 91)).heap.size = w.heap.size + 1 := by simp
  have la := Lib.uvarint_length64 ha
  have lb := Lib.uvarint_length64 hb
  have lc := Lib.uvarint_length64 hc
  have ld := Lib.uvarint_length64 (x := d) (by omega)
  have pa := Lib.uvarint_pos a
  have pb := Lib.uvarint_pos b
  have pc := Lib.uvarint_pos c
  have pd := Lib.uvarint_pos d
  have hw64 : (d : Int) % 18446744073709551616 = d := by omega
  have S1 := fun W => Lib.hid (uvSize_any a W ha)
  have S2 := fun W => Lib.hid (uvSize_any b W hb)
  have S3 := fun W => Lib.hid (uvSize_any c W hc)
  have S4 := fun W => Lib.hid (uvSize_any d W (by omega))
  have P1 := fun g n k r o done W h1 h2 h3 h4 => Lib.hid (putUvR_any g n k a r o done 5 W ha h1 h2 h3 h4)
  have P2 := fun g n k r o done W h1 h2 h3 h4 => Lib.hid (putUvR_any g n k b r o done 5 W hb h1 h2 h3 h4)
  have P3 := fun g n k r o done W h1 h2 h3 h4 => Lib.hid (putUvR_any g n k c r o done 5 W hc h1 h2 h3 h4)
  have P4 := fun g n k r o done W h1 h2 h3 h4 => Lib.hid (putUvR_any g n k d r o done 5 W (by omega) h1 h2 h3 h4)
  have hE : pfEnc a b c d = (((([] ++ Lib.uvarint a) ++ Lib.uvarint b) ++ Lib.uvarint c) ++ Lib.uvarint d) := by unfold pfEnc; simp
  rw [hE]
  clear hE ha hb hc
  generalize Lib.uvarint a = A at *
  generalize Lib.uvarint b = B at *
  generalize Lib.uvarint c = C at *
  generalize Lib.uvarint d = D at *
  obtain ⟨na, hna⟩ : ∃ n, n = A.length := ⟨_, rfl⟩
  obtain ⟨nb, hnb⟩ : ∃ n, n = B.length := ⟨_, rfl⟩
  obtain ⟨nc, hnc⟩ : ∃ n, n = C.length := ⟨_, rfl⟩
  obtain ⟨nd, hnd⟩ : ∃ n, n = D.length := ⟨_, rfl⟩
  rw [← hna] at la pa P1 S1
  rw [← hnb] at lb pb P2 S2
  rw [← hnc] at lc pc P3 S3
  rw [← hnd] at ld pd P4 S4
  have HNA := Lib.hid hna
  have HNB := Lib.hid hnb
  have HNC := Lib.hid hnc
  have HND := Lib.hid hnd
  clear hna hnb hnc hnd
  have k0 := cell_of_row' (cur := [_, _, _, _]) R0 0
  have k1 := cell_of_row' (cur := [_, _, _, _]) R0 1
  have k2 := cell_of_row' (cur := [_, _, _, _]) R0 2
  have k3 := cell_of_row' (cur := [_, _, _, _]) R0 3
  have HR0 := Lib.hid R0
  obtain ⟨w1, hmk, hb1, hs1, hrow⟩ := make_bytes (P := Tryd.prog) Tryd.underlying43 info_u8 (w.alloc (.cells #[.int .u64 a, .int .u64 b, .int .u64 c, .int .i64 d] 91)) (na + nb + nc + nd) (by omega)
  rw [hg0] at hmk hs1 hrow
  have eN : ((na + nb + nc + nd : Nat) : Int) = (na : Int) + nb + nc + nd := by omega
  rw [eN] at hmk
  have HROW := Lib.hid hrow
  have R1 := row_below hb1 (block_of_row R0) R0
  have b1 := below_next hA hb1
  clear R0 hrow hb1 hA
  have f1 := fun W => run_from (P := Tryd.prog) Tryd.underlying43 info_u8 (some ⟨w.heap.size + 1, 0, none⟩) (na + nb + nc + nd) (na + nb + nc + nd) na (by omega) W
  have f2 := fun W => run_from (P := Tryd.prog) Tryd.underlying43 info_u8 (some ⟨w.heap.size + 1, 0, none⟩) (na + nb + nc + nd) (na + nb + nc + nd) (na + nb) (by omega) W
  have f3 := fun W => run_from (P := Tryd.prog) Tryd.underlying43 info_u8 (some ⟨w.heap.size + 1, 0, none⟩) (na + nb + nc + nd) (na + nb + nc + nd) (na + nb + nc) (by omega) W
  rw [cutA_own _ _ _ _ (by omega), Nat.zero_add] at f1 f2 f3
  rw [show ((na + nb : Nat) : Int) = (na : Int) + nb by omega] at f2
  rw [show ((na + nb + nc : Nat) : Int) = (na : Int) + nb + nc by omega] at f3
  rw [show na + nb + nc + nd - (na + nb + nc) = nd by omega] at f3
  have g2 : IntKind.i64.wrap ((na : Int) + nb) = (na : Int) + nb := IntWalk.i64_in _ (by omega)
  have g3 : IntKind.i64.wrap ((na : Int) + nb + nc) = (na : Int) + nb + nc := IntWalk.i64_in _ (by omega)
  have g5 : IntKind.u64.wrap (d : Int) = (d : Int) := IntWalk.u64_in _ (by omega)
  have g4 : IntKind.i64.wrap ((na : Int) + nb + nc + nd) = (na : Int) + nb + nc + nd := IntWalk.i64_in _ (by omega)
  go_enter Tryd.func45, Tryd.ntmps45
  go_wp2_with fail
  generalize (w.alloc (.cells #[.int .u64 a, .int .u64 b, .int .u64 c, .int .i64 d] 91)) = w0 at *
  refine (S1 w0).out.mono ?_
  rintro e w' ⟨rfl, rfl⟩
  go_wp2_with fail
  refine (S2 w0).out.mono ?_
  rintro e w' ⟨rfl, rfl⟩
  go_wp2_with fail
  refine (S3 w0).out.mono ?_
  rintro e w' ⟨rfl, rfl⟩
  go_wp2_with fail
  refine (S4 w0).out.mono ?_
  rintro e w' ⟨rfl, rfl⟩
  clear S1 S2 S3 S4
  have j0 := cell_of_row' (cur := [_, _, _, _]) R1 0
  have j1 := cell_of_row' (cur := [_, _, _, _]) R1 1
  have j2 := cell_of_row' (cur := [_, _, _, _]) R1 2
  have j3 := cell_of_row' (cur := [_, _, _, _]) R1 3
  have HR1 := Lib.hid R1
  clear R1
  go_wp2_with fail
  clear hmk k0 k1 k2 k3
  refine (P1 (w.heap.size + 1) (na + nb + nc + nd) (na + nb + nc + nd) (na + nb + nc + nd) 0 [] w1 rfl HROW.out (by omega) (by omega)).out.mono ?_
  rintro e w2 ⟨rfl, h2, t2⟩
  have R2 := (t2.block w.heap.size (by omega)).trans HR1.out
  have b2 := b1.trans (t2.below (B := w.heap.size) (by omega))
  have k1 := cell_of_row' (cur := [_, _, _, _]) R2 1
  have Q2 := Lib.hid (P2 (w.heap.size + 1) (na + nb + nc + nd - na) (na + nb + nc + nd - na) (na + nb + nc + nd - na) na _ w2.drew (by rw [List.nil_append]; exact HNA.out) h2.out (by omega) (by omega))
  have HR2 := Lib.hid R2
  clear R2 t2 P1 P2 j0 j1 j2 j3
  go_wp2_with fail
  go_region_with (go_at_call 82; refine Q2.out.mono ?_; rintro e w3 ⟨rfl, h3, t3⟩)
  have R3 := (t3.block w.heap.size (by omega)).trans (show w2.drew.heap[w.heap.size]? = _ from HR2.out)
  have b3 := (show Below w.heap.size w w2.drew from below_drewN _ _ 1 |> b2.trans).trans (t3.below (B := w.heap.size) (by omega))
  have k2 := cell_of_row' (cur := [_, _, _, _]) R3 2
  have Q3 := Lib.hid (P3 (w.heap.size + 1) (na + nb + nc + nd - (na + nb)) (na + nb + nc + nd - (na + nb)) (na + nb + nc + nd - na - nb) (na + nb) _ w3.drew (by rw [List.nil_append, List.length_append, ← HNA.out, ← HNB.out]) h3.out (by omega) (by omega))
  have HR3 := Lib.hid R3
  clear R3 t3 P3 k1 Q2 HR2 h2 b2 f1
  go_wp2_with fail
  go_region_with (go_at_call 82; refine Q3.out.mono ?_; rintro e w4 ⟨rfl, h4, t4⟩)
  have R4 := (t4.block w.heap.size (by omega)).trans (show w3.drew.heap[w.heap.size]? = _ from HR3.out)
  have b4 := (show Below w.heap.size w w3.drew from below_drewN _ _ 1 |> b3.trans).trans (t4.below (B := w.heap.size) (by omega))
  have k3 := cell_of_row' (cur := [_, _, _, _]) R4 3
  have Q4 := Lib.hid (P4 (w.heap.size + 1) nd nd (na + nb + nc + nd - na - nb - nc) (na + nb + nc) _ w4.drew (by rw [List.nil_append, List.length_append, List.length_append, ← HNA.out, ← HNB.out, ← HNC.out]) h4.out (by omega) (by omega))
  have HR4 := Lib.hid R4
  clear R4 t4 P4 k2 Q3 HR3 h3 b3 f2
  go_wp2_with fail
  go_region_with (go_at_call 82; refine Q4.out.mono ?_; rintro e w5 ⟨rfl, h5, t5⟩)
  have b5 := (show Below w.heap.size w w4.drew from below_drewN _ _ 1 |> b4.trans).trans (t5.below (B := w.heap.size) (by omega))
  have hbs := Lib.hid (BS.of_row (c := na + nb + nc + nd) (g := w.heap.size + 1) (l := A ++ B ++ C ++ D) (w := w5) (t := 5) (m := (0, 0)) (by
    have h := h5.out
    rw [show na + nb + nc + nd - na - nb - nc - nd = 0 by omega, List.replicate_zero, List.append_nil, List.nil_append] at h
    exact h) (by simp only [List.length_append]; rw [← HNA.out, ← HNB.out, ← HNC.out, ← HND.out]; exact Nat.le_refl _))
  have hL : Hid ((A ++ B ++ C ++ D).length = na + nb + nc + nd) := Lib.hid (by simp only [List.length_append]; rw [← HNA.out, ← HNB.out, ← HNC.out, ← HND.out])
  clear t5 h5 k3 HR4 h4 f3 Q4
  go_wp2
  go_ret
  rw [hL.out] at hbs
  exact ⟨⟨_, _, _, rfl, hbs.out⟩, b5⟩
end Go.Proofs.YthfgnhgijgjggaaDoor
/- Contracts: cid.PrefixFromBytes. -/
namespace Go.Proofs.YthfgnhgijgjggaaDoor
open Go.RowKit

theorem readUv_ok (p : Nat) (v : Value) (l : List UInt8) (i : Nat) (w : World) (hr : Rdr w p v l i) (e0 e1 : Addr) (t2 t3 : TypeId) (p2 p3 : Value) (he : UvErrs p w e0 e1 (.iface t2 p2) (.iface t3 p3)) (x m : Nat) (hd : uvDec (l.drop i) = .ok x m) :
    Calls Tryd.prog 83 #[rdV p] w fun e w' => e = .returned (.tuple #[.int .u64 x, .nilIface]) ∧ Rdr w' p v l (i + m) ∧ Keep (fun k => k = p) w w' := by
  refine (readUv p v l i w hr e0 e1 t2 t3 p2 p3 he).mono ?_
  rintro e w' ⟨rfl, ⟨j, hj, hr'⟩, hk⟩
  rw [hd] at hj ⊢
  obtain rfl : j = i + m := hj
  exact ⟨rfl, hr', hk⟩

abbrev pfZ : Obj := .cells #[.int .u64 0, .int .u64 0, .int .u64 0, .int .i64 0] 91

set_option maxRecDepth 100000 in
set_option maxHeartbeats 4000000 in
theorem pfFrom (A : Option Addr) (n k : Nat) (a b c d : Nat) (ha : a < 9223372036854775808) (hb : b < 9223372036854775808) (hc : c < 9223372036854775808) (hd : d < 9223372036854775808) (w : World) (hs : BS w (.slice A n k) (pfEnc a b c d))
    (e0 e1 : Addr) (t2 t3 : TypeId) (p2 p3 : Value) (he : UvErrs w.heap.size w e0 e1 (.iface t2 p2) (.iface t3 p3)) :
    Calls Tryd.prog 46 #[.slice A n k] w fun e w' => e = .returned (.tuple #[.agg #[.int .u64 a, .int .u64 b, .int .u64 c, .int .i64 d], .nilIface]) ∧ Below w.heap.size w w' := by
  have hA : Below w.heap.size w (w.alloc pfZ) := (Below.refl _ _).alloc (Nat.le_refl _) _
  have hR0 := heap_alloc_new w pfZ
  have hg : (w.alloc pfZ).heap.size = w.heap.size + 1 := by simp
  have la := Lib.uvarint_length64 (x := a) (by omega)
  have lb := Lib.uvarint_length64 (x := b) (by omega)
  have lc := Lib.uvarint_length64 (x := c) (by omega)
  have ld := Lib.uvarint_length64 (x := d) (by omega)
  obtain ⟨l, hl⟩ : ∃ l, l = pfEnc a b c d := ⟨_, rfl⟩
  have hlen : l.length ≤ 40 := by rw [hl]; unfold pfEnc; simp only [List.length_append]; omega
  obtain ⟨na, hna⟩ : ∃ n, n = (Lib.uvarint a).length := ⟨_, rfl⟩
  obtain ⟨nb, hnb⟩ : ∃ n, n = (Lib.uvarint b).length := ⟨_, rfl⟩
  obtain ⟨nc, hnc⟩ : ∃ n, n = (Lib.uvarint c).length := ⟨_, rfl⟩
  have D1 : uvDec (l.drop 0) = .ok a na := by rw [hl, hna]; exact uvDec_back a ha _
  have E1 : l.drop na = Lib.uvarint b ++ (Lib.uvarint c ++ Lib.uvarint d) := by rw [hl, hna]; unfold pfEnc; rw [List.drop_left]
  have D2 : uvDec (l.drop (0 + na)) = .ok b nb := by rw [Nat.zero_add, E1, hnb]; exact uvDec_back b hb _
  have E2 : l.drop (na + nb) = Lib.uvarint c ++ Lib.uvarint d := by rw [← List.drop_drop, E1, hnb, List.drop_left]
  have D3 : uvDec (l.drop (0 + na + nb)) = .ok c nc := by rw [Nat.zero_add, E2, hnc]; exact uvDec_back c hc _
  have D4 : uvDec (l.drop (0 + na + nb + nc)) = .ok d (Lib.uvarint d).length := by rw [Nat.zero_add, ← List.drop_drop, E2, hnc, List.drop_left, ← List.append_nil (Lib.uvarint d)]; rw [uvDec_back d hd _]; simp
  rw [← hl] at hs
  have hs0 := hs.below hA
  have he0 := Lib.hid ((he.keep (S := fun _ => False) hA.keep (fun _ h => h.elim)))
  have HN := Lib.hid (newReader (.slice A n k) l (w.alloc pfZ) hs0 (by omega))
  rw [hg] at HN
  clear hl hna hnb hnc E1 E2 la lb lc ld hs hs0 he hlen
  have R0 := Lib.hid hR0
  clear hR0
  have H1 := fun W hr he => Lib.hid (readUv_ok (w.heap.size + 1) (.slice A n k) l _ W hr e0 e1 t2 t3 p2 p3 he _ _ D1)
  have H2 := fun W hr he => Lib.hid (readUv_ok (w.heap.size + 1) (.slice A n k) l _ W hr e0 e1 t2 t3 p2 p3 he _ _ D2)
  have H3 := fun W hr he => Lib.hid (readUv_ok (w.heap.size + 1) (.slice A n k) l _ W hr e0 e1 t2 t3 p2 p3 he _ _ D3)
  have H4 := fun W hr he => Lib.hid (readUv_ok (w.heap.size + 1) (.slice A n k) l _ W hr e0 e1 t2 t3 p2 p3 he _ _ D4)
  clear D1 D2 D3 D4
  have g5 : IntKind.i64.wrap (d : Int) = (d : Int) := IntWalk.i64_in _ (by omega)
  have g6 : wrap64 (d : Int) = (d : Int) := IntWalk.wrap64_in _ (by omega)
  go_enter Tryd.func46, Tryd.ntmps46
  go_wp2_with fail
  generalize w.alloc pfZ = w0 at *
  refine HN.out.mono ?_
  rintro e w1 ⟨rfl, r1, hs1, hb1⟩
  rw [← hg] at hb1
  have b1 := below_next hA hb1
  have he1 := (he0.out.keep (S := fun _ => False) hb1.keep (fun _ h => h.elim)).mono (C := w.heap.size + 1) (by omega)
  have R1 := Lib.hid (row_below hb1 (block_of_row R0.out) R0.out)
  have Q1 := Lib.hid (H1 w1 r1 he1)
  have HE1 := Lib.hid he1
  clear hb1 r1 he1 HN he0 H1
  go_wp2_with fail
  refine Q1.out.mono ?_
  rintro e w2 ⟨rfl, r2, k2⟩
  have b2 := b1.trans (k2.below (B := w.heap.size) (fun k hk e => by omega) (by have := b1.size; omega))
  have he2 := HE1.out.keep k2 (fun k hk => by omega)
  have R2 := Lib.hid (k2.row R1.out (by omega))
  have Q2 := Lib.hid (H2 w2 r2 he2)
  have HE2 := Lib.hid he2
  clear k2 r2 he2 HE1 H2 R1 Q1
  go_wp2_with fail
  refine Q2.out.mono ?_
  rintro e w3 ⟨rfl, r3, k3⟩
  have b3 := b2.trans (k3.below (B := w.heap.size) (fun k hk e => by omega) (by have := b2.size; omega))
  have he3 := HE2.out.keep k3 (fun k hk => by omega)
  have R3 := Lib.hid (k3.row R2.out (by omega))
  have Q3 := Lib.hid (H3 w3 r3 he3)
  have HE3 := Lib.hid he3
  clear k3 r3 he3 HE2 H3 R2 Q2
  go_wp2_with fail
  refine Q3.out.mono ?_
  rintro e w4 ⟨rfl, r4, k4⟩
  have b4 := b3.trans (k4.below (B := w.heap.size) (fun k hk e => by omega) (by have := b3.size; omega))
  have he4 := HE3.out.keep k4 (fun k hk => by omega)
  have R4 := Lib.hid (k4.row R3.out (by omega))
  have Q4 := Lib.hid (H4 w4 r4 he4)
  clear k4 r4 he4 HE3 H4 R3 Q3
  go_wp2_with fail
  refine Q4.out.mono ?_
  rintro e w5 ⟨rfl, r5, k5⟩
  have b5 := b4.trans (k5.below (B := w.heap.size) (fun k hk e => by omega) (by have := b4.size; omega))
  have hr := k5.row R4.out (show ¬ w.heap.size = w.heap.size + 1 by omega)
  have c0 := cell_of_row' (cur := [_, _, _, _]) hr 0
  have c1 := cell_of_row' (cur := [_, _, _, _]) hr 1
  have c2 := cell_of_row' (cur := [_, _, _, _]) hr 2
  have c3 := cell_of_row' (cur := [_, _, _, _]) hr 3
  have f0 := frozen_of_row' (cur := [_, _, _, _]) hr 0
  have f1 := frozen_of_row' (cur := [_, _, _, _]) hr 1
  have f2 := frozen_of_row' (cur := [_, _, _, _]) hr 2
  have f3 := frozen_of_row' (cur := [_, _, _, _]) hr 3
  have HR := Lib.hid hr
  clear hr k5 r5 R4 Q4
  go_wp2
  refine bodyPost_ret (results_row_tmp rfl _ _ w.heap.size 91 #[.int .u64 a, .int .u64 b, .int .u64 c, .int .i64 d] (0, 0) _ rfl (by simp [World.setCell, Array.getElem?_modify, HR.out]) Tryd.underlying91 rfl (by kernel_rfl)) rfl ?_
  exact ⟨rfl, (((b5.setCell (Nat.le_refl _) _).setCell (Nat.le_refl _) _).setCell (Nat.le_refl _) _).setCell (Nat.le_refl _) _⟩
end Go.Proofs.YthfgnhgijgjggaaDoor
/- Contracts: impl.CdPrefix, impl.CdPrefixRead. -/
namespace Go.Proofs.YthfgnhgijgjggaaDoor
open Go.RowKit

theorem results_tmp5 {fn : Func} {t1 t2 t3 t4 t5 : Tmp} (h : fn.results = #[.tmp t1, .tmp t2, .tmp t3, .tmp t4, .tmp t5]) (tmps : Array Value) (P : Program) (w : World) :
    (results fn tmps).run P w = .ok (.tuple #[tmps.getD t1 undef, tmps.getD t2 undef, tmps.getD t3 undef, tmps.getD t4 undef, tmps.getD t5 undef]) w := by
  simp [results, h]

set_option maxRecDepth 100000 in
set_option maxHeartbeats 4000000 in
theorem cdPrefixI (x : CidD) (ht : x.tidy) (d : ByteArray) (hcd : x.dig = d.data.toList) (hd : d.size ≤ 2147483600) (w : World) (hu : UvS w) :
    Calls Tryd.prog 21 #[.agg #[.int .u64 x.ver, .int .u64 x.codec, .int .u64 x.code, .string d]] w fun e w' => e = .returned (.tuple #[.string ⟨(pfEnc x.ver x.codec x.code d.size).toArray⟩, .bool true]) ∧ Below w.heap.size w w' := by
  have hA : Below w.heap.size w (w.alloc (cidO x.ver x.codec x.code d)) := (Below.refl _ _).alloc (Nat.le_refl _) _
  have hl : x.dig.length = d.size := by rw [hcd, ba_len]
  have HC := Lib.hid (cidIn_ok x ht d hcd hd _ (hu.below hA))
  have hs : CidStr ⟨(cidEnc x).toArray⟩ x := ⟨rfl, ht, by omega⟩
  have HP := fun W => Lib.hid (cdPrefix _ x hs W)
  rw [hl] at HP
  have hb0 : x.ver < 18446744073709551616 ∧ x.codec < 18446744073709551616 ∧ x.code < 18446744073709551616 := by
    rcases ht with ⟨h0, h1, h2, h3⟩ | ⟨h0, h1, h2⟩ <;> omega
  have HB := fun W => Lib.hid (pfBytes x.ver x.codec x.code d.size hb0.1 hb0.2.1 hb0.2.2 (by omega) W)
  clear hu hs ht hcd hd hl hb0
  generalize pfEnc x.ver x.codec x.code d.size = L at *
  generalize (⟨(cidEnc x).toArray⟩ : ByteArray) = S at *
  generalize (x.ver : Int) = c0 at *
  generalize (x.codec : Int) = c1 at *
  generalize (x.code : Int) = c2 at *
  go_enter Tryd.func21, Tryd.ntmps21
  go_wp2_with fail
  refine HC.out.mono ?_
  rintro e w1 ⟨rfl, hb1⟩
  have b1 := below_next hA hb1
  have b2 := b1.alloc b1.size (.cells #[.string S] 80)
  clear hb1 HC hA
  go_wp2_with fail
  refine (HP _).out.mono ?_
  rintro e w2 ⟨rfl, hb2⟩
  have b3 := below_next b2 hb2
  clear hb2
  go_wp2_with fail
  refine (HB _).out.mono ?_
  rintro e w3 ⟨⟨A, n, k, rfl, hbs⟩, hb3⟩
  have b4 := below_next b3 hb3
  have hcv := hbs.str (P := Tryd.prog) (dst := 9) Tryd.underlying43 Tryd.underlying5 Tryd.underlying9
  clear hb3 HP HB hbs
  go_wp2
  go_ret2
  exact ⟨rfl, b4⟩

set_option maxRecDepth 100000 in
set_option maxHeartbeats 4000000 in
theorem cdPrefixRead (a b c d : Nat) (ha : a < 9223372036854775808) (hb : b < 9223372036854775808) (hc : c < 9223372036854775808) (hd : d < 9223372036854775808) (w : World)
    (e0 e1 : Addr) (t2 t3 : TypeId) (p2 p3 : Value) (he : UvErrs w.heap.size w e0 e1 (.iface t2 p2) (.iface t3 p3)) :
    Calls Tryd.prog 22 #[.string ⟨(pfEnc a b c d).toArray⟩] w fun e w' => e = .returned (.tuple #[.int .u64 a, .int .u64 b, .int .u64 c, .int .i64 d, .bool true]) ∧ Below w.heap.size w w' := by
  obtain ⟨A, n, w1, hconv, hb1, hbs⟩ := conv_in' w ⟨(pfEnc a b c d).toArray⟩
  have HF := Lib.hid (pfFrom A _ n a b c d ha hb hc hd w1 hbs e0 e1 t2 t3 p2 p3 ((he.keep (S := fun _ => False) hb1.keep (fun _ h => h.elim)).mono hb1.size))
  clear hbs he
  generalize (⟨(pfEnc a b c d).toArray⟩ : ByteArray) = S at *
  go_enter Tryd.func22, Tryd.ntmps22
  go_wp2_with fail
  refine HF.out.mono ?_
  rintro e w2 ⟨rfl, hb2⟩
  have b3 := (below_next hb1 hb2).alloc (below_next hb1 hb2).size (.cells #[.int .u64 a, .int .u64 b, .int .u64 c, .int .i64 d] 91)
  have R3 := heap_alloc_new w2 (.cells #[.int .u64 a, .int .u64 b, .int .u64 c, .int .i64 d] 91)
  have c0 := cell_of_row' (cur := [_, _, _, _]) R3 0
  have c1 := cell_of_row' (cur := [_, _, _, _]) R3 1
  have c2 := cell_of_row' (cur := [_, _, _, _]) R3 2
  have c3 := cell_of_row' (cur := [_, _, _, _]) R3 3
  clear R3 hb2 hb1 HF hconv
  go_wp2
  go_quiet (fail)
  go_wp2
  (try simp only [Exit.inBlock, Exit.then])
  refine bodyPost_ret (results_tmp5 rfl _ _ _) rfl ?_
  exact ⟨rfl, b3.drewN _⟩
end Go.Proofs.YthfgnhgijgjggaaDoor
/- Contracts: spec.StreamCid, spec.ReadBlockHead. -/
namespace Go.Proofs.YthfgnhgijgjggaaDoor
open Go.RowKit

section
variable {P : Program}
theorem results_rows {fn : Func} {p u u2 : Tmp} {ty : TypeId} (h : fn.results = #[.cell p ty, .tmp u, .tmp u2]) (tmps : Array Value) (w : World) (g : Nat) (t : TypeId) (cs : Array Value) (fr : Nat × Nat) (d : TypeDesc)
    (hp : tmps.getD p undef = .pointer (some ⟨g, 0, none⟩)) (hg : w.heap[g]? = some (.cells cs t fr))
    (hu : P.underlying ty = some d) (hd : (match d with | .struct _ | .array _ _ => true | _ => false) = true) (hi : (P.info? ty).map (·.size) = some cs.size) :
    (results fn tmps).run P w = .ok (.tuple #[.agg cs, tmps.getD u undef, tmps.getD u2 undef]) w := by
  have hp' : tmps[p]?.getD undef = .pointer (some ⟨g, 0, none⟩) := by simpa using hp
  simp only [results, h]
  simp [Result.andThen, hp', asAddr, run_loadVar_row w g t ty cs fr d hg hu hd hi]
end

/-- What StreamCid answers of bytes that are there. -/
def stSpec : Option (CidD × Nat) → Value
  | some (x, n) => .tuple #[cidVal x, .int .i64 n, .int .u8 0]
  | none => .tuple #[noCid, .int .i64 0, .int .u8 2]

set_option maxRecDepth 100000 in
set_option maxHeartbeats 4000000 in
theorem streamCid (s : ByteArray) (w : World) (hm : s.size ≤ 33554432) (h0 : 0 < s.size) :
    Calls Tryd.prog 58 #[.string s] w fun e w' => e = .returned (stSpec (cidRd s.data.toList)) ∧ Below w.heap.size w w' := by
  have hA : Below w.heap.size w (w.alloc outZ) := (Below.refl _ _).alloc (Nat.le_refl _) _
  have HC := Lib.hid (readCid_any s (w.alloc outZ) (by omega))
  obtain ⟨n1, n2, n3⟩ := ba_nonempty h0
  have HA := Lib.hid hA
  have hr0 := heap_alloc_new w outZ
  cases hd : cidRd s.data.toList with
  | none =>
    rw [hd] at HC
    unfold rdSpec at HC
    dsimp only at HC
    clear hA hd
    go_enter Tryd.func58, Tryd.ntmps58
    go_wp2_with fail
    refine HC.out.mono ?_
    rintro e w1 ⟨rfl, hb1⟩
    have hb2 : Below w1.heap.size w1 (w1.alloc outZ) := (Below.refl _ _).alloc (Nat.le_refl _) _
    have hr2 := row_below hb2 (block_of_row (row_below hb1 (block_of_row hr0) hr0)) (row_below hb1 (block_of_row hr0) hr0)
    obtain ⟨⟨k0, k1, k2, k3⟩, f0, f1, f2, f3⟩ := (OutVar.mk hr2).cells
    have p4 := Lib.hid (set4 hr2 (.int .u64 0) (.int .u64 0) (.int .u64 0) (.string ⟨#[]⟩))
    have HF := Lib.hid (below_set4 (below_next (below_next HA.out hb1) hb2) (Nat.le_refl _) (.int .u64 0) (.int .u64 0) (.int .u64 0) (.string ⟨#[]⟩))
    clear hb1 hb2 hr2 hr0 HC
    go_wp2
    refine bodyPost_ret (results_rows rfl _ _ (w.heap.size) 26 #[.int .u64 0, .int .u64 0, .int .u64 0, .string ⟨#[]⟩] (0, 0) _ rfl p4.out Tryd.underlying26 rfl (by kernel_rfl)) rfl ?_
    exact ⟨rfl, HF.out⟩
  | some xk =>
    obtain ⟨x, k⟩ := xk
    rw [hd] at HC
    unfold rdSpec cidVal at HC
    dsimp only at HC
    have hdl : x.dig.length ≤ 33554432 := by
      obtain ⟨t1, t2, t3, t4⟩ := cidRd_take hd
      have h5 : x.dig.length ≤ (cidEnc x).length := by unfold cidEnc mhEnc; split <;> simp <;> omega
      have h6 := congrArg List.length t2
      rw [List.length_take, ba_len] at h6
      rw [ba_len] at t1
      omega
    obtain ⟨v3, hv3⟩ : ∃ v3 : ByteArray, v3 = ⟨x.dig.toArray⟩ := ⟨_, rfl⟩
    have hsz : ¬ (33554432 : Int) < (v3.size : Int) := by
      have : v3.size = x.dig.length := by rw [hv3]; rfl
      omega
    rw [← hv3] at HC
    have HV := Lib.hid hv3
    clear hA hd hv3 hdl
    obtain ⟨v0, hv0⟩ : ∃ v0 : Int, v0 = x.ver := ⟨_, rfl⟩
    obtain ⟨v1, hv1⟩ : ∃ v1 : Int, v1 = x.codec := ⟨_, rfl⟩
    obtain ⟨v2, hv2⟩ : ∃ v2 : Int, v2 = x.code := ⟨_, rfl⟩
    rw [← hv0, ← hv1, ← hv2] at HC
    have HV0 := Lib.hid hv0
    have HV1 := Lib.hid hv1
    have HV2 := Lib.hid hv2
    clear hv0 hv1 hv2
    go_enter Tryd.func58, Tryd.ntmps58
    go_wp2_with fail
    refine HC.out.mono ?_
    rintro e w1 ⟨rfl, hb1⟩
    obtain ⟨W2, hW2⟩ : ∃ W2, W2 = w1.alloc (.cells #[.int .u64 v0, .int .u64 v1, .int .u64 v2, .string v3] 26) := ⟨_, rfl⟩
    have hb2 : Below w1.heap.size w1 W2 := hW2 ▸ (Below.refl _ _).alloc (Nat.le_refl _) _
    have hrn := heap_alloc_new w1 (.cells #[.int .u64 v0, .int .u64 v1, .int .u64 v2, .string v3] 26)
    have j0 := cell_of_row' (cur := [_, _, _, _]) hrn 0
    have j1 := cell_of_row' (cur := [_, _, _, _]) hrn 1
    have j2 := cell_of_row' (cur := [_, _, _, _]) hrn 2
    have j3 := cell_of_row' (cur := [_, _, _, _]) hrn 3
    have hr2 := row_below hb2 (block_of_row (row_below hb1 (block_of_row hr0) hr0)) (row_below hb1 (block_of_row hr0) hr0)
    obtain ⟨⟨k0, k1, k2, k3⟩, f0, f1, f2, f3⟩ := (OutVar.mk hr2).cells
    have p4 := Lib.hid (set4 hr2 (.int .u64 v0) (.int .u64 v1) (.int .u64 v2) (.string v3))
    have HF := Lib.hid (below_set4 (below_next (below_next HA.out hb1) hb2) (Nat.le_refl _) (.int .u64 v0) (.int .u64 v1) (.int .u64 v2) (.string v3))
    rw [hW2] at k0 k1 k2 k3 f0 f1 f2 f3 p4 HF
    clear hb1 hb2 hr2 hr0 HC hrn hW2
    go_wp2
    refine bodyPost_ret (results_rows rfl _ _ (w.heap.size) 26 #[.int .u64 v0, .int .u64 v1, .int .u64 v2, .string v3] (0, 0) _ rfl p4.out Tryd.underlying26 rfl (by kernel_rfl)) rfl ?_
    exact ⟨by unfold stSpec cidVal; dsimp only; rw [← HV.out, ← HV0.out, ← HV1.out, ← HV2.out]; rfl, HF.out⟩
end Go.Proofs.YthfgnhgijgjggaaDoor
