/- Contracts of package spec: ReadMultihash, ReadCid. -/
import Derived.Test.YthldlpggconmcaaDoorRUvD
import Derived.Test.YthldlpggconmcaaDoorRCdM
import Derived.Test.YthldlpggconmcaaDoorRCdP
namespace Go.Proofs.YthldlpggconmcaaDoorR
open Go.RowKit

section
variable {P : Program}
/-- 's[i:j]' of a string. -/
theorem run_str_mid {t : TypeId} (ht : P.underlying t = some .string) (s : ByteArray) (i j : Nat) (hij : i ≤ j) (hj : j ≤ s.size) (x y : Int) (hx : x = i) (hy : y = j) (W : World) :
    (Instr.slice t (.string s) (some (.int .i64 x)) (some (.int .i64 y)) none).run P W = .ok (.string ⟨((s.data.toList.drop i).take (j - i)).toArray⟩) W := by
  subst hx hy
  rw [run_slice_string (P := P) W t s .i64 .i64 (i : Int) (j : Int) ht (by omega) (by omega) (by omega)]
  simp only [Int.toNat_natCast]
  congr 2
  apply ByteArray.ext
  apply Array.toList_inj.1
  rw [Lib.extract_data]
end

theorem readVarint_ok (s : ByteArray) (w : World) (hm : s.size ≤ 9223372036854775807) (x m : Nat) (hd : uvDec s.data.toList = .ok x m) :
    Calls Tryd.prog 16 #[.string s] w fun e w' => e = .returned (.tuple #[.int .u64 x, .int .i64 m, .int .i64 0]) ∧ Below w.heap.size w w' :=
  (readVarint_any s w hm).mono fun e w' ⟨he, hw⟩ => ⟨by rw [he, hd]; rfl, hw ▸ Below.refl _ _⟩
theorem readVarint_no (s : ByteArray) (w : World) (hm : s.size ≤ 9223372036854775807) (hd : (uvDec s.data.toList).no) :
    Calls Tryd.prog 16 #[.string s] w fun e w' => (∃ k : Int, (k != 0) = true ∧ e = .returned (.tuple #[.int .u64 0, .int .i64 0, .int .i64 k])) ∧ Below w.heap.size w w' :=
  (readVarint_any s w hm).mono fun e w' ⟨he, hw⟩ => ⟨by
    cases h : uvDec s.data.toList with
    | ok => rw [h] at hd; exact hd.elim
    | over => exact ⟨2, rfl, by rw [he, h]; rfl⟩
    | notMin => exact ⟨3, rfl, by rw [he, h]; rfl⟩
    | under => exact ⟨1, rfl, by rw [he, h]; rfl⟩, hw ▸ Below.refl _ _⟩

theorem uvDec_nil : (uvDec []).no := trivial

theorem mhNone_cases {l : List UInt8} (h : mhRd l = none) (hl : l.length ≤ 2147483647) : (uvDec l).no ∨ ∃ x1 m1, uvDec l = .ok x1 m1 ∧ ((uvDec (l.drop m1)).no ∨ ∃ x2 m2, uvDec (l.drop m1) = .ok x2 m2 ∧ l.length - m1 - m2 < x2) := by
  rcases mhRd_none h with h2 | ⟨_, h | ⟨x1, m1, e1, h⟩⟩
  · rcases uvR_cases (uvDec l) with ⟨x, m, e⟩ | h
    · obtain ⟨g1, g2, _⟩ := uvDec_ok e
      refine .inr ⟨x, m, e, .inl ?_⟩
      rw [List.drop_eq_nil_of_le (by omega)]
      exact uvDec_nil
    · exact .inl h
  · exact .inl h
  · refine .inr ⟨x1, m1, e1, ?_⟩
    rcases h with h | ⟨x2, m2, e2, h⟩
    · exact .inl h
    · refine .inr ⟨x2, m2, e2, ?_⟩
      rw [List.length_drop, List.length_drop] at h
      omega

theorem ba_size_drop (s : ByteArray) (k : Nat) : (⟨(s.data.toList.drop k).toArray⟩ : ByteArray).size = s.size - k := by
  show (s.data.toList.drop k).toArray.size = _
  rw [List.size_toArray, List.length_drop, ba_len]

set_option maxRecDepth 100000 in
set_option maxHeartbeats 2000000 in
theorem readMh_ok (s : ByteArray) (w : World) (hm : s.size ≤ 2147483600) (r code : Nat) (d : List UInt8) (hd : mhRd s.data.toList = some (r, code, d)) :
    Calls Tryd.prog 51 #[.string s] w fun e w' => e = .returned (.tuple #[.int .u64 code, .string ⟨d.toArray⟩, .int .i64 r, .bool true]) ∧ Below w.heap.size w w' := by
  obtain ⟨h2, m1, x2, m2, e1, e2, hx, hx2, rfl, rfl⟩ := mhRd_some hd
  obtain ⟨g1, g2, g3, _, _⟩ := uvDec_ok e1
  obtain ⟨k1, k2, k3, _, _⟩ := uvDec_ok e2
  rw [List.length_drop] at k2
  rw [List.length_drop, List.length_drop] at hx2
  rw [ba_len] at g2 k2 hx2
  have C1 := fun W => Lib.hid (readVarint_ok s W (by omega) code m1 e1)
  have T1 := fun W => run_str_from (P := Tryd.prog) Tryd.underlying9 s m1 g2 m1 rfl W
  have C2 := fun W => Lib.hid (readVarint_ok ⟨(s.data.toList.drop m1).toArray⟩ W (by rw [ba_size_drop]; omega) x2 m2 e2)
  have T2 := fun W => run_str_mid (P := Tryd.prog) Tryd.underlying9 s (m1 + m2) (m1 + m2 + x2) (by omega) (by omega) ((m1 : Int) + m2) ((m1 : Int) + m2 + x2) (by omega) (by omega) W
  rw [← List.drop_drop, show m1 + m2 + x2 - (m1 + m2) = x2 by omega] at T2
  have HR := Lib.hid (show ((m1 : Int) + m2 + x2) = ((m1 + m2 + x2 : Nat) : Int) by omega)
  have i1 : (m1 : Int) + m2 ≤ s.size := by omega
  have i2 : (x2 : Int) ≤ (s.size : Int) - m1 - m2 := by omega
  have i3 : ¬ ((s.size : Int) - m1 - m2 < x2) := by omega
  have i4 : (m1 : Int) ≤ s.size := by omega
  generalize (⟨(s.data.toList.drop m1).toArray⟩ : ByteArray) = S1 at *
  generalize (⟨(((s.data.toList.drop m1).drop m2).take x2).toArray⟩ : ByteArray) = D at *
  clear hd e1 e2 g1 g2 g3 k1 k2 k3 h2 hx2
  go_enter Tryd.func51, Tryd.ntmps51
  go_wp2_with fail
  refine (C1 _).out.mono ?_
  rintro e w1 ⟨rfl, hb1⟩
  go_wp2_with fail
  refine (C2 _).out.mono ?_
  rintro e w2 ⟨rfl, hb2⟩
  have hb := below_next hb1 hb2
  go_wp2
  go_quiet (fail)
  go_wp2
  refine bodyPost_ret (v := .tuple #[.int .u64 code, .string D, .int .i64 ((m1 : Int) + m2 + x2), .bool true]) (by simp [results, Tryd.results51, go_sem]) rfl ⟨by rw [HR.out], hb.drewN _⟩

set_option maxRecDepth 100000 in
set_option maxHeartbeats 2000000 in
theorem readMh_no (s : ByteArray) (w : World) (hm : s.size ≤ 2147483600) (hd : mhRd s.data.toList = none) :
    Calls Tryd.prog 51 #[.string s] w fun e w' => e = .returned (.tuple #[.int .u64 0, .string ⟨#[]⟩, .int .i64 0, .bool false]) ∧ Below w.heap.size w w' := by
  rcases mhNone_cases hd (by rw [ba_len]; omega) with h | ⟨x1, m1, e1, h⟩
  · have C1 := fun W => Lib.hid (readVarint_no s W (by omega) h)
    clear hd h
    go_enter Tryd.func51, Tryd.ntmps51
    go_wp2_with fail
    refine (C1 _).out.mono ?_
    rintro e w1 ⟨⟨k, hk, rfl⟩, hb1⟩
    go_wp2
    refine bodyPost_ret (v := .tuple #[.int .u64 0, .string ⟨#[]⟩, .int .i64 0, .bool false]) (by simp [results, Tryd.results51, go_sem]) rfl ⟨rfl, hb1⟩
  · obtain ⟨g1, g2, g3, _, _⟩ := uvDec_ok e1
    rw [ba_len] at g2
    have C1 := fun W => Lib.hid (readVarint_ok s W (by omega) x1 m1 e1)
    have T1 := fun W => run_str_from (P := Tryd.prog) Tryd.underlying9 s m1 g2 m1 rfl W
    rcases h with h | ⟨x2, m2, e2, hx⟩
    · have C2 := fun W => Lib.hid (readVarint_no ⟨(s.data.toList.drop m1).toArray⟩ W (by rw [ba_size_drop]; omega) h)
      generalize (⟨(s.data.toList.drop m1).toArray⟩ : ByteArray) = S1 at *
      clear hd h e1 g1 g3
      go_enter Tryd.func51, Tryd.ntmps51
      go_wp2_with fail
      refine (C1 _).out.mono ?_
      rintro e w1 ⟨rfl, hb1⟩
      go_wp2_with fail
      refine (C2 _).out.mono ?_
      rintro e w2 ⟨⟨k, hk, rfl⟩, hb2⟩
      have hb := below_next hb1 hb2
      go_wp2
      refine bodyPost_ret (v := .tuple #[.int .u64 0, .string ⟨#[]⟩, .int .i64 0, .bool false]) (by simp [results, Tryd.results51, go_sem]) rfl ⟨rfl, hb⟩
    · obtain ⟨k1, k2, k3, _, _⟩ := uvDec_ok e2
      rw [List.length_drop, ba_len] at k2
      rw [ba_len] at hx
      have C2 := fun W => Lib.hid (readVarint_ok ⟨(s.data.toList.drop m1).toArray⟩ W (by rw [ba_size_drop]; omega) x2 m2 e2)
      have i1 : (m1 : Int) + m2 ≤ s.size := by omega
      have i2 : (s.size : Int) - m1 - m2 < x2 := by omega
      have i4 : (m1 : Int) ≤ s.size := by omega
      generalize (⟨(s.data.toList.drop m1).toArray⟩ : ByteArray) = S1 at *
      clear hd e1 e2 g1 g2 g3 k1 k2 k3 hx
      go_enter Tryd.func51, Tryd.ntmps51
      go_wp2_with fail
      refine (C1 _).out.mono ?_
      rintro e w1 ⟨rfl, hb1⟩
      go_wp2_with fail
      refine (C2 _).out.mono ?_
      rintro e w2 ⟨rfl, hb2⟩
      have hb := below_next hb1 hb2
      go_wp2
      refine bodyPost_ret (v := .tuple #[.int .u64 0, .string ⟨#[]⟩, .int .i64 0, .bool false]) (by simp [results, Tryd.results51, go_sem]) rfl ⟨rfl, hb⟩

/-- What the first bytes of a string say: no version 0. -/
def FstS (s : ByteArray) : Prop := (s.size ≤ 2) ∨ (2 < s.size ∧ ∃ x y : Int, (∀ W, (Instr.index 9 (.string s) (.int .i64 0)).run Tryd.prog W = .ok (.int .u8 x) W) ∧ (∀ W, (Instr.index 9 (.string s) (.int .i64 1)).run Tryd.prog W = .ok (.int .u8 y) W) ∧ ((x == 18) = false ∨ ((x == 18) = true ∧ (y == 32) = false)))
theorem fstS_of {s : ByteArray} (hz : ¬ cidZero s.data.toList) : FstS s := by
  rcases not_zero_cases hz with h | ⟨h2, a, b, ha, hb, h⟩
  · rw [ba_len] at h; exact .inl h
  · rw [ba_len] at h2
    exact .inr ⟨h2, a.toNat, b.toNat, fun W => idx_ba (P := Tryd.prog) Tryd.underlying9 s 0 a ha 0 rfl W, fun W => idx_ba (P := Tryd.prog) Tryd.underlying9 s 1 b hb 1 rfl W, h⟩

/-- What spec.ReadCid answers. -/
def rdSpec : Option (CidD × Nat) → Value
  | some (x, n) => .tuple #[cidVal x, .int .i64 n, .bool true]
  | none => .tuple #[noCid, .int .i64 0, .bool false]

theorem out4 (w : World) : OutVar (w.alloc outZ) w.heap.size := ⟨heap_alloc_new w outZ⟩

set_option maxRecDepth 100000 in
set_option maxHeartbeats 2000000 in
theorem readCid_zero (s : ByteArray) (w : World) (hm : s.size ≤ 2147483600) (hz : cidZero s.data.toList) :
    Calls Tryd.prog 25 #[.string s] w fun e w' => e = .returned (rdSpec (cidRd s.data.toList)) ∧ Below w.heap.size w w' := by
  have hA : Below w.heap.size w (w.alloc outZ) := (Below.refl _ _).alloc (Nat.le_refl _) _
  have hO := out4 w
  have h2 := hz.1
  rw [ba_len] at h2
  have i0 := fun W => idx_ba (P := Tryd.prog) Tryd.underlying9 s 0 18 hz.2.1 0 rfl W
  have i1 := fun W => idx_ba (P := Tryd.prog) Tryd.underlying9 s 1 32 hz.2.2 1 rfl W
  obtain ⟨⟨k0, k1, k2, k3⟩, f0, f1, f2, f3⟩ := hO.cells
  by_cases h34 : s.size < 34
  · have HR := Lib.hid (show cidRd s.data.toList = none by unfold cidRd; rw [if_pos hz, if_pos (by rw [ba_len]; exact h34)])
    clear hz
    go_enter Tryd.func25, Tryd.ntmps25
    go_wp2
    refine bodyPost_ret (results_row_tmp2 rfl _ _ (w.heap.size) 26 #[.int .u64 0, .int .u64 0, .int .u64 0, .string ⟨#[]⟩] (0, 0) _ rfl (heap_alloc_new _ _) Tryd.underlying26 rfl (by kernel_rfl)) rfl ?_
    exact ⟨by rw [HR.out]; rfl, (Below.refl _ _).alloc (Nat.le_refl _) _⟩
  · have T := fun W => run_str_mid (P := Tryd.prog) Tryd.underlying9 s 2 34 (by omega) (by omega) 2 34 rfl rfl W
    obtain ⟨D, hD⟩ : ∃ D : ByteArray, D = ⟨((s.data.toList.drop 2).take 32).toArray⟩ := ⟨_, rfl⟩
    have HR := Lib.hid (show cidRd s.data.toList = some (⟨0, 112, 18, (s.data.toList.drop 2).take 32⟩, 34) by unfold cidRd; rw [if_pos hz, if_neg (by rw [ba_len]; exact h34)])
    rw [show 34 - 2 = 32 from rfl, ← hD] at T
    have HD := Lib.hid hD
    clear hz hD
    go_enter Tryd.func25, Tryd.ntmps25
    go_wp2
    refine bodyPost_ret (results_row_tmp2 rfl _ _ (w.heap.size) 26 #[.int .u64 0, .int .u64 112, .int .u64 18, .string D] (0, 0) _ rfl (heap_alloc_new _ _) Tryd.underlying26 rfl (by kernel_rfl)) rfl ?_
    exact ⟨by rw [HR.out, HD.out]; rfl, (Below.refl _ _).alloc (Nat.le_refl _) _⟩
set_option maxRecDepth 100000 in
set_option maxHeartbeats 4000000 in
theorem readCid_none (s : ByteArray) (w : World) (hm : s.size ≤ 2147483600) (hz : ¬ cidZero s.data.toList) (hd : cidRd s.data.toList = none) :
    Calls Tryd.prog 25 #[.string s] w fun e w' => e = .returned (rdSpec (cidRd s.data.toList)) ∧ Below w.heap.size w w' := by
  have b0 : Below w.heap.size w (w.alloc outZ) := (Below.refl _ _).alloc (Nat.le_refl _) _
  have O0 := out4 w
  have hF := fstS_of hz
  have HR := Lib.hid hd
  rcases cidRd_none hd with ⟨h, _⟩ | ⟨_, h | ⟨v, k, e1, hv⟩ | ⟨e1, h | ⟨codec, m, e2, e3⟩⟩⟩
  · exact absurd h hz
  · have C1 := fun W => Lib.hid (readVarint_no s W (by omega) h)
    clear hd hz h
    rcases hF with hn2 | ⟨hn2, x0, x1, i0, i1, h18 | ⟨h18, h32⟩⟩
    all_goals
      go_enter Tryd.func25, Tryd.ntmps25
      go_wp2_with fail
      refine (C1 _).out.mono ?_
      rintro e w1 ⟨⟨kk, hk, rfl⟩, hb⟩
      have b1 := below_next b0 hb
      have O1 := O0.below hb
      clear hb
      have bb := b1
      obtain ⟨⟨k0, k1, k2, k3⟩, f0, f1, f2, f3⟩ := O1.cells
      have HO := Lib.hid O1.row
      clear O1
      go_wp2
      refine bodyPost_ret (results_row_tmp2 rfl _ _ (w.heap.size) 26 #[.int .u64 0, .int .u64 0, .int .u64 0, .string ⟨#[]⟩] (0, 0) _ rfl (set4 HO.out _ _ _ _) Tryd.underlying26 rfl (by kernel_rfl)) rfl ?_
      exact ⟨by rw [HR.out]; rfl, below_set4 bb (Nat.le_refl _) _ _ _ _⟩
  · have C1 := fun W => Lib.hid (readVarint_ok s W (by omega) v k e1)
    have hv1 : ((v : Int) != 1) = true := by rw [bne_iff_ne]; omega
    clear hd hz e1 hv
    generalize (v : Int) = vi at *
    rcases hF with hn2 | ⟨hn2, x0, x1, i0, i1, h18 | ⟨h18, h32⟩⟩
    all_goals
      go_enter Tryd.func25, Tryd.ntmps25
      go_wp2_with fail
      refine (C1 _).out.mono ?_
      rintro e w1 ⟨rfl, hb⟩
      have b1 := below_next b0 hb
      have O1 := O0.below hb
      clear hb
      have bb := b1
      obtain ⟨⟨k0, k1, k2, k3⟩, f0, f1, f2, f3⟩ := O1.cells
      have HO := Lib.hid O1.row
      clear O1
      go_wp2
      refine bodyPost_ret (results_row_tmp2 rfl _ _ (w.heap.size) 26 #[.int .u64 0, .int .u64 0, .int .u64 0, .string ⟨#[]⟩] (0, 0) _ rfl (set4 HO.out _ _ _ _) Tryd.underlying26 rfl (by kernel_rfl)) rfl ?_
      exact ⟨by rw [HR.out]; rfl, below_set4 bb (Nat.le_refl _) _ _ _ _⟩
  · have C1 := fun W => Lib.hid (readVarint_ok s W (by omega) 1 1 e1)
    rw [show ((1 : Nat) : Int) = 1 from rfl] at C1
    have g2 := (uvDec_ok e1).2.1
    rw [ba_len] at g2
    have T1 := fun W => run_str_from (P := Tryd.prog) Tryd.underlying9 s 1 g2 1 rfl W
    have C2 := fun W => Lib.hid (readVarint_no ⟨(s.data.toList.drop 1).toArray⟩ W (by rw [ba_size_drop]; omega) h)
    generalize (⟨(s.data.toList.drop 1).toArray⟩ : ByteArray) = S1 at *
    clear hd hz e1 h
    rcases hF with hn2 | ⟨hn2, x0, x1, i0, i1, h18 | ⟨h18, h32⟩⟩
    all_goals
      go_enter Tryd.func25, Tryd.ntmps25
      go_wp2_with fail
      refine (C1 _).out.mono ?_
      rintro e w1 ⟨rfl, hb⟩
      have b1 := below_next b0 hb
      have O1 := O0.below hb
      clear hb
      go_wp2_with fail
      refine (C2 _).out.mono ?_
      rintro e w2 ⟨⟨kk, hk, rfl⟩, hb⟩
      have b2 := below_next b1 hb
      have O2 := O1.below hb
      clear hb
      have bb := b2
      obtain ⟨⟨k0, k1, k2, k3⟩, f0, f1, f2, f3⟩ := O2.cells
      have HO := Lib.hid O2.row
      clear O2
      go_wp2
      refine bodyPost_ret (results_row_tmp2 rfl _ _ (w.heap.size) 26 #[.int .u64 0, .int .u64 0, .int .u64 0, .string ⟨#[]⟩] (0, 0) _ rfl (set4 HO.out _ _ _ _) Tryd.underlying26 rfl (by kernel_rfl)) rfl ?_
      exact ⟨by rw [HR.out]; rfl, below_set4 bb (Nat.le_refl _) _ _ _ _⟩
  · have C1 := fun W => Lib.hid (readVarint_ok s W (by omega) 1 1 e1)
    rw [show ((1 : Nat) : Int) = 1 from rfl] at C1
    have g2 := (uvDec_ok e1).2.1
    rw [ba_len] at g2
    have g3 := (uvDec_ok e2).2.1
    rw [List.length_drop, ba_len] at g3
    have T1 := fun W => run_str_from (P := Tryd.prog) Tryd.underlying9 s 1 g2 1 rfl W
    have T2 := fun W => run_str_from (P := Tryd.prog) Tryd.underlying9 s (1 + m) (by omega) (1 + (m : Int)) (by omega) W
    have C2 := fun W => Lib.hid (readVarint_ok ⟨(s.data.toList.drop 1).toArray⟩ W (by rw [ba_size_drop]; omega) codec m e2)
    have C3 := fun W => Lib.hid (readMh_no ⟨(s.data.toList.drop (1 + m)).toArray⟩ W (by rw [ba_size_drop]; omega) (by show mhRd (s.data.toList.drop (1 + m)) = none; rw [← List.drop_drop]; exact e3))
    have i4 : (m : Int) ≤ s.size := by omega
    generalize (⟨(s.data.toList.drop 1).toArray⟩ : ByteArray) = S1 at *
    generalize (⟨(s.data.toList.drop (1 + m)).toArray⟩ : ByteArray) = S2 at *
    clear hd hz e1 e2 e3
    rcases hF with hn2 | ⟨hn2, x0, x1, i0, i1, h18 | ⟨h18, h32⟩⟩
    all_goals
      go_enter Tryd.func25, Tryd.ntmps25
      go_wp2_with fail
      refine (C1 _).out.mono ?_
      rintro e w1 ⟨rfl, hb⟩
      have b1 := below_next b0 hb
      have O1 := O0.below hb
      clear hb
      go_wp2_with fail
      refine (C2 _).out.mono ?_
      rintro e w2 ⟨rfl, hb⟩
      have b2 := below_next b1 hb
      have O2 := O1.below hb
      clear hb
      go_wp2_with fail
      refine (C3 _).out.mono ?_
      rintro e w3 ⟨rfl, hb⟩
      have b3 := below_next b2 hb
      have O3 := O2.below hb
      clear hb
      have bb := b3
      obtain ⟨⟨k0, k1, k2, k3⟩, f0, f1, f2, f3⟩ := O3.cells
      have HO := Lib.hid O3.row
      clear O3
      go_wp2
      refine bodyPost_ret (results_row_tmp2 rfl _ _ (w.heap.size) 26 #[.int .u64 0, .int .u64 0, .int .u64 0, .string ⟨#[]⟩] (0, 0) _ rfl (set4 HO.out _ _ _ _) Tryd.underlying26 rfl (by kernel_rfl)) rfl ?_
      exact ⟨by rw [HR.out]; rfl, below_set4 bb (Nat.le_refl _) _ _ _ _⟩

set_option maxRecDepth 100000 in
set_option maxHeartbeats 4000000 in
theorem readCid_one (s : ByteArray) (w : World) (hm : s.size ≤ 2147483600) (hz : ¬ cidZero s.data.toList) (x : CidD) (k : Nat) (hd : cidRd s.data.toList = some (x, k)) :
    Calls Tryd.prog 25 #[.string s] w fun e w' => e = .returned (rdSpec (cidRd s.data.toList)) ∧ Below w.heap.size w w' := by
  have b0 : Below w.heap.size w (w.alloc outZ) := (Below.refl _ _).alloc (Nat.le_refl _) _
  have O0 := out4 w
  have hF := fstS_of hz
  have hkl := (cidRd_dig hd).2
  rw [ba_len] at hkl
  rcases cidRd_some hd with ⟨h, _⟩ | ⟨_, e1, m, r, e2, e3, hk, hv⟩
  · exact absurd h hz
  · have C1 := fun W => Lib.hid (readVarint_ok s W (by omega) 1 1 e1)
    rw [show ((1 : Nat) : Int) = 1 from rfl] at C1
    have g2 := (uvDec_ok e1).2.1
    rw [ba_len] at g2
    have g3 := (uvDec_ok e2).2.1
    rw [List.length_drop, ba_len] at g3
    have T1 := fun W => run_str_from (P := Tryd.prog) Tryd.underlying9 s 1 g2 1 rfl W
    have T2 := fun W => run_str_from (P := Tryd.prog) Tryd.underlying9 s (1 + m) (by omega) (1 + (m : Int)) (by omega) W
    have C2 := fun W => Lib.hid (readVarint_ok ⟨(s.data.toList.drop 1).toArray⟩ W (by rw [ba_size_drop]; omega) x.codec m e2)
    have C3 := fun W => Lib.hid (readMh_ok ⟨(s.data.toList.drop (1 + m)).toArray⟩ W (by rw [ba_size_drop]; omega) r x.code x.dig (by show mhRd (s.data.toList.drop (1 + m)) = _; rw [← List.drop_drop]; exact e3))
    have i4 : (m : Int) ≤ s.size := by omega
    have i5 : (r : Int) ≤ s.size := by omega
    have HK := Lib.hid (show (1 + (m : Int) + r) = (k : Int) by omega)
    have HR : Hid (rdSpec (cidRd s.data.toList) = .tuple #[.agg #[.int .u64 1, .int .u64 x.codec, .int .u64 x.code, .string ⟨x.dig.toArray⟩], .int .i64 k, .bool true]) := Lib.hid (by rw [hd]; show Value.tuple #[cidVal x, .int .i64 k, .bool true] = _; unfold cidVal; rw [hv]; rfl)
    generalize (⟨(s.data.toList.drop 1).toArray⟩ : ByteArray) = S1 at *
    generalize (⟨(s.data.toList.drop (1 + m)).toArray⟩ : ByteArray) = S2 at *
    generalize (⟨x.dig.toArray⟩ : ByteArray) = D at *
    rw [HR.out]
    clear hd hz e1 e2 e3 hk hv HR hkl
    generalize (x.codec : Int) = v1 at *
    generalize (x.code : Int) = v2 at *
    rcases hF with hn2 | ⟨hn2, x0, x1, i0, i1, h18 | ⟨h18, h32⟩⟩
    all_goals
      go_enter Tryd.func25, Tryd.ntmps25
      go_wp2_with fail
      refine (C1 _).out.mono ?_
      rintro e w1 ⟨rfl, hb⟩
      have b1 := below_next b0 hb
      have O1 := O0.below hb
      clear hb
      go_wp2_with fail
      refine (C2 _).out.mono ?_
      rintro e w2 ⟨rfl, hb⟩
      have b2 := below_next b1 hb
      have O2 := O1.below hb
      clear hb
      go_wp2_with fail
      refine (C3 _).out.mono ?_
      rintro e w3 ⟨rfl, hb⟩
      have b3 := below_next b2 hb
      have O3 := O2.below hb
      clear hb
      have bb := b3
      obtain ⟨⟨k0, k1, k2, k3⟩, f0, f1, f2, f3⟩ := O3.cells
      have HO := Lib.hid O3.row
      clear O3
      go_wp2
      refine bodyPost_ret (results_row_tmp2 rfl _ _ (w.heap.size) 26 #[.int .u64 1, .int .u64 v1, .int .u64 v2, .string D] (0, 0) _ rfl (set4 HO.out _ _ _ _) Tryd.underlying26 rfl (by kernel_rfl)) rfl ?_
      exact ⟨by rw [← HK.out]; rfl, below_set4 bb (Nat.le_refl _) _ _ _ _⟩

theorem readCid_any (s : ByteArray) (w : World) (hm : s.size ≤ 2147483600) :
    Calls Tryd.prog 25 #[.string s] w fun e w' => e = .returned (rdSpec (cidRd s.data.toList)) ∧ Below w.heap.size w w' := by
  by_cases hz : cidZero s.data.toList
  · exact readCid_zero s w hm hz
  · cases hd : cidRd s.data.toList with
    | none => rw [← hd]; exact readCid_none s w hm hz hd
    | some y => obtain ⟨x, k⟩ := y; rw [← hd]; exact readCid_one s w hm hz x k hd
end Go.Proofs.YthldlpggconmcaaDoorR
