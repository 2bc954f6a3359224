/- FnMhBack's walk: a multihash that is written is taken apart to its code and its digest, and read out of a text whatever stands behind it. -/
import Derived.Test.YticnifjmicipnaaDoorMhC
namespace Go.Proofs.YticnifjmicipnaaDoor
open Go.RowKit


set_option maxRecDepth 100000 in
set_option maxHeartbeats 1000000 in
theorem law_MhBack (code : Nat) (d more : ByteArray) (hcode : code < 18446744073709551616) (w : World) (hd : d.size ≤ 9223372036854775807) (hmo : more.size ≤ 9223372036854775807) (hu : MhS w) :
    Calls Tryd.prog 7 #[.int .u64 code, .string d, .string more] w fun e w' => e = .returned (.bool true) ∧ Below w.heap.size w w' := by
  obtain ⟨a, ha⟩ : ∃ a : Int, a = (code : Int) := ⟨_, rfl⟩
  rw [← ha]
  by_cases z1 : 2147483647 < d.size
  · go_enter Tryd.func7, Tryd.ntmps7
    go_wp2
    go_ret
    exact ⟨rfl, Below.refl _ _⟩
  by_cases z2 : 2147483647 < more.size
  · go_enter Tryd.func7, Tryd.ntmps7
    go_wp2
    go_ret
    exact ⟨rfl, Below.refl _ _⟩
  by_cases z3 : 9223372036854775808 ≤ code
  · have z3' : a ≥ 9223372036854775808 := by omega
    clear ha hcode z3
    go_enter Tryd.func7, Tryd.ntmps7
    go_wp2
    go_ret
    exact ⟨rfl, Below.refl _ _⟩
  have z3' : a < 9223372036854775808 := by omega
  by_cases z4 : 4096 < d.size
  · clear ha hcode z3
    go_enter Tryd.func7, Tryd.ntmps7
    go_wp2
    go_ret
    exact ⟨rfl, Below.refl _ _⟩
  by_cases z5 : 4096 < more.size
  · clear ha hcode z3
    go_enter Tryd.func7, Tryd.ntmps7
    go_wp2
    go_ret
    exact ⟨rfl, Below.refl _ _⟩
  have hl : (mhEnc code d.data.toList).length ≤ 20 + d.size := by
    have h1 := Lib.uvarint_length64 hcode
    have h2 := Lib.uvarint_length64 (x := d.data.toList.length) (by rw [ba_len]; omega)
    rw [mhEnc_length, ba_len] at *
    omega
  have hS : (⟨(mhEnc code d.data.toList).toArray⟩ : ByteArray).size = (mhEnc code d.data.toList).length := by show (mhEnc code d.data.toList).toArray.size = _; simp
  have hSL : (⟨(mhEnc code d.data.toList).toArray⟩ : ByteArray).data.toList = mhEnc code d.data.toList := rfl
  have hr0 := mhRd_enc code d.data.toList [] (by omega) (by rw [ba_len]; omega)
  have hr1 := mhRd_enc code d.data.toList more.data.toList (by omega) (by rw [ba_len]; omega)
  rw [List.append_nil] at hr0
  rw [← hS] at hr0 hr1 hl
  have he := iMhEncode_any d w (by omega) code hcode
  rw [← ha] at he
  generalize (⟨(mhEnc code d.data.toList).toArray⟩ : ByteArray) = S at *
  rw [← hSL] at hr0 hr1
  have hA : (S ++ more).data.toList = S.data.toList ++ more.data.toList := ba_append _ _
  have hAs : (S ++ more).size = S.size + more.size := by
    have h := congrArg List.length hA
    rw [ba_len, List.length_append, ba_len, ba_len] at h; exact h
  rw [← hA] at hr1
  have HE := Lib.hid he
  have HAs := Lib.hid hAs
  have H0 := Lib.hid hr0
  have H1 := Lib.hid hr1
  have HA := Lib.hid ha
  clear he hAs hr0 hr1 hS hSL hA ha hcode z3
  by_cases hm : more.size = 0
  · have hne2 : more.toList.isEmpty = true := by
      rw [ByteArray.toList_eq]
      cases h : more.data.toList with
      | nil => rfl
      | cons x r => exact absurd (by rw [← ba_len, h] at hm; simp at hm) id
    have H2 := Lib.hid (show mhRd (S ++ more).data.toList = some ((S ++ more).size, code, d.data.toList) by rw [HAs.out, hm]; exact H1.out)
    go_enter Tryd.func7, Tryd.ntmps7
    go_wp2_with fail
    refine HE.out.mono ?_
    rintro e w1 ⟨rfl, hb1⟩
    have hu1 := hu.below hb1
    go_wp2_with fail
    refine (iMhDecode_ok S w1 (by omega) hu1 code _ H0.out).mono ?_
    rw [ba_mk, ← HA.out]
    rintro e w2 ⟨rfl, hb2⟩
    have hu2 := hu1.below hb2
    go_wp2_with fail
    refine (iMhRead_ok _ w2 (by rw [HAs.out]; omega) hu2 _ _ _ H1.out (by rw [HAs.out]; omega)).mono ?_
    rintro e w3 ⟨rfl, hb3⟩
    have hu3 := hu2.below hb3
    go_wp2_with fail
    refine (iMhDecode_ok _ w3 (by rw [HAs.out]; omega) hu3 code d.data.toList H2.out).mono ?_
    rw [ba_mk, ← HA.out]
    rintro e w4 ⟨rfl, hb4⟩
    go_wp2
    go_ret
    exact ⟨rfl, below_next (below_next (below_next hb1 hb2) hb3) hb4⟩
  · have hne2 : more.toList.isEmpty = false := by
      rw [ByteArray.toList_eq]
      cases h : more.data.toList with
      | nil => exact absurd (by rw [← ba_len, h]; rfl) hm
      | cons => rfl
    go_enter Tryd.func7, Tryd.ntmps7
    go_wp2_with fail
    refine HE.out.mono ?_
    rintro e w1 ⟨rfl, hb1⟩
    have hu1 := hu.below hb1
    go_wp2_with fail
    refine (iMhDecode_ok S w1 (by omega) hu1 code _ H0.out).mono ?_
    rw [ba_mk, ← HA.out]
    rintro e w2 ⟨rfl, hb2⟩
    have hu2 := hu1.below hb2
    go_wp2_with fail
    refine (iMhRead_ok _ w2 (by rw [HAs.out]; omega) hu2 _ _ _ H1.out (by rw [HAs.out]; omega)).mono ?_
    rintro e w3 ⟨rfl, hb3⟩
    have hu3 := hu2.below hb3
    go_wp2_with fail
    refine (iMhDecode_bad _ w3 (by rw [HAs.out]; omega) hu3 (fun code' d' h => by
      rw [H1.out] at h
      injection h with h
      injection h with h _
      rw [HAs.out] at h
      omega)).mono ?_
    rintro e w4 ⟨rfl, hb4⟩
    go_wp2
    go_ret
    exact ⟨rfl, below_next (below_next (below_next hb1 hb2) hb3) hb4⟩
end Go.Proofs.YticnifjmicipnaaDoor
