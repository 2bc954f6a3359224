/- FnC2Cut's walk: fewer than 40 bytes of a header of version 2 are none; the 40 bytes of one are one. -/
import Derived.Test.YticnifjmicipnaaDoorC2K
namespace Go.Proofs.YticnifjmicipnaaDoor
open Go.RowKit

theorem extract_size_min (s : ByteArray) (k : Nat) (h : k ≤ s.size) : (s.extract 0 k).size = k := by
  rw [ByteArray.size_extract]; omega
theorem one_ok : hdOk (hdEnc 0 0 51 1 52) 0 := by
  unfold hdOk leAt
  decide

set_option maxRecDepth 100000 in
set_option maxHeartbeats 1000000 in
theorem law_C2Cut (a b c d e n : Nat) (ha : a < 18446744073709551616) (hb : b < 18446744073709551616) (hc : c < 18446744073709551616) (hd : d < 18446744073709551616) (he : e < 18446744073709551616) (hn : n < 256) (w : World) (e0 e1 : Addr) (hio : IoS w e0 e1) :
    Calls Tryd.prog 3 #[.agg #[.int .u64 a, .int .u64 b, .int .u64 c, .int .u64 d, .int .u64 e], .int .u8 n] w fun e' w' => e' = .returned (.bool true) ∧ Below w.heap.size w w' := by
  obtain ⟨H, hH⟩ : ∃ H : ByteArray, H = ⟨(hdEnc a b c d e).toArray⟩ := ⟨_, rfl⟩
  have hsz : H.size = 40 := by rw [hH]; show (hdEnc a b c d e).toArray.size = 40; rw [List.size_toArray, hdEnc_len]
  obtain ⟨H1, hH1⟩ : ∃ H : ByteArray, H = ⟨(hdEnc 0 0 51 1 52).toArray⟩ := ⟨_, rfl⟩
  have hsz1 : H1.size = 40 := by rw [hH1]; show (hdEnc 0 0 51 1 52).toArray.size = 40; rw [List.size_toArray, hdEnc_len]
  have hW : Below w.heap.size w (w.alloc (.cells #[.int .u64 a, .int .u64 b, .int .u64 c, .int .u64 d, .int .u64 e] 24)) := (Below.refl _ _).alloc (Nat.le_refl _) _
  have C1 := Lib.hid (headBytes_any a b c d e ha hb hc hd he (w.alloc (.cells #[.int .u64 a, .int .u64 b, .int .u64 c, .int .u64 d, .int .u64 e] 24)))
  rw [← hH] at C1
  have C2 : ∀ k w, k < 40 → IoS w e0 e1 → Hid (Calls Tryd.prog 9 #[.string (H.extract 0 k)] w fun e w' => e = .returned (.tuple #[.agg #[.int .u64 0, .int .u64 0, .int .u64 0, .int .u64 0, .int .u64 0], .int .i64 0, .bool false]) ∧ Below w.heap.size w w') :=
    fun k w hk hi => Lib.hid (iC2Read_short _ w (by rw [extract_size_min _ _ (by omega)]; exact hk) e0 e1 hi)
  have C3 : ∀ w, Hid (Calls Tryd.prog 10 #[.int .u64 1] w fun e' w' => e' = .returned (.agg #[.int .u64 0, .int .u64 0, .int .u64 51, .int .u64 1, .int .u64 52]) ∧ Below w.heap.size w w') := fun w => Lib.hid (newHead_any 1 (by omega) w)
  have C4 : ∀ w, Hid (Calls Tryd.prog 8 #[.agg #[.int .u64 0, .int .u64 0, .int .u64 51, .int .u64 1, .int .u64 52]] w fun e' w' => e' = .returned (.string H1) ∧ Below w.heap.size w w') := fun w => Lib.hid (by rw [hH1]; exact headBytes_any 0 0 51 1 52 (by decide) (by decide) (by decide) (by decide) (by decide) w)
  have C5 : ∀ w, Hid (Calls Tryd.prog 9 #[.string H1] w fun e w' => (∃ a b c d e', e = .returned (.tuple #[.agg #[.int .u64 a, .int .u64 b, .int .u64 c, .int .u64 d, .int .u64 e'], .int .i64 40, .bool true])) ∧ Below w.heap.size w w') :=
    fun w => Lib.hid ((iC2Read_ok H1 w (by rw [hsz1]; decide) (by rw [hH1]; exact one_ok)).mono fun e w' ⟨h, k⟩ => ⟨⟨_, _, _, _, _, h⟩, k⟩)
  have HIO := Lib.hid hio
  have HW := Lib.hid hW
  obtain ⟨k, hk⟩ : ∃ k, k = n % 40 := ⟨_, rfl⟩
  have hk40 : k < 40 := by omega
  have ht : (wrap64 (n : Int)).tmod 40 = (k : Int) := by
    rw [i64_below n (by omega), hk, Int.tmod_eq_emod_of_nonneg (by omega)]; omega
  clear hH hH1 ha hb hc hd he hio hW hk hsz1 hn
  go_enter Tryd.func3, Tryd.ntmps3
  go_wp2_with fail
  refine C1.out.mono ?_
  rintro e w1 ⟨rfl, hb1⟩
  go_wp2_with fail
  have hA1 : Below w.heap.size w w1 := below_next HW.out hb1
  refine (C2 k w1 hk40 (HIO.out.below hA1)).out.mono ?_
  rintro e w2 ⟨rfl, hb2⟩
  have hA2 := below_next hA1 hb2
  clear C1 C2 hb1
  go_wp2_with fail
  have hA3 : Below w.heap.size w (w2.alloc hdZ) := hA2.alloc hA2.size _
  refine (C3 (w2.alloc hdZ)).out.mono ?_
  rintro e w3 ⟨rfl, hb3⟩
  have hA4 := below_next hA3 hb3
  go_wp2_with fail
  refine (C4 w3).out.mono ?_
  rintro e w4 ⟨rfl, hb4⟩
  have hA5 := below_next hA4 hb4
  go_wp2_with fail
  refine (C5 w4).out.mono ?_
  rintro e w5 ⟨⟨y0, y1, y2, y3, y4, rfl⟩, hb5⟩
  have hA6 := below_next hA5 hb5
  clear C3 C4 C5 hb3 hb4 hb5 hA5 hA4 hA3
  go_wp2
  go_ret
  exact ⟨rfl, hA6.alloc hA6.size _⟩
end Go.Proofs.YticnifjmicipnaaDoor
