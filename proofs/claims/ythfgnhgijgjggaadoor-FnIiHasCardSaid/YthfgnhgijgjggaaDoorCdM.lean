/- Contracts of package cid: Bytes, Hash, Prefix of an identifier's bytes. -/
import Derived.Test.YthfgnhgijgjggaaDoorCdL
import Derived.Test.YthfgnhgijgjggaaDoorCdB
namespace Go.Proofs.YthfgnhgijgjggaaDoor
open Go.RowKit

section
variable {P : Program}
/-- 's[k:]' of a string. -/
theorem run_str_from {t : TypeId} (ht : P.underlying t = some .string) (s : ByteArray) (k : Nat) (hk : k ≤ s.size) (x : Int) (hx : x = k) (W : World) :
    (Instr.slice t (.string s) (some (.int .i64 x)) none none).run P W = .ok (.string ⟨(s.data.toList.drop k).toArray⟩) W := by
  subst hx
  rw [run_slice_string_l W t s ht .i64 (k : Int) (by omega) (by omega), Int.toNat_natCast]
  congr 2
  apply ByteArray.ext
  apply Array.toList_inj.1
  rw [Lib.extract_data]
  show _ = s.data.toList.drop k
  rw [List.take_of_length_le]
  rw [List.length_drop, ba_len]; omega
end

/-- A slice that holds the bytes l. -/
def HasBytes (l : List UInt8) (e : Ending) (w' : World) : Prop := ∃ A n c, e = .returned (.slice A n c) ∧ BS w' (.slice A n c) l

set_option maxRecDepth 100000 in
set_option maxHeartbeats 2000000 in
theorem cdBytes (s : ByteArray) (w : World) (h : 0 < s.size) :
    Calls Tryd.prog 77 #[.agg #[.string s]] w fun e w' => HasBytes s.data.toList e w' ∧ Below w.heap.size w w' := by
  have hA : Below w.heap.size w (w.alloc (.cells #[.string s] 80)) := (Below.refl _ _).alloc (Nat.le_refl _) _
  have hr0 := heap_alloc_new w (.cells #[.string s] 80)
  have HD := Lib.hid (cdDefined s (w.alloc (.cells #[.string s] 80)) h)
  go_enter Tryd.func77, Tryd.ntmps77
  go_wp2_with fail
  refine HD.out.mono ?_
  rintro e w1 ⟨rfl, hb1⟩
  have hb := below_next hA hb1
  have c0 := cell_of_row' (cur := [_]) (row_below hb1 (block_of_row hr0) hr0) 0
  obtain ⟨c, w2, hconv, hb2, hbs⟩ := conv_in w1 s
  have HBS := Lib.hid hbs
  clear hbs hr0 HD hA h
  go_wp2
  go_ret
  exact ⟨⟨some ⟨w1.heap.size, 0, none⟩, _, c, rfl, HBS.out⟩, below_next hb hb2⟩

/-- An identifier's bytes as a string. -/
structure CidStr (s : ByteArray) (x : CidD) : Prop where
  eq : s.data.toList = cidEnc x
  tidy : x.tidy
  fits : x.dig.length ≤ 2147483600

theorem CidStr.size {s : ByteArray} {x : CidD} (h : CidStr s x) : 2 ≤ s.size ∧ s.size ≤ 2147483640 := by
  have := cidEnc_length_le x h.tidy (by have := h.fits; omega)
  rw [← h.eq, ba_len] at this
  have := h.fits
  omega
theorem CidStr.rd {s : ByteArray} {x : CidD} (h : CidStr s x) : cidRd s.data.toList = some (x, s.size) := by
  have := cidRd_enc0 x h.tidy (by have := h.fits; omega)
  rw [← h.eq, ba_len] at this
  exact this

theorem CidStr.v0 {s : ByteArray} {x : CidD} (h : CidStr s x) (hz : x.ver = 0) : s.size = 34 ∧ cidZero s.data.toList ∧ s.data.toList = mhEnc 18 x.dig ∧ x = ⟨0, 112, 18, x.dig⟩ ∧ x.dig.length = 32 := by
  obtain ⟨v, codec, code, d⟩ := x
  have he := h.eq
  rcases h.tidy with ⟨h0, h1, h2, h3⟩ | ⟨h0, _, _⟩
  · simp only at h0 h1 h2 h3 hz
    subst h0 h1 h2
    have e : s.data.toList = mhEnc 18 d := he
    have e2 := e
    rw [mhEnc_18 d h3] at e2
    refine ⟨?_, ?_, e, rfl, h3⟩
    · rw [← ba_len, e2]; simp [h3]
    · rw [e2]; exact ⟨by simp [h3], rfl, rfl⟩
  · simp only at h0 hz; omega

theorem CidStr.v1 {s : ByteArray} {x : CidD} (h : CidStr s x) (hz : x.ver ≠ 0) : ¬ cidZero s.data.toList ∧ s.data.toList = 1 :: (Lib.uvarint x.codec ++ mhEnc x.code x.dig) ∧ x.ver = 1 ∧ x.codec < 9223372036854775808 ∧ x.code < 9223372036854775808 := by
  obtain ⟨v, codec, code, d⟩ := x
  have he := h.eq
  rcases h.tidy with ⟨h0, h1, h2, h3⟩ | ⟨h0, h1, h2⟩
  · simp only at h0 hz; omega
  · simp only at h0 h1 h2 hz
    subst h0
    have e : s.data.toList = 1 :: (Lib.uvarint codec ++ mhEnc code d) := he
    exact ⟨by rw [e]; exact not_zero_one _, e, rfl, h1, h2⟩

/-- Which digest's multihash an identifier holds. -/
theorem hash_v0 {s : ByteArray} {x : CidD} (h : CidStr s x) (hz : x.ver = 0) : s.data.toList = mhEnc x.code x.dig := by
  obtain ⟨_, _, e, hx, _⟩ := h.v0 hz
  rw [e, hx]

set_option maxRecDepth 100000 in
set_option maxHeartbeats 4000000 in
theorem cdHash (s : ByteArray) (x : CidD) (h : CidStr s x) (w : World) (hu : UvS w) :
    Calls Tryd.prog 43 #[.agg #[.string s]] w fun e w' => HasBytes (mhEnc x.code x.dig) e w' ∧ Below w.heap.size w w' := by
  have hA : Below w.heap.size w (w.alloc (.cells #[.string s] 80)) := (Below.refl _ _).alloc (Nat.le_refl _) _
  have hr0 := heap_alloc_new w (.cells #[.string s] 80)
  obtain ⟨z2, zM⟩ := h.size
  have HB := Lib.hid (cdBytes s (w.alloc (.cells #[.string s] 80)) (by omega))
  by_cases hz : x.ver = 0
  · obtain ⟨h34, hcz, _⟩ := h.v0 hz
    have he := hash_v0 h hz
    rw [← he]
    have HV := fun W => Lib.hid (cdVer0 s W h34 hcz)
    have HR0 := Lib.hid hr0
    clear h hz h34 hcz he hu hr0 z2 zM
    generalize s.data.toList = L at *
    go_enter Tryd.func43, Tryd.ntmps43
    go_wp2_with fail
    refine HB.out.mono ?_
    rintro e w1 ⟨⟨A, N, c, rfl, hbs⟩, hb1⟩
    have hb := below_next hA hb1
    have HBS := Lib.hid hbs
    have c0 := cell_of_row' (cur := [_]) (row_below hb1 (block_of_row HR0.out) HR0.out) 0
    clear hbs HB hA
    go_wp2_with fail
    refine (HV w1).out.mono ?_
    rintro e w2 ⟨rfl, hb2⟩
    go_wp2
    go_ret
    exact ⟨⟨A, N, c, rfl, HBS.out.below hb2⟩, below_next hb hb2⟩
  · obtain ⟨hcz, e1, _, h63, h63'⟩ := h.v1 hz
    have HV := fun W => Lib.hid (cdVer1 s W (fun hh => hcz hh.2))
    have d1 : uvDec s.data.toList = .ok 1 1 := by rw [e1]; exact uvDec_one _
    have e2 : s.data.toList.drop 1 = Lib.uvarint x.codec ++ mhEnc x.code x.dig := by rw [e1]; rfl
    have d2 : uvDec (s.data.toList.drop 1) = .ok x.codec (Lib.uvarint x.codec).length := by rw [e2]; exact uvDec_back _ h63 _
    have e3 : s.data.toList.drop (1 + (Lib.uvarint x.codec).length) = mhEnc x.code x.dig := by rw [← List.drop_drop, e2, List.drop_left]
    have hln : s.data.toList.length = 1 + ((Lib.uvarint x.codec).length + (mhEnc x.code x.dig).length) := by rw [e1]; simp; omega
    have hln2 := ba_len s
    have hul := Lib.uvarint_length64 (x := x.codec) (by omega)
    obtain ⟨m, hm⟩ : ∃ m, m = (Lib.uvarint x.codec).length := ⟨_, rfl⟩
    rw [← hm] at d2 e3 hln hul
    have HD1 := Lib.hid d1
    have HD2 := Lib.hid d2
    have HE3 := Lib.hid e3
    have HLN := Lib.hid hln
    have HLN2 := Lib.hid hln2
    have HR0 := Lib.hid hr0
    clear h hz hcz e1 e2 e3 d1 d2 hr0 hm hln hln2
    generalize mhEnc x.code x.dig = M at *
    generalize x.codec = cdc at *
    generalize hL : s.data.toList = L at *
    obtain ⟨N, hN⟩ : ∃ N, N = L.length := ⟨_, rfl⟩
    have HN := Lib.hid hN
    have bN : N ≤ 2147483640 := by rw [hN, HLN2.out]; exact zM
    have bN1 : 1 + m ≤ N := by rw [hN, HLN.out]; omega
    have bNM : N - (1 + m) = M.length := by rw [hN, HLN.out]; omega
    have HNM := Lib.hid bNM
    clear hN hL z2 zM bNM
    go_enter Tryd.func43, Tryd.ntmps43
    go_wp2_with fail
    refine HB.out.mono ?_
    rintro e w1 ⟨⟨A, N', c, rfl, hbs⟩, hb1⟩
    obtain rfl : N = N' := HN.out.trans hbs.slice.1.symm
    have hb := below_next hA hb1
    have HBS := Lib.hid hbs
    have c0 := cell_of_row' (cur := [_]) (row_below hb1 (block_of_row HR0.out) HR0.out) 0
    clear hbs HB hA
    go_wp2_with fail
    refine (HV w1).out.mono ?_
    rintro e w2 ⟨rfl, hb2⟩
    have hb' := below_next hb hb2
    have hbs2 := HBS.out.below hb2
    have C1 := Lib.hid (fromUv_ok A N c L w2 hbs2 (by rw [← HN.out]; omega) (hu.below hb') 1 1 HD1.out)
    obtain ⟨r1, hs2⟩ := hbs2.from_ (P := Tryd.prog) Tryd.underlying43 info_u8 1 (by omega)
    have C2 : ∀ W, Below w2.heap.size w2 W → Hid (Calls Tryd.prog 79 #[.slice (cutA A c 1) (N - 1) (c - 1)] W fun e w' => e = .returned (.tuple #[.int .u64 cdc, .int .i64 m, .nilIface]) ∧ Below W.heap.size W w') := fun W hb =>
      Lib.hid (fromUv_ok _ _ _ _ W (hs2.below hb) (by rw [List.length_drop, ← HN.out]; omega) ((hu.below hb').below hb) cdc m HD2.out)
    obtain ⟨r2, hs3⟩ := hbs2.from_ (P := Tryd.prog) Tryd.underlying43 info_u8 (1 + m) (by omega)
    rw [HE3.out, HNM.out] at hs3
    rw [HNM.out] at r2
    have em : ((1 + m : Nat) : Int) = 1 + (m : Int) := by omega
    rw [em] at r2
    rw [show ((1 : Nat) : Int) = 1 from rfl] at r1 C1
    have HS3 := Lib.hid hs3
    clear hs2 hs3 em hbs2 HBS c0 hb2
    generalize cutA A c (1 + m) = A2 at *
    generalize cutA A c 1 = A1 at *
    generalize N - 1 = N1 at *
    generalize c - 1 = c1 at *
    generalize c - (1 + m) = c2 at *
    generalize hML : M.length = ML at *
    have HML := Lib.hid hML
    clear hML
    go_wp2_with fail
    refine C1.out.mono ?_
    rintro e w3 ⟨rfl, hb3⟩
    go_wp2_with fail
    refine (C2 w3 hb3).out.mono ?_
    rintro e w4 ⟨rfl, hb4⟩
    go_wp2
    go_ret
    exact ⟨⟨A2, ML, c2, rfl, HS3.out.below (below_next hb3 hb4)⟩, below_next hb' (below_next hb3 hb4)⟩
end Go.Proofs.YthfgnhgijgjggaaDoor
