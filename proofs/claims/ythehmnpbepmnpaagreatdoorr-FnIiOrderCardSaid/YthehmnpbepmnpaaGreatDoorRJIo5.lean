/- Contracts, joined (CdB CdM CdN CdO CdP CdQ EqS CdR SpA). -/
import Derived.Test.YthehmnpbepmnpaaGreatDoorRJIo3
import Derived.Test.YthehmnpbepmnpaaGreatDoorRJIo4
import Derived.StillTailTactics
import Derived.Laws.StructEq
/- Contracts of package cid: uvarint of a string; Bytes. -/
namespace Go.Proofs.YthehmnpbepmnpaaGreatDoorR
open Go.RowKit

theorem ret3_eq {Y M : Int} {x m : Nat} (h : Y = x) (h2 : M = m) : Ending.returned (.tuple #[.int .u64 Y, .int .i64 M, .nilIface]) = .returned (.tuple #[.int .u64 x, .int .i64 m, .nilIface]) := by
  rw [h, h2]

set_option maxRecDepth 100000 in
set_option maxHeartbeats 1000000 in
/-- A varint that can be read of the string's beginning. -/
theorem cdUv_ok (s : ByteArray) (w : World) (x m : Nat) (hd : uvDec s.data.toList = .ok x m) (hm : s.size ≤ 9223372036854775807) :
    Calls Tryz.prog 109 #[.string s] w fun e w' => e = .returned (.tuple #[.int .u64 x, .int .i64 m, .nilIface]) ∧ Below w.heap.size w w' := by
  have hlen : s.data.toList.length = s.size := ba_len s
  have HL := Lib.hid hlen
  have HD := Lib.hid hd
  clear hlen hd
  go_enter Tryz.func109, Tryz.ntmps109
  go_wp2
  go_loop [5, 6, 7] (fun x' sh i => ∃ (k X : Nat), k ≤ s.size ∧ k ≤ 9 ∧ X < 2 ^ (7 * k) ∧ i = .int .i64 k ∧ sh = .int .u64 (7 * k : Nat) ∧ x' = .int .u64 X ∧ Hid (uvGo k X (s.data.toList.drop k) = .ok x m)) (fun _ _ i => s.size - (intOf i).toNat)
  case atStart => exact ⟨0, 0, by omega, by omega, by decide, rfl, rfl, rfl, Lib.hid HD.out⟩
  case round =>
    obtain ⟨k, X, hk, hk10, hX, rfl, rfl, rfl, hd⟩ := hrel
    by_cases hlt : k < s.size
    · have hlt' : k < s.data.toList.length := by rw [HL.out]; exact hlt
      obtain ⟨c, hc⟩ : ∃ c, s.data.toList[k]? = some c := ⟨_, List.getElem?_eq_getElem hlt'⟩
      have hidx := fun W => idx_ba (P := Tryz.prog) Tryz.underlying9 s k c hc k rfl W
      have hb : c.toNat < 256 := UInt8.toNat_lt _
      have hstep : uvGo k X (s.data.toList.drop k) = (if (k = 8 ∧ 128 ≤ c.toNat) ∨ 9 ≤ k then .over
          else if c.toNat < 128 then (if c.toNat = 0 ∧ 0 < k then .notMin else .ok (X + c.toNat * 2 ^ (7 * k)) (k + 1))
          else uvGo (k + 1) (X + (c.toNat % 128) * 2 ^ (7 * k)) (s.data.toList.drop (k + 1))) := by
        have e : s.data.toList[k] = c := (List.getElem?_eq_some_iff.1 hc).2
        rw [List.drop_eq_getElem_cons hlt', uvGo, e]
      have hd2 := hd.out
      rw [hstep] at hd2
      clear hstep hc hlt' hd
      by_cases h9 : (k = 8 ∧ 128 ≤ c.toNat) ∨ 9 ≤ k
      · rw [if_pos h9] at hd2; cases hd2
      rw [if_neg h9] at hd2
      have hk9 : k ≤ 8 := by omega
      have hkk : ((k : Int) > 9) = False := by simp; omega
      have hkb : ¬ (k : Int) > 9 := by omega
      have hk9e : ((k : Int) == 9) = false := by rw [beq_eq_false_iff_ne]; omega
      clear hkk
      generalize hB : c.toNat = B at *
      clear hB
      by_cases hlo : B < 128
      · rw [if_pos hlo] at hd2
        by_cases hz : B = 0 ∧ 0 < k
        · rw [if_pos hz] at hd2; cases hd2
        rw [if_neg hz] at hd2
        injection hd2 with e1 e2
        have hor := Lib.hid (uv_or k X B hk9 hX hlo)
        have E1 := Lib.hid e1
        have E2 := Lib.hid e2
        clear e1 e2 h9
        by_cases hB0 : B = 0
        · subst hB0
          have hk0 : k = 0 := by omega
          subst hk0
          clear hor
          have hor0 : Hid (bits .or .u64 (X : Int) 0 = (X : Nat)) := Lib.hid (by rw [u64_orv0 _ _ (by omega) (by omega) (by omega) (by omega) (by omega)]; omega)
          clear hz
          simp only [Int.natCast_zero] at hidx
          go_wp2
          go_ret3
          exact ⟨ret3_eq (by rw [hor0.out, ← E1.out]; simp) (by rw [← E2.out]; rfl), Below.refl _ _⟩
        · have hB0' : ((B : Int) == 0) = false := by simp; omega
          clear hz
          go_wp2
          go_ret3
          exact ⟨ret3_eq (by rw [hor.out, ← E1.out]) (by rw [← E2.out]; omega), Below.refl _ _⟩
      · rw [if_neg hlo] at hd2
        have hfin := Lib.hid hd2
        clear hd2
        have hk8 : k ≤ 7 := by omega
        clear h9
        have hor := Lib.hid (uv_or_and k X B hk9 hX hb)
        have hlt2 := uv_step_lt k X (B % 128) hX (by omega)
        go_wp2
        exact ⟨⟨k + 1, X + B % 128 * 2 ^ (7 * k), by omega, by omega, hlt2, by go_num, by go_num, by rw [hor.out], hfin⟩, by simp [intOf]; omega⟩
    · exfalso
      have hkn : k = s.data.toList.length := by rw [HL.out]; omega
      have hd2 := hd.out
      rw [hkn, List.drop_length] at hd2
      cases hd2

end Go.Proofs.YthehmnpbepmnpaaGreatDoorR
/- Contracts of package cid: Bytes, Hash, Prefix of an identifier's bytes. -/
namespace Go.Proofs.YthehmnpbepmnpaaGreatDoorR
open Go.RowKit

section
variable {P : Program}
/-- 's[k:]' of a string. -/
theorem run_str_from {t : TypeId} (ht : P.underlying t = some .string) (s : ByteArray) (k : Nat) (hk : k ≤ s.size) (x : Int) (hx : x = k) (W : World) :
    (Instr.slice t (.string s) (some (.int .i64 x)) none none).run P W = .ok (.string ⟨(s.data.toList.drop k).toArray⟩) W := by
  subst hx
  rw [run_slice_string_l W t s ht .i64 (k : Int) (by omega) (by omega), Int.toNat_natCast]
  congr 2
  apply ByteArray.ext
  apply Array.toList_inj.1
  rw [Lib.extract_data]
  show _ = s.data.toList.drop k
  rw [List.take_of_length_le]
  rw [List.length_drop, ba_len]; omega
end

/-- A slice that holds the bytes l. -/
def HasBytes (l : List UInt8) (e : Ending) (w' : World) : Prop := ∃ A n c, e = .returned (.slice A n c) ∧ BS w' (.slice A n c) l

set_option maxRecDepth 100000 in
set_option maxHeartbeats 2000000 in
theorem cdBytes (s : ByteArray) (w : World) (h : 0 < s.size) :
    Calls Tryz.prog 111 #[.agg #[.string s]] w fun e w' => HasBytes s.data.toList e w' ∧ Below w.heap.size w w' := by
  have hA : Below w.heap.size w (w.alloc (.cells #[.string s] 82)) := (Below.refl _ _).alloc (Nat.le_refl _) _
  have hr0 := heap_alloc_new w (.cells #[.string s] 82)
  have HD := Lib.hid (cdDefined s (w.alloc (.cells #[.string s] 82)) h)
  go_enter Tryz.func111, Tryz.ntmps111
  go_wp2_with fail
  refine HD.out.mono ?_
  rintro e w1 ⟨rfl, hb1⟩
  have hb := below_next hA hb1
  have c0 := cell_of_row' (cur := [_]) (row_below hb1 (block_of_row hr0) hr0) 0
  obtain ⟨c, w2, hconv, hb2, hbs⟩ := conv_in w1 s
  have HBS := Lib.hid hbs
  clear hbs hr0 HD hA h
  go_wp2
  go_ret
  exact ⟨⟨some ⟨w1.heap.size, 0, none⟩, _, c, rfl, HBS.out⟩, below_next hb hb2⟩

/-- An identifier's bytes as a string. -/
structure CidStr (s : ByteArray) (x : CidD) : Prop where
  eq : s.data.toList = cidEnc x
  tidy : x.tidy
  fits : x.dig.length ≤ 2147483600

theorem CidStr.size {s : ByteArray} {x : CidD} (h : CidStr s x) : 2 ≤ s.size ∧ s.size ≤ 2147483640 := by
  have := cidEnc_length_le x h.tidy (by have := h.fits; omega)
  rw [← h.eq, ba_len] at this
  have := h.fits
  omega
theorem CidStr.rd {s : ByteArray} {x : CidD} (h : CidStr s x) : cidRd s.data.toList = some (x, s.size) := by
  have := cidRd_enc0 x h.tidy (by have := h.fits; omega)
  rw [← h.eq, ba_len] at this
  exact this

theorem CidStr.v0 {s : ByteArray} {x : CidD} (h : CidStr s x) (hz : x.ver = 0) : s.size = 34 ∧ cidZero s.data.toList ∧ s.data.toList = mhEnc 18 x.dig ∧ x = ⟨0, 112, 18, x.dig⟩ ∧ x.dig.length = 32 := by
  obtain ⟨v, codec, code, d⟩ := x
  have he := h.eq
  rcases h.tidy with ⟨h0, h1, h2, h3⟩ | ⟨h0, _, _⟩
  · simp only at h0 h1 h2 h3 hz
    subst h0 h1 h2
    have e : s.data.toList = mhEnc 18 d := he
    have e2 := e
    rw [mhEnc_18 d h3] at e2
    refine ⟨?_, ?_, e, rfl, h3⟩
    · rw [← ba_len, e2]; simp [h3]
    · rw [e2]; exact ⟨by simp [h3], rfl, rfl⟩
  · simp only at h0 hz; omega

theorem CidStr.v1 {s : ByteArray} {x : CidD} (h : CidStr s x) (hz : x.ver ≠ 0) : ¬ cidZero s.data.toList ∧ s.data.toList = 1 :: (Lib.uvarint x.codec ++ mhEnc x.code x.dig) ∧ x.ver = 1 ∧ x.codec < 9223372036854775808 ∧ x.code < 9223372036854775808 := by
  obtain ⟨v, codec, code, d⟩ := x
  have he := h.eq
  rcases h.tidy with ⟨h0, h1, h2, h3⟩ | ⟨h0, h1, h2⟩
  · simp only at h0 hz; omega
  · simp only at h0 h1 h2 hz
    subst h0
    have e : s.data.toList = 1 :: (Lib.uvarint codec ++ mhEnc code d) := he
    exact ⟨by rw [e]; exact not_zero_one _, e, rfl, h1, h2⟩

/-- Which digest's multihash an identifier holds. -/
theorem hash_v0 {s : ByteArray} {x : CidD} (h : CidStr s x) (hz : x.ver = 0) : s.data.toList = mhEnc x.code x.dig := by
  obtain ⟨_, _, e, hx, _⟩ := h.v0 hz
  rw [e, hx]

set_option maxRecDepth 100000 in
set_option maxHeartbeats 4000000 in
theorem cdHash (s : ByteArray) (x : CidD) (h : CidStr s x) (w : World) (hu : UvS w) :
    Calls Tryz.prog 74 #[.agg #[.string s]] w fun e w' => HasBytes (mhEnc x.code x.dig) e w' ∧ Below w.heap.size w w' := by
  have hA : Below w.heap.size w (w.alloc (.cells #[.string s] 82)) := (Below.refl _ _).alloc (Nat.le_refl _) _
  have hr0 := heap_alloc_new w (.cells #[.string s] 82)
  obtain ⟨z2, zM⟩ := h.size
  have HB := Lib.hid (cdBytes s (w.alloc (.cells #[.string s] 82)) (by omega))
  by_cases hz : x.ver = 0
  · obtain ⟨h34, hcz, _⟩ := h.v0 hz
    have he := hash_v0 h hz
    rw [← he]
    have HV := fun W => Lib.hid (cdVer0 s W h34 hcz)
    have HR0 := Lib.hid hr0
    clear h hz h34 hcz he hu hr0 z2 zM
    generalize s.data.toList = L at *
    go_enter Tryz.func74, Tryz.ntmps74
    go_wp2_with fail
    refine HB.out.mono ?_
    rintro e w1 ⟨⟨A, N, c, rfl, hbs⟩, hb1⟩
    have hb := below_next hA hb1
    have HBS := Lib.hid hbs
    have c0 := cell_of_row' (cur := [_]) (row_below hb1 (block_of_row HR0.out) HR0.out) 0
    clear hbs HB hA
    go_wp2_with fail
    refine (HV w1).out.mono ?_
    rintro e w2 ⟨rfl, hb2⟩
    go_wp2
    go_ret
    exact ⟨⟨A, N, c, rfl, HBS.out.below hb2⟩, below_next hb hb2⟩
  · obtain ⟨hcz, e1, _, h63, h63'⟩ := h.v1 hz
    have HV := fun W => Lib.hid (cdVer1 s W (fun hh => hcz hh.2))
    have d1 : uvDec s.data.toList = .ok 1 1 := by rw [e1]; exact uvDec_one _
    have e2 : s.data.toList.drop 1 = Lib.uvarint x.codec ++ mhEnc x.code x.dig := by rw [e1]; rfl
    have d2 : uvDec (s.data.toList.drop 1) = .ok x.codec (Lib.uvarint x.codec).length := by rw [e2]; exact uvDec_back _ h63 _
    have e3 : s.data.toList.drop (1 + (Lib.uvarint x.codec).length) = mhEnc x.code x.dig := by rw [← List.drop_drop, e2, List.drop_left]
    have hln : s.data.toList.length = 1 + ((Lib.uvarint x.codec).length + (mhEnc x.code x.dig).length) := by rw [e1]; simp; omega
    have hln2 := ba_len s
    have hul := Lib.uvarint_length64 (x := x.codec) (by omega)
    obtain ⟨m, hm⟩ : ∃ m, m = (Lib.uvarint x.codec).length := ⟨_, rfl⟩
    rw [← hm] at d2 e3 hln hul
    have HD1 := Lib.hid d1
    have HD2 := Lib.hid d2
    have HE3 := Lib.hid e3
    have HLN := Lib.hid hln
    have HLN2 := Lib.hid hln2
    have HR0 := Lib.hid hr0
    clear h hz hcz e1 e2 e3 d1 d2 hr0 hm hln hln2
    generalize mhEnc x.code x.dig = M at *
    generalize x.codec = cdc at *
    generalize hL : s.data.toList = L at *
    obtain ⟨N, hN⟩ : ∃ N, N = L.length := ⟨_, rfl⟩
    have HN := Lib.hid hN
    have bN : N ≤ 2147483640 := by rw [hN, HLN2.out]; exact zM
    have bN1 : 1 + m ≤ N := by rw [hN, HLN.out]; omega
    have bNM : N - (1 + m) = M.length := by rw [hN, HLN.out]; omega
    have HNM := Lib.hid bNM
    clear hN hL z2 zM bNM
    go_enter Tryz.func74, Tryz.ntmps74
    go_wp2_with fail
    refine HB.out.mono ?_
    rintro e w1 ⟨⟨A, N', c, rfl, hbs⟩, hb1⟩
    obtain rfl : N = N' := HN.out.trans hbs.slice.1.symm
    have hb := below_next hA hb1
    have HBS := Lib.hid hbs
    have c0 := cell_of_row' (cur := [_]) (row_below hb1 (block_of_row HR0.out) HR0.out) 0
    clear hbs HB hA
    go_wp2_with fail
    refine (HV w1).out.mono ?_
    rintro e w2 ⟨rfl, hb2⟩
    have hb' := below_next hb hb2
    have hbs2 := HBS.out.below hb2
    have C1 := Lib.hid (fromUv_ok A N c L w2 hbs2 (by rw [← HN.out]; omega) (hu.below hb') 1 1 HD1.out)
    obtain ⟨r1, hs2⟩ := hbs2.from_ (P := Tryz.prog) Tryz.underlying98 info_u8 1 (by omega)
    have C2 : ∀ W, Below w2.heap.size w2 W → Hid (Calls Tryz.prog 112 #[.slice (cutA A c 1) (N - 1) (c - 1)] W fun e w' => e = .returned (.tuple #[.int .u64 cdc, .int .i64 m, .nilIface]) ∧ Below W.heap.size W w') := fun W hb =>
      Lib.hid (fromUv_ok _ _ _ _ W (hs2.below hb) (by rw [List.length_drop, ← HN.out]; omega) ((hu.below hb').below hb) cdc m HD2.out)
    obtain ⟨r2, hs3⟩ := hbs2.from_ (P := Tryz.prog) Tryz.underlying98 info_u8 (1 + m) (by omega)
    rw [HE3.out, HNM.out] at hs3
    rw [HNM.out] at r2
    have em : ((1 + m : Nat) : Int) = 1 + (m : Int) := by omega
    rw [em] at r2
    rw [show ((1 : Nat) : Int) = 1 from rfl] at r1 C1
    have HS3 := Lib.hid hs3
    clear hs2 hs3 em hbs2 HBS c0 hb2
    generalize cutA A c (1 + m) = A2 at *
    generalize cutA A c 1 = A1 at *
    generalize N - 1 = N1 at *
    generalize c - 1 = c1 at *
    generalize c - (1 + m) = c2 at *
    generalize hML : M.length = ML at *
    have HML := Lib.hid hML
    clear hML
    go_wp2_with fail
    refine C1.out.mono ?_
    rintro e w3 ⟨rfl, hb3⟩
    go_wp2_with fail
    refine (C2 w3 hb3).out.mono ?_
    rintro e w4 ⟨rfl, hb4⟩
    go_wp2
    go_ret
    exact ⟨⟨A2, ML, c2, rfl, HS3.out.below (below_next hb3 hb4)⟩, below_next hb' (below_next hb3 hb4)⟩
end Go.Proofs.YthehmnpbepmnpaaGreatDoorR
/- Contracts: (cid.Cid).Prefix, impl.cidOut. -/
namespace Go.Proofs.YthehmnpbepmnpaaGreatDoorR
open Go.RowKit

set_option maxRecDepth 100000 in
set_option maxHeartbeats 4000000 in
theorem cdPrefix_v0 (s : ByteArray) (x : CidD) (h : CidStr s x) (hz : x.ver = 0) (w : World) :
    Calls Tryz.prog 72 #[.agg #[.string s]] w fun e w' => e = .returned (.agg #[.int .u64 0, .int .u64 112, .int .u64 18, .int .i64 32]) ∧ Below w.heap.size w w' := by
  have hA : Below w.heap.size w ((w.alloc (.cells #[.string s] 82)).alloc (.cells #[.int .u64 0, .int .u64 0, .int .u64 0, .int .i64 0] 157)) := ((Below.refl _ _).alloc (Nat.le_refl _) _).alloc (by simp) _
  obtain ⟨h34, hcz, _⟩ := h.v0 hz
  have HV := fun W => Lib.hid (cdVer0 s W h34 hcz)
  have HR1 := Lib.hid (heap_alloc2_new w (.cells #[.string s] 82) (.cells #[.int .u64 0, .int .u64 0, .int .u64 0, .int .i64 0] 157))
  clear h34 hcz h hz
  go_enter Tryz.func72, Tryz.ntmps72
  go_wp2_with fail
  refine (HV _).out.mono ?_
  rintro e w1 ⟨rfl, hb1⟩
  have hb := below_next hA hb1
  have hr := row_below hb1 (block_of_row HR1.out) HR1.out
  have c0 := cell_of_row' (cur := [_, _, _, _]) hr 0
  have c1 := cell_of_row' (cur := [_, _, _, _]) hr 1
  have c2 := cell_of_row' (cur := [_, _, _, _]) hr 2
  have c3 := cell_of_row' (cur := [_, _, _, _]) hr 3
  have f0 := frozen_of_row' (cur := [_, _, _, _]) hr 0
  have f1 := frozen_of_row' (cur := [_, _, _, _]) hr 1
  have f2 := frozen_of_row' (cur := [_, _, _, _]) hr 2
  have f3 := frozen_of_row' (cur := [_, _, _, _]) hr 3
  have HR := Lib.hid hr
  clear hr hA HV HR1
  go_wp2
  refine bodyPost_ret (results_cell_row rfl _ _ (w.heap.size + 1) 157 #[.int .u64 0, .int .u64 112, .int .u64 18, .int .i64 32] (0, 0) _ rfl (by simp [World.setCell, Array.getElem?_modify, HR.out]) Tryz.underlying157 rfl (by kernel_rfl)) rfl ?_
  exact ⟨rfl, (((hb.setCell (by show w.heap.size ≤ w.heap.size + 1; omega) _).setCell (by show w.heap.size ≤ w.heap.size + 1; omega) _).setCell (by show w.heap.size ≤ w.heap.size + 1; omega) _).setCell (by show w.heap.size ≤ w.heap.size + 1; omega) _⟩

set_option maxRecDepth 100000 in
set_option maxHeartbeats 4000000 in
theorem cdPrefix_v1 (s : ByteArray) (x : CidD) (h : CidStr s x) (hz : x.ver ≠ 0) (w : World) :
    Calls Tryz.prog 72 #[.agg #[.string s]] w fun e w' => e = .returned (.agg #[.int .u64 1, .int .u64 x.codec, .int .u64 x.code, .int .i64 x.dig.length]) ∧ Below w.heap.size w w' := by
  have hA : Below w.heap.size w ((w.alloc (.cells #[.string s] 82)).alloc (.cells #[.int .u64 0, .int .u64 0, .int .u64 0, .int .i64 0] 157)) := ((Below.refl _ _).alloc (Nat.le_refl _) _).alloc (by simp) _
  obtain ⟨hcz, e1, _, h63, h63'⟩ := h.v1 hz
  have HV := fun W => Lib.hid (cdVer1 s W (fun hh => hcz hh.2))
  have HR0 := Lib.hid (heap_alloc2_old w (.cells #[.string s] 82) (.cells #[.int .u64 0, .int .u64 0, .int .u64 0, .int .i64 0] 157))
  have HR1 := Lib.hid (heap_alloc2_new w (.cells #[.string s] 82) (.cells #[.int .u64 0, .int .u64 0, .int .u64 0, .int .i64 0] 157))
  have hfit := h.fits
  obtain ⟨z2, zM⟩ := h.size
  obtain ⟨m, hm⟩ : ∃ m, m = (Lib.uvarint x.codec).length := ⟨_, rfl⟩
  obtain ⟨k, hk⟩ : ∃ k, k = (Lib.uvarint x.code).length := ⟨_, rfl⟩
  have lm := Lib.uvarint_length64 (x := x.codec) (by omega)
  have lk := Lib.uvarint_length64 (x := x.code) (by omega)
  rw [← hm] at lm
  rw [← hk] at lk
  have hsz : s.size = 1 + (m + (k + ((Lib.uvarint x.dig.length).length + x.dig.length))) := by
    rw [← ba_len, e1]; unfold mhEnc; simp only [List.length_cons, List.length_append]; omega
  have D0 : uvDec (s.data.toList.drop 0) = .ok 1 1 := by rw [e1]; exact uvDec_one _
  have D1 : uvDec (s.data.toList.drop 1) = .ok x.codec m := by rw [e1, hm]; exact uvDec_back _ h63 _
  have E2 : s.data.toList.drop (1 + m) = Lib.uvarint x.code ++ (Lib.uvarint x.dig.length ++ x.dig) := by rw [e1, ← List.drop_drop, hm]; show (Lib.uvarint x.codec ++ mhEnc x.code x.dig).drop _ = _; rw [List.drop_left]; rfl
  have D2 : uvDec (s.data.toList.drop (1 + m)) = .ok x.code k := by rw [E2, hk]; exact uvDec_back _ h63' _
  have D3 : uvDec (s.data.toList.drop (1 + m + k)) = .ok x.dig.length (Lib.uvarint x.dig.length).length := by rw [← List.drop_drop, E2, hk, List.drop_left]; exact uvDec_back _ (by omega) _
  have T0 := fun W => run_str_from (P := Tryz.prog) Tryz.underlying9 s 0 (by omega) 0 rfl W
  have T1 := fun W => run_str_from (P := Tryz.prog) Tryz.underlying9 s 1 (by omega) 1 rfl W
  have T2 := fun W => run_str_from (P := Tryz.prog) Tryz.underlying9 s (1 + m) (by omega) (1 + (m : Int)) (by omega) W
  have T3 := fun W => run_str_from (P := Tryz.prog) Tryz.underlying9 s (1 + m + k) (by omega) (1 + (m : Int) + k) (by omega) W
  have U : ∀ j y q, uvDec (s.data.toList.drop j) = .ok y q → ∀ W, Hid (Calls Tryz.prog 109 #[.string ⟨(s.data.toList.drop j).toArray⟩] W fun e w' => e = .returned (.tuple #[.int .u64 y, .int .i64 q, .nilIface]) ∧ Below W.heap.size W w') := fun j y q hd W =>
    Lib.hid (cdUv_ok ⟨(s.data.toList.drop j).toArray⟩ W y q hd (by show (s.data.toList.drop j).toArray.size ≤ _; rw [List.size_toArray, List.length_drop, ba_len]; omega))
  have U0 := U 0 _ _ D0
  have U1 := U 1 _ _ D1
  have U2 := U (1 + m) _ _ D2
  have U3 := U (1 + m + k) _ _ D3
  have hw : wrap64 (x.dig.length : Int) = (x.dig.length : Int) := by unfold wrap64; omega
  rw [show ((1 : Nat) : Int) = 1 from rfl] at U0
  clear U D0 D1 D2 D3 E2 e1 hcz h hz hsz hm hk z2 zM h63 h63'
  generalize (Lib.uvarint x.dig.length).length = q at *
  generalize (⟨(s.data.toList.drop 0).toArray⟩ : ByteArray) = S0 at *
  generalize (⟨(s.data.toList.drop 1).toArray⟩ : ByteArray) = S1 at *
  generalize (⟨(s.data.toList.drop (1 + m)).toArray⟩ : ByteArray) = S2 at *
  generalize (⟨(s.data.toList.drop (1 + m + k)).toArray⟩ : ByteArray) = S3 at *
  generalize x.codec = cdc at *
  generalize x.code = code at *
  generalize x.dig.length = dl at *
  go_enter Tryz.func72, Tryz.ntmps72
  go_wp2_with fail
  refine (HV _).out.mono ?_
  rintro e w1 ⟨rfl, hb1⟩
  have hb := below_next hA hb1
  have r0 := row_below hb1 (block_of_row HR0.out) HR0.out
  have r1 := row_below hb1 (block_of_row HR1.out) HR1.out
  have c0 := cell_of_row' (cur := [_]) r0 0
  have HR := Lib.hid r1
  have HRR := Lib.hid r0
  clear r0 r1 hA HV HR0 HR1 hb1
  go_wp2_with fail
  refine (U0 _).out.mono ?_
  rintro e w2 ⟨rfl, hb2⟩
  have q0 := row_below hb2 (block_of_row HRR.out) HRR.out
  have c0 := cell_of_row' (cur := [_]) q0 0
  have Q0 := Lib.hid q0
  clear q0
  go_wp2_with fail
  refine (U1 _).out.mono ?_
  rintro e w3 ⟨rfl, hb3⟩
  have q0 := row_below hb3 (block_of_row Q0.out) Q0.out
  have c0 := cell_of_row' (cur := [_]) q0 0
  have Q1 := Lib.hid q0
  clear q0
  go_wp2_with fail
  refine (U2 _).out.mono ?_
  rintro e w4 ⟨rfl, hb4⟩
  have q0 := row_below hb4 (block_of_row Q1.out) Q1.out
  have c0 := cell_of_row' (cur := [_]) q0 0
  clear q0
  go_wp2_with fail
  refine (U3 _).out.mono ?_
  rintro e w5 ⟨rfl, hb5⟩
  have hb25 := below_next (below_next (below_next hb2 hb3) hb4) hb5
  have hb' := below_next hb hb25
  have hr := row_below hb25 (block_of_row HR.out) HR.out
  have d0 := cell_of_row' (cur := [_, _, _, _]) hr 0
  have d1 := cell_of_row' (cur := [_, _, _, _]) hr 1
  have d2 := cell_of_row' (cur := [_, _, _, _]) hr 2
  have d3 := cell_of_row' (cur := [_, _, _, _]) hr 3
  have f0 := frozen_of_row' (cur := [_, _, _, _]) hr 0
  have f1 := frozen_of_row' (cur := [_, _, _, _]) hr 1
  have f2 := frozen_of_row' (cur := [_, _, _, _]) hr 2
  have f3 := frozen_of_row' (cur := [_, _, _, _]) hr 3
  have HR5 := Lib.hid hr
  clear hr hb25 hb2 hb3 hb4 hb5 Q0 Q1 HR HRR U0 U1 U2 U3
  go_wp2
  refine bodyPost_ret (results_cell_row rfl _ _ (w.heap.size + 1) 157 #[.int .u64 1, .int .u64 cdc, .int .u64 code, .int .i64 dl] (0, 0) _ rfl (by simp [World.setCell, Array.getElem?_modify, HR5.out]) Tryz.underlying157 rfl (by kernel_rfl)) rfl ?_
  exact ⟨rfl, (((hb'.setCell (by show w.heap.size ≤ w.heap.size + 1; omega) _).setCell (by show w.heap.size ≤ w.heap.size + 1; omega) _).setCell (by show w.heap.size ≤ w.heap.size + 1; omega) _).setCell (by show w.heap.size ≤ w.heap.size + 1; omega) _⟩

theorem cdPrefix (s : ByteArray) (x : CidD) (h : CidStr s x) (w : World) :
    Calls Tryz.prog 72 #[.agg #[.string s]] w fun e w' => e = .returned (.agg #[.int .u64 x.ver, .int .u64 x.codec, .int .u64 x.code, .int .i64 x.dig.length]) ∧ Below w.heap.size w w' := by
  by_cases hz : x.ver = 0
  · obtain ⟨_, _, _, hx, hl⟩ := h.v0 hz
    have := cdPrefix_v0 s x h hz w
    rw [hl, hx]
    exact this
  · obtain ⟨_, _, hv, _⟩ := h.v1 hz
    have := cdPrefix_v1 s x h hz w
    rw [hv]
    exact this
end Go.Proofs.YthehmnpbepmnpaaGreatDoorR
/- Contracts: impl.cidOut. -/
namespace Go.Proofs.YthehmnpbepmnpaaGreatDoorR
open Go.RowKit

abbrev outZ : Obj := .cells #[.int .u64 0, .int .u64 0, .int .u64 0, .string ⟨#[]⟩] 25

set_option maxRecDepth 100000 in
set_option maxHeartbeats 8000000 in
theorem cidOut_ok (s : ByteArray) (x : CidD) (h : CidStr s x) (w : World) (hu : UvS w) :
    Calls Tryz.prog 36 #[.agg #[.string s]] w fun e w' => e = .returned (.agg #[.int .u64 x.ver, .int .u64 x.codec, .int .u64 x.code, .string ⟨x.dig.toArray⟩]) ∧ Below w.heap.size w w' := by
  have hA : Below w.heap.size w ((w.alloc (.cells #[.string s] 82)).alloc outZ) := ((Below.refl _ _).alloc (Nat.le_refl _) _).alloc (by simp) _
  have HR0 := Lib.hid (heap_alloc2_old w (.cells #[.string s] 82) outZ)
  have HR1 := Lib.hid (heap_alloc2_new w (.cells #[.string s] 82) outZ)
  have HP := fun W => Lib.hid (cdPrefix s x h W)
  have HH := fun W (hb : Below w.heap.size w W) => Lib.hid (cdHash s x h W (hu.below hb))
  have hfit := h.fits
  have hcode : x.code < 9223372036854775808 := by rcases h.tidy with ⟨_, _, h2, _⟩ | ⟨_, _, h2⟩ <;> omega
  have hmr := mhRd_enc x.code x.dig [] hcode (by omega)
  rw [List.append_nil] at hmr
  have hml := (mhEnc_len_le x.code x.dig (by omega) (by omega)).2
  have HMR := Lib.hid hmr
  clear h hcode hmr
  generalize mhEnc x.code x.dig = M at *
  generalize hdl : (x.dig.length : Int) = dl at HP
  have HDL := Lib.hid hdl
  clear hdl
  generalize (x.ver : Int) = v0 at *
  generalize (x.codec : Int) = v1 at *
  generalize hS : (⟨x.dig.toArray⟩ : ByteArray) = S at *
  have HSS := Lib.hid hS
  clear hS
  go_enter Tryz.func36, Tryz.ntmps36
  go_wp2_with fail
  refine (HP _).out.mono ?_
  rintro e w1 ⟨rfl, hb1⟩
  have hb := below_next hA hb1
  have r0 := row_below hb1 (block_of_row HR0.out) HR0.out
  have r1 := row_below hb1 (block_of_row HR1.out) HR1.out
  have hz1 : w.heap.size + 2 ≤ w1.heap.size := by have := hb1.size; simpa using this
  obtain ⟨w2, hw2⟩ : ∃ w2, w2 = w1.alloc (.cells #[.int .u64 v0, .int .u64 v1, .int .u64 x.code, .int .i64 dl] 157) := ⟨_, rfl⟩
  have hb12 : Below w1.heap.size w1 w2 := by rw [hw2]; exact (Below.refl _ _).alloc (Nat.le_refl _) _
  have r2 : w2.heap[w1.heap.size]? = some (.cells #[.int .u64 v0, .int .u64 v1, .int .u64 x.code, .int .i64 dl] 157 (0, 0)) := by rw [hw2]; exact heap_alloc_new _ _
  have c0 : (w1.alloc (.cells #[.int .u64 v0, .int .u64 v1, .int .u64 x.code, .int .i64 dl] 157)).cell? ⟨w.heap.size, 0, none⟩ = some (.string s) := by rw [← hw2]; exact cell_of_row' (cur := [_]) (row_below hb12 (block_of_row r0) r0) 0
  have hb2 := below_next hb hb12
  have HR2 := Lib.hid r2
  have HRO := Lib.hid (row_below hb12 (block_of_row r1) r1)
  have HC := HH w2 hb2
  rw [hw2] at HC
  have HW2 := Lib.hid hw2
  clear hw2 r0 r1 r2 hb1 HH hA HR0 HR1 hb hb12 HP
  go_wp2_with fail
  refine HC.out.mono ?_
  rw [← HW2.out]
  rintro e w3 ⟨⟨A, n, c, rfl, hbs⟩, hb3⟩
  have hb3' := below_next hb2 hb3
  have hnM := hbs.slice.1
  have hmr := HMR.out
  rw [← hnM] at hmr
  obtain ⟨A', c', hs', hc⟩ := Decode_ok A n c M w3 hbs (by rw [← hnM]; omega) (hu.below hb3') x.code x.dig hmr
  have HC3 := Lib.hid (hc w3 (Below.refl _ _))
  have HS3 := Lib.hid hs'
  clear hc hs' hmr hbs hnM c0 HC
  go_wp2_with fail
  refine HC3.out.mono ?_
  rintro e w4 ⟨⟨g, rfl, hg, hrow⟩, hb4⟩
  have hb34 := below_next hb3 hb4
  have hb4' := below_next hb2 hb34
  have ro := row_below hb34 (block_of_row HRO.out) HRO.out
  have rp := row_below hb34 (block_of_row HR2.out) HR2.out
  have p0 := cell_of_row' (cur := [_, _, _, _]) rp 0
  have p1 := cell_of_row' (cur := [_, _, _, _]) rp 1
  have g0 : w4.cell? ⟨g, 0, none⟩ = some (.int .u64 x.code) := by simp [World.cell?, hrow]
  have g3 : w4.cell? ⟨g, 3, none⟩ = some (.slice A' x.dig.length c') := by simp [World.cell?, hrow]
  have hcv : ∀ q, (convert 98 9 (.slice A' x.dig.length c')).run Tryz.prog (w4.drewN q) = .ok (.string ⟨x.dig.toArray⟩) (w4.drewN q) := fun q =>
    (((HS3.out.below hb4).drewN q).str Tryz.underlying98 Tryz.underlying5 Tryz.underlying9)
  rw [HSS.out] at hcv
  have HO := Lib.hid ro
  clear hrow rp ro HC3 HS3 HRO HR2 HW2 HMR HDL
  generalize x.dig.length = D at *
  have hcvd : (convert 98 9 (.slice A' D c')).run Tryz.prog w4.drew = .ok (.string S) w4.drew := hcv 1
  clear hcv
  go_wp2_with fail
  go_still_tail 14, (by kernel_rfl)
  change wpList _ _ _ _ _ w4.drew
  have k0 : w4.drew.cell? ⟨w.heap.size + 1, 0, none⟩ = _ := cell_of_row' (cur := [_, _, _, _]) HO.out 0
  have k1 : w4.drew.cell? ⟨w.heap.size + 1, 1, none⟩ = _ := cell_of_row' (cur := [_, _, _, _]) HO.out 1
  have k2 : w4.drew.cell? ⟨w.heap.size + 1, 2, none⟩ = _ := cell_of_row' (cur := [_, _, _, _]) HO.out 2
  have k3 : w4.drew.cell? ⟨w.heap.size + 1, 3, none⟩ = _ := cell_of_row' (cur := [_, _, _, _]) HO.out 3
  have f0 : w4.drew.frozen? ⟨w.heap.size + 1, 0, none⟩ = _ := frozen_of_row' (cur := [_, _, _, _]) HO.out 0
  have f1 : w4.drew.frozen? ⟨w.heap.size + 1, 1, none⟩ = _ := frozen_of_row' (cur := [_, _, _, _]) HO.out 1
  have f2 : w4.drew.frozen? ⟨w.heap.size + 1, 2, none⟩ = _ := frozen_of_row' (cur := [_, _, _, _]) HO.out 2
  have f3 : w4.drew.frozen? ⟨w.heap.size + 1, 3, none⟩ = _ := frozen_of_row' (cur := [_, _, _, _]) HO.out 3
  have HO5 : Hid (w4.drew.heap[w.heap.size + 1]? = some outZ) := HO
  have hb5 : Below w.heap.size w w4.drew := hb4'.drewN 1
  clear HO p0 p1 g0 g3 hcvd hb34 hb4 hb3 hb4' hb3'
  generalize w4.drew = w5 at *
  go_wp2
  refine bodyPost_ret (results_cell_row rfl _ _ (w.heap.size + 1) 25 #[.int .u64 v0, .int .u64 v1, .int .u64 x.code, .string S] (0, 0) _ rfl (by simp [World.setCell, Array.getElem?_modify, HO5.out]) Tryz.underlying25 rfl (by kernel_rfl)) rfl ?_
  exact ⟨rfl, (((hb5.setCell (by show w.heap.size ≤ w.heap.size + 1; omega) _).setCell (by show w.heap.size ≤ w.heap.size + 1; omega) _).setCell (by show w.heap.size ≤ w.heap.size + 1; omega) _).setCell (by show w.heap.size ≤ w.heap.size + 1; omega) _⟩
end Go.Proofs.YthehmnpbepmnpaaGreatDoorR
/- Contracts: cid.Cast; impl.CdRead, impl.CdCast. -/
namespace Go.Proofs.YthehmnpbepmnpaaGreatDoorR
open Go.RowKit

section
variable {P : Program}
theorem results_row_tmp2 {fn : Func} {p u u2 : Tmp} {ty : TypeId} (h : fn.results = #[.cell p ty, .tmp u, .tmp u2]) (tmps : Array Value) (w : World) (g : Nat) (t : TypeId) (cs : Array Value) (fr : Nat × Nat) (d : TypeDesc)
    (hp : tmps.getD p undef = .pointer (some ⟨g, 0, none⟩)) (hg : w.heap[g]? = some (.cells cs t fr))
    (hu : P.underlying ty = some d) (hd : (match d with | .struct _ | .array _ _ => true | _ => false) = true) (hi : (P.info? ty).map (·.size) = some cs.size) :
    (results fn tmps).run P w = .ok (.tuple #[.agg cs, tmps.getD u undef, tmps.getD u2 undef]) w := by
  have hp' : tmps[p]?.getD undef = .pointer (some ⟨g, 0, none⟩) := by simpa using hp
  simp only [results, h]
  simp [Result.andThen, hp', asAddr, run_loadVar_row w g t ty cs fr d hg hu hd hi]
end

theorem cidStr_rd {l : List UInt8} {x : CidD} {k : Nat} (h : cidRd l = some (x, k)) (hl : l.length ≤ 2147483600) : CidStr ⟨(cidEnc x).toArray⟩ x := by
  obtain ⟨_, _, ht, _⟩ := cidRd_take h
  have := cidRd_dig h
  exact ⟨rfl, ht, by omega⟩

set_option maxRecDepth 100000 in
set_option maxHeartbeats 4000000 in
theorem cast_ok (A : Option Addr) (n c : Nat) (l : List UInt8) (w : World) (hs : BS w (.slice A n c) l) (hm : l.length ≤ 2147483647) (hu : CdS w) (x : CidD) (hd : cidRd l = some (x, n)) :
    Calls Tryz.prog 171 #[.slice A n c] w fun e w' => e = .returned (.tuple #[.agg #[.string ⟨(cidEnc x).toArray⟩], .nilIface]) ∧ Below w.heap.size w w' := by
  have hA : Below w.heap.size w (w.alloc cidZ) := (Below.refl _ _).alloc (Nat.le_refl _) _
  have hr0 := Lib.hid (heap_alloc_new w cidZ)
  have HC := Lib.hid (cidFrom_ok A n c l _ (hs.below hA) hm (hu.below hA) x n hd)
  have hn : n ≤ 2147483647 := by have := hs.slice.1; omega
  clear hs hu hd hm
  generalize (⟨(cidEnc x).toArray⟩ : ByteArray) = S at *
  go_enter Tryz.func171, Tryz.ntmps171
  go_wp2_with fail
  refine HC.out.mono ?_
  rintro e w1 ⟨rfl, hb1⟩
  have hb := below_next hA hb1
  have hz1 : w.heap.size + 1 ≤ w1.heap.size := by have := hb1.size; simpa using this
  have r0 := row_below hb1 (block_of_row hr0.out) hr0.out
  have k0 := fun o => cell_of_row' (cur := [_]) (row_alloc r0 o) 0
  have f0 := fun o => frozen_of_row' (cur := [_]) (row_alloc r0 o) 0
  have R0 := Lib.hid r0
  clear HC hA hr0 r0 hb1
  go_wp2
  refine bodyPost_ret (results_row_tmp rfl _ _ (w.heap.size) 82 #[.string S] (0, 0) _ rfl (Lib.heap_setCell_same (i := 0) (row_alloc R0.out _) (.string S)) Tryz.underlying82 rfl (by kernel_rfl)) rfl ?_
  exact ⟨rfl, (hb.alloc (by omega) _).setCell (by exact Nat.le_refl _) _⟩

set_option maxRecDepth 100000 in
set_option maxHeartbeats 4000000 in
theorem cast_none (A : Option Addr) (n c : Nat) (l : List UInt8) (w : World) (hs : BS w (.slice A n c) l) (hm : l.length ≤ 2147483647) (hu : CdS w) (hd : cidRd l = none) :
    Calls Tryz.prog 171 #[.slice A n c] w fun e w' => CidBad e ∧ Below w.heap.size w w' := by
  have hA : Below w.heap.size w (w.alloc cidZ) := (Below.refl _ _).alloc (Nat.le_refl _) _
  have hr0 := Lib.hid (heap_alloc_new w cidZ)
  have HC := Lib.hid (cidFrom_no A n c l _ (hs.below hA) hm (hu.below hA) hd)
  obtain ⟨us, hus⟩ := (hu.below hA).undef
  have HUS := Lib.hid hus
  have hlt : 7 < w.heap.size := by obtain ⟨s, h⟩ := hu.undef; exact block_of_cell h
  clear hs hu hd hm hus
  go_enter Tryz.func171, Tryz.ntmps171
  go_wp2_with fail
  refine HC.out.mono ?_
  rintro e w1 ⟨⟨S, t, p, rfl⟩, hb1⟩
  have hb := below_next hA hb1
  have hz1 : w.heap.size + 1 ≤ w1.heap.size := by have := hb1.size; simpa using this
  have r0 := row_below hb1 (block_of_row hr0.out) hr0.out
  have k0 := fun o => cell_of_row' (cur := [_]) (row_alloc r0 o) 0
  have f0 := fun o => frozen_of_row' (cur := [_]) (row_alloc r0 o) 0
  have hu1 := fun o => below_cell ((Below.refl w1.heap.size w1).alloc (Nat.le_refl _) o) (below_cell hb1 HUS.out)
  have R0 := Lib.hid r0
  clear HC hA hr0 r0 hb1
  go_wp2
  refine bodyPost_ret (results_row_tmp rfl _ _ (w.heap.size) 82 #[.string us] (0, 0) _ rfl (Lib.heap_setCell_same (i := 0) (row_alloc R0.out _) (.string us)) Tryz.underlying82 rfl (by kernel_rfl)) rfl ?_
  exact ⟨⟨_, _, _, rfl⟩, (hb.alloc (by omega) _).setCell (by exact Nat.le_refl _) _⟩

set_option maxRecDepth 100000 in
set_option maxHeartbeats 4000000 in
theorem cast_more (A : Option Addr) (n c : Nat) (l : List UInt8) (w : World) (hs : BS w (.slice A n c) l) (hm : l.length ≤ 2147483647) (hu : CdS w) (x : CidD) (k : Nat) (hd : cidRd l = some (x, k)) (hkn : k ≠ n) :
    Calls Tryz.prog 171 #[.slice A n c] w fun e w' => CidBad e ∧ Below w.heap.size w w' := by
  have hA : Below w.heap.size w (w.alloc cidZ) := (Below.refl _ _).alloc (Nat.le_refl _) _
  have hr0 := Lib.hid (heap_alloc_new w cidZ)
  have HC := Lib.hid (cidFrom_ok A n c l _ (hs.below hA) hm (hu.below hA) x k hd)
  obtain ⟨us, hus⟩ := (hu.below hA).undef
  have HUS := Lib.hid hus
  have hn : n ≤ 2147483647 := by have := hs.slice.1; omega
  have hne : ((k : Int) != n) = true := by rw [bne_iff_ne]; omega
  have hlt : 7 < w.heap.size := by obtain ⟨s, h⟩ := hu.undef; exact block_of_cell h
  clear hs hu hd hm hus hkn
  generalize (⟨(cidEnc x).toArray⟩ : ByteArray) = S at *
  go_enter Tryz.func171, Tryz.ntmps171
  go_wp2_with fail
  refine HC.out.mono ?_
  rintro e w1 ⟨rfl, hb1⟩
  have hb := below_next hA hb1
  have hz1 : w.heap.size + 1 ≤ w1.heap.size := by have := hb1.size; simpa using this
  have r0 := row_below hb1 (block_of_row hr0.out) hr0.out
  have hb2 : Below w1.heap.size w1 (w1.alloc (.cells #[.string S] 82)) := (Below.refl _ _).alloc (Nat.le_refl _) _
  have r2 := Lib.hid (row_below hb2 (block_of_row r0) r0)
  have u2 := Lib.hid (below_cell hb2 (below_cell hb1 HUS.out))
  have hb3 := Lib.hid (below_next hb hb2)
  clear HC hA hr0 r0 hb1 HUS
  go_wp2_with fail
  generalize w1.alloc (.cells #[.string S] 82) = w2 at *
  have v2 := u2.out
  go_region_with (go_at_call 120; refine (errorsNew _ w2.drew).mono ?_; rintro e w3 ⟨t, p, rfl, hb4⟩; have u3 := below_cell hb4 (show w2.drew.cell? _ = _ from u2.out); have r3 := row_below hb4 (show w.heap.size < w2.drew.heap.size from block_of_row r2.out) (show w2.drew.heap[w.heap.size]? = _ from r2.out); have k0 := cell_of_row' (cur := [_]) r3 0; have f0 := frozen_of_row' (cur := [_]) r3 0)
  all_goals
    go_wp2
    refine bodyPost_ret (results_row_tmp rfl _ _ (w.heap.size) 82 #[.string us] (0, 0) _ rfl (Lib.heap_setCell_same (i := 0) r3 (.string us)) Tryz.underlying82 rfl (by kernel_rfl)) rfl ?_
    exact ⟨⟨_, _, _, rfl⟩, ((hb3.out.drewN 1).trans (hb4.mono (hb3.out.drewN 1).size)).setCell (by exact Nat.le_refl _) _⟩

theorem cast_bad (A : Option Addr) (n c : Nat) (l : List UInt8) (w : World) (hs : BS w (.slice A n c) l) (hm : l.length ≤ 2147483647) (hu : CdS w) (hd : ∀ x, cidRd l ≠ some (x, n)) :
    Calls Tryz.prog 171 #[.slice A n c] w fun e w' => CidBad e ∧ Below w.heap.size w w' := by
  cases h : cidRd l with
  | none => exact cast_none A n c l w hs hm hu h
  | some y =>
    obtain ⟨x, k⟩ := y
    exact cast_more A n c l w hs hm hu x k h (fun e => hd x (by rw [h, e]))

/-- impl.Cid as zeros. -/
abbrev noCid : Value := .agg #[.int .u64 0, .int .u64 0, .int .u64 0, .string ⟨#[]⟩]
def cidVal (x : CidD) : Value := .agg #[.int .u64 x.ver, .int .u64 x.codec, .int .u64 x.code, .string ⟨x.dig.toArray⟩]

/-- What the walks need of a result's variable of type impl.Cid. -/
structure OutVar (w : World) (g : Nat) : Prop where
  row : w.heap[g]? = some outZ
theorem OutVar.cells {w : World} {g : Nat} (h : OutVar w g) : (w.cell? ⟨g, 0, none⟩ = some (.int .u64 0) ∧ w.cell? ⟨g, 1, none⟩ = some (.int .u64 0) ∧ w.cell? ⟨g, 2, none⟩ = some (.int .u64 0) ∧ w.cell? ⟨g, 3, none⟩ = some (.string ⟨#[]⟩)) ∧
    (w.frozen? ⟨g, 0, none⟩ = false ∧ w.frozen? ⟨g, 1, none⟩ = false ∧ w.frozen? ⟨g, 2, none⟩ = false ∧ w.frozen? ⟨g, 3, none⟩ = false) :=
  ⟨⟨cell_of_row' (cur := [_, _, _, _]) h.row 0, cell_of_row' (cur := [_, _, _, _]) h.row 1, cell_of_row' (cur := [_, _, _, _]) h.row 2, cell_of_row' (cur := [_, _, _, _]) h.row 3⟩,
    ⟨frozen_of_row' (cur := [_, _, _, _]) h.row 0, frozen_of_row' (cur := [_, _, _, _]) h.row 1, frozen_of_row' (cur := [_, _, _, _]) h.row 2, frozen_of_row' (cur := [_, _, _, _]) h.row 3⟩⟩
theorem OutVar.below {w w' : World} {g : Nat} (h : OutVar w g) (hb : Below w.heap.size w w') : OutVar w' g := ⟨row_below hb (block_of_row h.row) h.row⟩
theorem set4 {w : World} {g : Nat} {a b c d : Value} {t : TypeId} (h : w.heap[g]? = some (.cells #[a, b, c, d] t (0, 0))) (p q r s : Value) :
    ((((w.setCell ⟨g, 0, none⟩ p).setCell ⟨g, 1, none⟩ q).setCell ⟨g, 2, none⟩ r).setCell ⟨g, 3, none⟩ s).heap[g]? = some (.cells #[p, q, r, s] t (0, 0)) :=
  Lib.heap_setCell_same (i := 3) (Lib.heap_setCell_same (i := 2) (Lib.heap_setCell_same (i := 1) (Lib.heap_setCell_same (i := 0) h p) q) r) s
theorem below_set4 {B : Nat} {w w' : World} {g : Nat} (h : Below B w w') (hB : B ≤ g) (p q r s : Value) : Below B w ((((w'.setCell ⟨g, 0, none⟩ p).setCell ⟨g, 1, none⟩ q).setCell ⟨g, 2, none⟩ r).setCell ⟨g, 3, none⟩ s) :=
  (((h.setCell hB _).setCell hB _).setCell hB _).setCell hB _
end Go.Proofs.YthehmnpbepmnpaaGreatDoorR
/- Contracts: impl.CdRead, impl.CdCast; laws.cdOne. -/
namespace Go.Proofs.YthehmnpbepmnpaaGreatDoorR
open Go.RowKit

theorem conv_in' (w : World) (s : ByteArray) : ∃ A c w1, (convert 9 98 (.string s)).run Tryz.prog w = .ok (.slice A s.size c) w1 ∧ Below w.heap.size w w1 ∧ BS w1 (.slice A s.size c) s.data.toList := by
  obtain ⟨c, w1, h⟩ := conv_in w s
  exact ⟨_, c, w1, h⟩

theorem cidVal_eq (v0 v1 v2 : Int) (S : ByteArray) (x : CidD) (h0 : (x.ver : Int) = v0) (h1 : (x.codec : Int) = v1) (h2 : (x.code : Int) = v2) (hS : (⟨x.dig.toArray⟩ : ByteArray) = S) : cidVal x = .agg #[.int .u64 v0, .int .u64 v1, .int .u64 v2, .string S] := by
  subst h0 h1 h2 hS; rfl


end Go.Proofs.YthehmnpbepmnpaaGreatDoorR
/- '==' of two structs, field by field, as one Bool. No program in sight. -/
namespace Go.Proofs.YthehmnpbepmnpaaGreatDoorR
section
variable {P : Program} {d : Nat} {xs ys : Array Value} {f : Field} {fs : List Field} {a b : Value} {r s : Bool} {w : World}
theorem fields_last (hn : f.name ≠ "_") (ha : (part f.type xs f.offset).run P w = .ok a w) (hb : (part f.type ys f.offset).run P w = .ok b w) (he : (Op.equalIn d f.type a b).run P w = .ok r w) : (Op.eqFields d xs ys [f]).run P w = .ok r w := by
  simp only [Op.eqFields, if_pos hn, Sem.run_bind, ha, hb, he, Result.andThen_ok]
  cases r <;> simp
theorem fields_more (hn : f.name ≠ "_") (ha : (part f.type xs f.offset).run P w = .ok a w) (hb : (part f.type ys f.offset).run P w = .ok b w) (he : (Op.equalIn d f.type a b).run P w = .ok r w) (hr : (Op.eqFields d xs ys fs).run P w = .ok s w) : (Op.eqFields d xs ys (f :: fs)).run P w = .ok (r && s) w := by
  rw [Op.eqFields]
  simp only [if_pos hn, Sem.run_bind, ha, hb, he, Result.andThen_ok]
  cases r with
  | false => simp
  | true => simpa using hr
theorem structs_equal {t : TypeId} {fs : Array Field} (hu : P.underlying t = some (.struct fs)) (hp : P.stoodInHeld t = false) (h : (Op.eqFields d xs ys fs.toList).run P w = .ok r w) : (Op.equalIn (d + 1) t (.agg xs) (.agg ys)).run P w = .ok r w := by
  have hf : P.fieldsOf t = fs := by simp [Program.fieldsOf, hu]
  rw [run_equalIn_struct (P := P) w d t xs ys (by rw [hf]; exact hu) hp, hf]
  exact h
end
end Go.Proofs.YthehmnpbepmnpaaGreatDoorR
/- Contracts: spec.Tidy, laws.zzFits1, laws.cdGood, laws.cdOne; '==' of two identifiers. -/
namespace Go.Proofs.YthehmnpbepmnpaaGreatDoorR
open Go.RowKit

/-- '==' of two identifiers, field by field. -/
theorem run_eqCid (x0 x1 x2 y0 y1 y2 : Int) (s t : ByteArray) (w : World) (d : Nat) :
    (Op.equalIn (d + 2) 25 (.agg #[.int .u64 x0, .int .u64 x1, .int .u64 x2, .string s]) (.agg #[.int .u64 y0, .int .u64 y1, .int .u64 y2, .string t])).run Tryz.prog w = .ok (x0 == y0 && (x1 == y1 && (x2 == y2 && (s.toList == t.toList)))) w := by
  refine structs_equal Tryz.underlying25 (by kernel_rfl) ?_
  refine fields_more (by decide) (by go_simp; rfl) (by go_simp; rfl) (by go_simp) ?_
  refine fields_more (by decide) (by go_simp; rfl) (by go_simp; rfl) (by go_simp) ?_
  refine fields_more (by decide) (by go_simp; rfl) (by go_simp; rfl) (by go_simp) ?_
  refine fields_last (by decide) (by go_simp; rfl) (by go_simp; rfl) ?_
  go_simp

theorem ba_toList (l : List UInt8) : (⟨l.toArray⟩ : ByteArray).toList = l := by rw [ByteArray.toList_eq]

theorem eqCid_same (x : CidD) (w : World) : (binOp .eql 25 (cidVal x) (cidVal x)).run Tryz.prog w = .ok (.bool true) w := by
  unfold cidVal
  simp only [binOp]
  simp [Op.equal, Op.maxDepth, run_eqCid _ _ _ _ _ _ _ _ w 9998]

theorem eqCid_other (x y : CidD) (h : x ≠ y) (w : World) : (binOp .eql 25 (cidVal x) (cidVal y)).run Tryz.prog w = .ok (.bool false) w := by
  have hb : ((x.ver : Int) == y.ver && ((x.codec : Int) == y.codec && ((x.code : Int) == y.code && (((⟨x.dig.toArray⟩ : ByteArray)).toList == (⟨y.dig.toArray⟩ : ByteArray).toList)))) = false := by
    rw [Bool.eq_false_iff]
    intro e
    simp only [Bool.and_eq_true, beq_iff_eq, ba_toList] at e
    obtain ⟨e0, e1, e2, e3⟩ := e
    apply h
    obtain ⟨a, b, c, d⟩ := x
    obtain ⟨a', b', c', d'⟩ := y
    simp only at e0 e1 e2 e3
    subst e3
    obtain rfl : a = a' := by omega
    obtain rfl : b = b' := by omega
    obtain rfl : c = c' := by omega
    rfl
  unfold cidVal
  simp only [binOp]
  simp only [Op.equal, Op.maxDepth, run_eqCid _ _ _ _ _ _ _ _ w 9998, Sem.run_bind, Result.andThen_ok, hb]
  rfl

theorem neqCid_same (x : CidD) (w : World) : (binOp .neq 25 (cidVal x) (cidVal x)).run Tryz.prog w = .ok (.bool false) w := by
  unfold cidVal
  simp only [binOp]
  simp [Op.equal, Op.maxDepth, run_eqCid _ _ _ _ _ _ _ _ w 9998]
theorem neqCid_other (x y : CidD) (h : x ≠ y) (w : World) : (binOp .neq 25 (cidVal x) (cidVal y)).run Tryz.prog w = .ok (.bool true) w := by
  have hb := eqCid_other x y h w
  unfold cidVal at hb ⊢
  simp only [binOp] at hb ⊢
  simp only [Op.equal, Op.maxDepth, run_eqCid _ _ _ _ _ _ _ _ w 9998, Sem.run_bind, Result.andThen_ok] at hb ⊢
  simp only [Sem.run_pure, Result.ok.injEq, Value.bool.injEq, and_true] at hb
  rw [hb]
  rfl

set_option maxRecDepth 100000 in
set_option maxHeartbeats 2000000 in
theorem spTidy_yes (x : CidD) (d : ByteArray) (hx : x.dig = d.data.toList) (ht : x.tidy) (w : World) :
    Calls Tryz.prog 28 #[.agg #[.int .u64 x.ver, .int .u64 x.codec, .int .u64 x.code, .string d]] w fun e w' => e = .returned (.bool true) ∧ Below w.heap.size w w' := by
  obtain ⟨v, codec, code, dg⟩ := x
  simp only at hx
  subst hx
  rcases ht with ⟨h0, h1, h2, h3⟩ | ⟨h0, h1, h2⟩
  · simp only [ba_len] at h0 h1 h2 h3
    subst h0 h1 h2
    have h3' : ((d.size : Int) == 32) = true := by rw [h3]; rfl
    clear h3
    go_enter Tryz.func28, Tryz.ntmps28
    go_wp2
    go_ret
    exact ⟨rfl, (Below.refl _ _).alloc (Nat.le_refl _) _⟩
  · simp only at h0 h1 h2
    subst h0
    have h1' : (codec : Int) < 9223372036854775808 := by omega
    have h2' : (code : Int) < 9223372036854775808 := by omega
    generalize (codec : Int) = c1 at *
    generalize (code : Int) = c2 at *
    clear h1 h2
    go_enter Tryz.func28, Tryz.ntmps28
    go_wp2
    go_ret
    exact ⟨rfl, (Below.refl _ _).alloc (Nat.le_refl _) _⟩

set_option maxRecDepth 100000 in
set_option maxHeartbeats 400000 in
theorem spTidy_a (c0 c1 c2 : Int) (d : ByteArray) (h0 : (c0 == 0) = true) (h1 : (c1 == 112) = false) (w : World) :
    Calls Tryz.prog 28 #[.agg #[.int .u64 c0, .int .u64 c1, .int .u64 c2, .string d]] w fun e w' => e = .returned (.bool false) ∧ Below w.heap.size w w' := by
  go_enter Tryz.func28, Tryz.ntmps28
  go_wp2
  go_ret
  exact ⟨rfl, (Below.refl _ _).alloc (Nat.le_refl _) _⟩

set_option maxRecDepth 100000 in
set_option maxHeartbeats 400000 in
theorem spTidy_b (c0 c1 c2 : Int) (d : ByteArray) (h0 : (c0 == 0) = true) (h1 : (c1 == 112) = true) (h2 : (c2 == 18) = false) (w : World) :
    Calls Tryz.prog 28 #[.agg #[.int .u64 c0, .int .u64 c1, .int .u64 c2, .string d]] w fun e w' => e = .returned (.bool false) ∧ Below w.heap.size w w' := by
  go_enter Tryz.func28, Tryz.ntmps28
  go_wp2
  go_ret
  exact ⟨rfl, (Below.refl _ _).alloc (Nat.le_refl _) _⟩

set_option maxRecDepth 100000 in
set_option maxHeartbeats 400000 in
theorem spTidy_c (c0 c1 c2 : Int) (d : ByteArray) (h0 : (c0 == 0) = true) (h1 : (c1 == 112) = true) (h2 : (c2 == 18) = true) (h3 : ((d.size : Int) == 32) = false) (w : World) :
    Calls Tryz.prog 28 #[.agg #[.int .u64 c0, .int .u64 c1, .int .u64 c2, .string d]] w fun e w' => e = .returned (.bool false) ∧ Below w.heap.size w w' := by
  go_enter Tryz.func28, Tryz.ntmps28
  go_wp2
  go_ret
  exact ⟨rfl, (Below.refl _ _).alloc (Nat.le_refl _) _⟩

set_option maxRecDepth 100000 in
set_option maxHeartbeats 400000 in
theorem spTidy_d (c0 c1 c2 : Int) (d : ByteArray) (h0 : (c0 == 0) = false) (h1 : (c0 == 1) = false) (w : World) :
    Calls Tryz.prog 28 #[.agg #[.int .u64 c0, .int .u64 c1, .int .u64 c2, .string d]] w fun e w' => e = .returned (.bool false) ∧ Below w.heap.size w w' := by
  go_enter Tryz.func28, Tryz.ntmps28
  go_wp2
  go_ret
  exact ⟨rfl, (Below.refl _ _).alloc (Nat.le_refl _) _⟩

set_option maxRecDepth 100000 in
set_option maxHeartbeats 400000 in
theorem spTidy_e (c0 c1 c2 : Int) (d : ByteArray) (h0 : (c0 == 0) = false) (h1 : (c0 == 1) = true) (h2 : decide (c1 < 9223372036854775808) = false) (w : World) :
    Calls Tryz.prog 28 #[.agg #[.int .u64 c0, .int .u64 c1, .int .u64 c2, .string d]] w fun e w' => e = .returned (.bool false) ∧ Below w.heap.size w w' := by
  go_enter Tryz.func28, Tryz.ntmps28
  go_wp2
  go_ret
  exact ⟨rfl, (Below.refl _ _).alloc (Nat.le_refl _) _⟩

set_option maxRecDepth 100000 in
set_option maxHeartbeats 400000 in
theorem spTidy_f (c0 c1 c2 : Int) (d : ByteArray) (h0 : (c0 == 0) = false) (h1 : (c0 == 1) = true) (h2 : c1 < 9223372036854775808) (h3 : decide (c2 < 9223372036854775808) = false) (w : World) :
    Calls Tryz.prog 28 #[.agg #[.int .u64 c0, .int .u64 c1, .int .u64 c2, .string d]] w fun e w' => e = .returned (.bool false) ∧ Below w.heap.size w w' := by
  go_enter Tryz.func28, Tryz.ntmps28
  go_wp2
  go_ret
  exact ⟨rfl, (Below.refl _ _).alloc (Nat.le_refl _) _⟩

theorem int_beq_no {a : Nat} {b : Int} (h : (a : Int) ≠ b) : ((a : Int) == b) = false := beq_eq_false_iff_ne.2 h
theorem int_beq_yes {a : Nat} {b : Int} (h : (a : Int) = b) : ((a : Int) == b) = true := beq_iff_eq.2 h
theorem big_no {a : Nat} (h : ¬ a < 9223372036854775808) : decide ((a : Int) < 9223372036854775808) = false := decide_eq_false (by omega)
theorem big_yes {a : Nat} (h : a < 9223372036854775808) : (a : Int) < 9223372036854775808 := by omega

theorem spTidy_no (x : CidD) (d : ByteArray) (hx : x.dig = d.data.toList) (ht : ¬ x.tidy) (w : World) :
    Calls Tryz.prog 28 #[.agg #[.int .u64 x.ver, .int .u64 x.codec, .int .u64 x.code, .string d]] w fun e w' => e = .returned (.bool false) ∧ Below w.heap.size w w' := by
  obtain ⟨v, codec, code, dg⟩ := x
  simp only at hx
  subst hx
  by_cases h0 : v = 0
  · by_cases h1 : codec = 112
    · by_cases h2 : code = 18
      · exact spTidy_c v codec code d (int_beq_yes (by omega)) (int_beq_yes (by omega)) (int_beq_yes (by omega)) (int_beq_no fun e => ht (.inl ⟨h0, h1, h2, by show d.data.toList.length = 32; rw [ba_len]; omega⟩)) w
      · exact spTidy_b v codec code d (int_beq_yes (by omega)) (int_beq_yes (by omega)) (int_beq_no (by omega)) w
    · exact spTidy_a v codec code d (int_beq_yes (by omega)) (int_beq_no (by omega)) w
  · by_cases h1 : v = 1
    · by_cases h2 : codec < 9223372036854775808
      · exact spTidy_f v codec code d (int_beq_no (by omega)) (int_beq_yes (by omega)) (big_yes h2) (big_no fun h3 => ht (.inr ⟨h1, h2, h3⟩)) w
      · exact spTidy_e v codec code d (int_beq_no (by omega)) (int_beq_yes (by omega)) (big_no h2) w
    · exact spTidy_d v codec code d (int_beq_no (by omega)) (int_beq_no (by omega)) w

set_option maxRecDepth 100000 in
theorem fits1 (a b c : Int) (d : ByteArray) (hd : d.size ≤ 2147483647) (w : World) :
    Calls Tryz.prog 7 #[.agg #[.int .u64 a, .int .u64 b, .int .u64 c, .string d]] w fun e w' => e = .returned (.bool true) ∧ Below w.heap.size w w' := by
  go_enter Tryz.func7, Tryz.ntmps7
  go_wp2
  go_ret
  exact ⟨rfl, (Below.refl _ _).alloc (Nat.le_refl _) _⟩
set_option maxRecDepth 100000 in
theorem fits1_no (a b c : Int) (d : ByteArray) (hd : 2147483647 < d.size) (w : World) :
    Calls Tryz.prog 7 #[.agg #[.int .u64 a, .int .u64 b, .int .u64 c, .string d]] w fun e w' => e = .returned (.bool false) ∧ Below w.heap.size w w' := by
  go_enter Tryz.func7, Tryz.ntmps7
  go_wp2
  go_ret
  exact ⟨rfl, (Below.refl _ _).alloc (Nat.le_refl _) _⟩
end Go.Proofs.YthehmnpbepmnpaaGreatDoorR
/- Contracts of package spec: Varint, MultihashBytes, CidBytes, Tidy. -/
namespace Go.Proofs.YthehmnpbepmnpaaGreatDoorR
open Go.RowKit

theorem or128 (m : Nat) : bits .or .u8 ((m : Int) % 256) 128 = (((m % 128 + 128).toUInt8.toNat : Nat) : Int) := by
  rw [Lib.u8_or128_any _ (by omega) (by omega), Lib.toUInt8_toNat (by omega)]
  omega

/-- A row of the call's own reads as its bytes. -/
theorem bs_of_own {w : World} {B : Nat} {e : TypeId} {v : Value} {l : List UInt8} (h : w.ownsRow B e 1 v l.length (Lib.byteCells l)) : ∃ A c, v = .slice A l.length c ∧ BS w (.slice A l.length c) l := by
  rcases h.2 with ⟨rfl, h0⟩ | ⟨g, cap, cur, rfl, _, hg, hnc, _, hcs, htake⟩
  · have hl : l = [] := List.eq_nil_of_length_eq_zero h0
    subst hl
    exact ⟨none, 0, rfl, BS.nil _ _⟩
  · refine ⟨_, cap, rfl, BS.of_cells hnc fun j hj => ?_⟩
    rw [Nat.zero_add]
    have hc := cell_of_row w g j cur e (0, 0) hg
    rw [hc, Nat.mul_one] at *
    have h2 := congrArg (fun x => x[j]?) htake
    simp only [List.getElem?_take, Lib.byteCells, List.getElem?_map, List.getElem?_eq_getElem hj, Option.map_some] at h2
    rw [if_pos hj] at h2
    simpa using h2

set_option maxRecDepth 100000 in
set_option maxHeartbeats 4000000 in
theorem spVarint (n : Nat) (hn : n < 18446744073709551616) (w : World) :
    Calls Tryz.prog 87 #[.int .u64 n] w fun e w' => HasBytes (Lib.uvarint n) e w' ∧ Below w.heap.size w w' := by
  obtain ⟨i0, hi, hz0, hz1, hz2⟩ := info_u8p
  have hlen := Lib.uvarint_length64 hn
  have HL := Lib.hid hlen
  clear hlen
  go_enter Tryz.func87, Tryz.ntmps87
  go_wp2
  go_loopw [0, 3] (fun x v wr => ∃ (done : List UInt8) (m : Nat), x = .int .u64 m ∧ m < 18446744073709551616 ∧ Hid (Lib.uvarint n = done ++ Lib.uvarint m) ∧ done.length ≤ 10 ∧ wr.ownsRow w.heap.size 5 1 v done.length (Lib.byteCells done) ∧ Below w.heap.size w wr) (fun x _ _ => (intOf x).toNat)
  case atStart => exact ⟨[], n, rfl, hn, Lib.hid rfl, by simp, ⟨by simp [Lib.byteCells], .inl ⟨rfl, rfl⟩⟩, Below.refl _ _⟩
  case round =>
    obtain ⟨done, m, rfl, hm, hd, hdl, hown, hb⟩ := hrel
    have hl := congrArg List.length hd.out
    rw [List.length_append] at hl
    have hpos := Lib.uvarint_pos m
    have hd9 : done.length ≤ 9 := by have := HL.out; omega
    clear hl hpos
    have hBw := hb.size
    by_cases hge : 128 ≤ m
    · obtain ⟨c, hc⟩ : ∃ c : UInt8, c = (m % 128 + 128).toUInt8 := ⟨_, rfl⟩
      have hor : bits .or .u8 ((m : Int) % 256) 128 = ((c.toNat : Nat) : Int) := by rw [hc]; exact or128 m
      have hge' : (128 : Int) ≤ m := by omega
      have HC := Lib.hid hc
      clear hc
      go_wp2_with (at_builtin; refine wpList_append_own _ rfl _ _ 98 rfl w.heap.size 5 i0 (.int .u8 0) 1 1 Tryz.underlying98 hi hz0 hz1 hz2 rfl (by decide) _ _ _ rfl (hown.alloc _) ⟨wr.heap.size, 0, none⟩ 1 1 [.int .u8 (c.toNat : Int)] rfl rfl ?c1 ?c2 ?c3 ?c4 ?c5 ?_)
      case c1 =>
        intro j u hj
        match j, hj with
        | 0, hj => simp at hj; subst hj; simp [Addr.add]
      case c2 => intro u hu; simp at hu; subst hu; rfl
      case c3 => unfold maxLen; omega
      case c4 => omega
      case c5 => simp; omega
      intro v' w2 hown' hgrow _
      have hb2 : Below w.heap.size w w2 := (hb.alloc hBw _).grown hgrow (by simp; omega) (fun k hk => (hown.lt k hk).1)
      clear hown hgrow hor
      go_wp2
      go_roundw
      case rel =>
        refine ⟨done ++ [c], m / 128, by go_num, by omega, Lib.hid ?_, by simp; omega, ?_, hb2⟩
        · rw [hd.out, Lib.uvarint_big hge, HC.out]; simp
        · rw [Lib.byteCells_append, List.length_append]; exact hown'
      case measure => simp [intOf]; omega
    · have hge' : (m : Int) < 128 := by omega
      go_wp2_with (at_builtin; refine wpList_append_own _ rfl _ _ 98 rfl w.heap.size 5 i0 (.int .u8 0) 1 1 Tryz.underlying98 hi hz0 hz1 hz2 rfl (by decide) _ _ _ rfl (hown.alloc _) ⟨wr.heap.size, 0, none⟩ 1 1 [.int .u8 (m : Int)] rfl rfl ?d1 ?d2 ?d3 ?d4 ?d5 ?_)
      case d1 =>
        intro j u hj
        match j, hj with
        | 0, hj => simp at hj; subst hj; simp [Addr.add]
      case d2 => intro u hu; simp at hu; subst hu; rfl
      case d3 => unfold maxLen; omega
      case d4 => omega
      case d5 => simp; omega
      intro v' w2 hown' hgrow _
      have hb2 : Below w.heap.size w w2 := (hb.alloc hBw _).grown hgrow (by simp; omega) (fun k hk => (hown.lt k hk).1)
      clear hown hgrow
      have hown2 : w2.ownsRow w.heap.size 5 1 v' (Lib.uvarint n).length (Lib.byteCells (Lib.uvarint n)) := by
        rw [hd.out, Lib.uvarint_small (by omega), Lib.byteCells_append, List.length_append]
        have e : Lib.byteCells [m.toUInt8] = [Value.int .u8 (m : Int)] := by
          simp only [Lib.byteCells, List.map_cons, List.map_nil, Lib.toUInt8_toNat (show m < 256 by omega)]
        rw [e]
        exact hown'
      have HO := Lib.hid hown2
      clear hown' hown2
      go_wp2
      go_ret
      obtain ⟨A, c', rfl, hbs⟩ := bs_of_own HO.out
      exact ⟨⟨A, _, c', rfl, hbs⟩, hb2⟩
end Go.Proofs.YthehmnpbepmnpaaGreatDoorR
