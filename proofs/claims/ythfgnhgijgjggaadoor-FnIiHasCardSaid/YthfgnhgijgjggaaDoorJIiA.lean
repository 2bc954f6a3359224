/- Contracts, joined (IiL IiM IiN IiO Each EachW IiPa). -/
import Derived.Test.YthfgnhgijgjggaaDoorIiK
import Derived.Test.YthfgnhgijgjggaaDoorCdU
import Derived.Test.YthfgnhgijgjggaaDoorCdR
import Derived.Deep.AppendLies
import Derived.Deep.RegionLaw
import Derived.Maps.AppendAt
import Derived.OwnWalk
import Derived.Deep.QuietTactic
import Derived.BigQuiet
import Derived.Below
import Derived.KernelRfl
import Derived.Deep.RegionHeld3
/- Contract: impl.IiHas. -/
namespace Go.Proofs.YthfgnhgijgjggaaDoor
open Go.RowKit

theorem bool_eq_decide {b : Bool} {p : Prop} [Decidable p] (h : b = true ↔ p) : b = decide p := by
  by_cases hp : p
  · rw [decide_eq_true hp, h.2 hp]
  · rw [decide_eq_false hp]
    cases hb : b with
    | false => rfl
    | true => exact absurd (h.1 hb) hp

/-- What a search finds in an index of entries. -/
theorem finds_any {es : List EntD} {t : Tr ItD} (h : RelT es t) (u : List UInt8) (hit : ItD → Bool) (hitR : Rc → Bool) (hh : ∀ y, hit y = hitR y.rc) :
    (finds u hit (t.asc (fun y => blt y.dig u))).2 = true ↔ ∃ e ∈ es, e.cid.dig = u ∧ hitR e.rc = true := by
  have h1 : t.asc (fun y => blt y.dig u) = t.toList.filter (fun x => !blt x.dig u) := Tr.asc_eq ItD.dig u t h.sorted
  rw [h1]
  have h2 : (finds u hit (t.toList.filter (fun x => !blt x.dig u))).2 = (t.toList.filter (fun x => !blt x.dig u)).any (fun x => decide (x.dig = u) && hit x) :=
    find_scan ItD.dig u hit _ (h.sorted.filter _) (fun x hx => by have := (List.mem_filter.1 hx).2; simpa using this)
  rw [h2, List.any_eq_true]
  constructor
  · rintro ⟨y, hy, h3⟩
    have hy' := (List.mem_filter.1 hy).1
    simp only [Bool.and_eq_true, decide_eq_true_eq] at h3
    have hm : y.rc ∈ recsOf es := by rw [← h.recs]; exact List.mem_map.2 ⟨y, hy', rfl⟩
    obtain ⟨e, he, h4⟩ := (mem_recsOf es).1 hm
    refine ⟨e, he, ?_, by rw [h4, ← hh]; exact h3.2⟩
    have : e.rc.dig = y.rc.dig := by rw [h4]
    exact this.trans h3.1
  · rintro ⟨e, he, h3, h4⟩
    have hm : e.rc ∈ recsOf es := (mem_recsOf es).2 ⟨e, he, rfl⟩
    rw [← h.recs] at hm
    obtain ⟨y, hy, h5⟩ := List.mem_map.1 hm
    have hd : y.dig = u := by
      have : y.rc.dig = e.rc.dig := by rw [h5]
      exact this.trans h3
    refine ⟨y, List.mem_filter.2 ⟨hy, by rw [hd, blt_irrefl]; rfl⟩, ?_⟩
    rw [decide_eq_true hd, hh, h5, h4]
    rfl

/-- An identifier of which the statements speak. -/
def CidD.st (c : CidD) : Prop := c.tidy ∧ 0 < c.dig.length ∧ c.dig.length ≤ 200
theorem cidS_inj {a b : CidD} (ha : a.st) (hb : b.st) : cidS a = cidS b ↔ a = b := by
  constructor
  · intro h
    unfold cidS at h
    injection h with h
    exact cidEnc_inj ha.1 hb.1 (by have := ha.2.2; omega) (by have := hb.2.2; omega) (congrArg Array.toList h)
  · intro h; rw [h]
theorem CidD.st.str {c : CidD} (h : c.st) : CidStr (cidS c) c := ⟨rfl, h.1, by have := h.2.2; omega⟩
theorem mhEnc_inj {a b : CidD} (ha : a.st) (hb : b.st) : mhEnc a.code a.dig = mhEnc b.code b.dig ↔ a.code = b.code ∧ a.dig = b.dig := by
  constructor
  · intro h
    have h1 := mhRd_own a.code a.dig ha.str.code_lt (by have := ha.2.2; omega)
    rw [h, mhRd_own b.code b.dig hb.str.code_lt (by have := hb.2.2; omega)] at h1
    injection h1 with h1
    injection h1 with _ h1
    injection h1 with h1 h2
    exact ⟨h1.symm, h2.symm⟩
  · rintro ⟨h1, h2⟩; rw [h1, h2]

/-- Whether the very identifier is there; whether its multihash is. -/
def hasC (es : List EntD) (c : CidD) : Prop := ∃ e ∈ es, e.cid = c
def hasM (es : List EntD) (c : CidD) : Prop := ∃ e ∈ es, e.cid.code = c.code ∧ e.cid.dig = c.dig

abbrev cid4 (c : CidD) : Value := .agg #[.int .u64 c.ver, .int .u64 c.codec, .int .u64 c.code, .string ⟨c.dig.toArray⟩]

set_option maxRecDepth 100000 in
set_option maxHeartbeats 8000000 in
theorem iiHas (v : Value) (es : List EntD) (c : CidD) (w : World) (hv : ES w v es) (hg : ∀ e ∈ es, e.good) (hn : es.length ≤ 100) (hc : c.st) (hu : UvS w) (rx ry : Bool) (hx : rx = true ↔ hasC es c) (hy : ry = true ↔ hasM es c) :
    Calls Tryd.prog 18 #[v, cid4 c] w fun e w' => e = .returned (.tuple #[.bool rx, .bool ry]) ∧ Below w.heap.size w w' := by
  obtain ⟨w0, hw0⟩ : ∃ w0, w0 = w.alloc (.cells #[.int .u64 c.ver, .int .u64 c.codec, .int .u64 c.code, .string ⟨c.dig.toArray⟩] 26) := ⟨_, rfl⟩
  have hA : Below w.heap.size w w0 := hw0 ▸ (Below.refl _ w).alloc (Nat.le_refl _) _
  have r0 : w0.heap[w.heap.size]? = some (.cells #[.int .u64 c.ver, .int .u64 c.codec, .int .u64 c.code, .string ⟨c.dig.toArray⟩] 26 (0, 0)) := by rw [hw0]; exact heap_alloc_new w _
  have HI := Lib.hid (insertion_ok v es w0 (hv.below hA) hg hn (hu.below hA))
  -- what the searches find
  have hX : ∀ t, RelT es t → (finds c.dig (fun y => decide (y.us = cidS c)) (t.asc (fun y => blt y.dig c.dig))).2 = rx := fun t ht => by
    have h1 := finds_any ht c.dig (fun y => decide (y.us = cidS c)) (fun r => decide (r.us = cidS c)) (fun _ => rfl)
    refine Bool.eq_iff_iff.2 (h1.trans (Iff.trans ?_ hx.symm))
    constructor
    · rintro ⟨e, he, _, h3⟩
      exact ⟨e, he, (cidS_inj (hg e he) hc).1 (of_decide_eq_true h3)⟩
    · rintro ⟨e, he, h3⟩
      exact ⟨e, he, by rw [h3], decide_eq_true (show cidS e.cid = cidS c by rw [h3])⟩
  have hY : ∀ t, RelT es t → (finds c.dig (fun y => decide (mhOf y.us = mhEnc c.code c.dig)) (t.asc (fun y => blt y.dig c.dig))).2 = ry := fun t ht => by
    have h1 := finds_any ht c.dig (fun y => decide (mhOf y.us = mhEnc c.code c.dig)) (fun r => decide (mhOf r.us = mhEnc c.code c.dig)) (fun _ => rfl)
    refine Bool.eq_iff_iff.2 (h1.trans (Iff.trans ?_ hy.symm))
    constructor
    · rintro ⟨e, he, _, h3⟩
      have h4 : mhOf (cidS e.cid) = mhEnc c.code c.dig := of_decide_eq_true h3
      rw [mhOf_str (CidD.st.str (hg e he))] at h4
      exact ⟨e, he, (mhEnc_inj (hg e he) hc).1 h4⟩
    · rintro ⟨e, he, h3, h4⟩
      refine ⟨e, he, h4, ?_⟩
      have : mhOf (cidS e.cid) = mhEnc c.code c.dig := by rw [mhOf_str (CidD.st.str (hg e he))]; exact (mhEnc_inj (hg e he) hc).2 ⟨h3, h4⟩
      exact decide_eq_true this
  have hPz : ∀ t, RelT es t → ∀ y ∈ t.toList, ∃ z, CidStr y.us z := fun t ht y hy => by
    have hm : y.rc ∈ recsOf es := by rw [← ht.recs]; exact List.mem_map.2 ⟨y, hy, rfl⟩
    obtain ⟨e, he, h4⟩ := (mem_recsOf es).1 hm
    have : y.us = cidS e.cid := by
      have : y.rc.us = e.rc.us := by rw [h4]
      exact this
    exact ⟨e.cid, this ▸ CidD.st.str (hg e he)⟩
  have HX := Lib.hid hX
  have HY := Lib.hid hY
  have HP := Lib.hid hPz
  have HU := Lib.hid hu
  have HA := Lib.hid hA
  have R0 := Lib.hid r0
  have HCC := Lib.hid hc
  have hcs : (⟨c.dig.toArray⟩ : ByteArray).size ≤ 2147483600 := by show c.dig.toArray.size ≤ _; simp; have := hc.2.2; omega
  have HCS := Lib.hid hcs
  rw [hw0] at HI
  have HW0 := Lib.hid hw0
  clear hw0 hA r0 hu hv hg hn hc hx hy hX hY hPz hcs
  go_enter Tryd.func18, Tryd.ntmps18
  go_wp2_with fail
  refine HI.out.mono ?_
  rw [← HW0.out]
  rintro e w1 ⟨⟨t, rfl, hi, hrel⟩, hb1⟩
  have hb := below_next HA.out hb1
  have HCI := Lib.hid (cidIn_ok c HCC.out.1 ⟨c.dig.toArray⟩ rfl HCS.out w1 (HU.out.below hb))
  have r1 := row_below hb1 (block_of_row R0.out) R0.out
  have k0 := cell_of_row' (cur := [_, _, _, _]) r1 0
  have k1 := cell_of_row' (cur := [_, _, _, _]) r1 1
  have k2 := cell_of_row' (cur := [_, _, _, _]) r1 2
  have k3 := cell_of_row' (cur := [_, _, _, _]) r1 3
  have H1 := Lib.hid hi
  have HREL := Lib.hid hrel
  have HB := Lib.hid hb
  clear hi hrel hb hb1 r1 HI
  obtain ⟨g, hgg⟩ : ∃ g, g = w0.heap.size := ⟨_, rfl⟩
  rw [← hgg] at H1 ⊢
  clear hgg
  obtain ⟨us, hus⟩ : ∃ us : ByteArray, us = ⟨(cidEnc c).toArray⟩ := ⟨_, rfl⟩
  rw [← hus] at HCI
  have HUS : Hid (us = cidS c) := Lib.hid hus
  clear hus
  go_wp2_with fail
  refine HCI.out.mono ?_
  rintro e w2 ⟨rfl, hb2⟩
  have hb3 : Below w2.heap.size w2 (w2.alloc (.cells #[.string us] 80)) := (Below.refl _ w2).alloc (Nat.le_refl _) _
  have hb12 := below_next hb2 hb3
  have r3 := heap_alloc_new w2 (.cells #[.string us] 80)
  have HS : Hid (CidStr us c) := Lib.hid (HUS.out ▸ CidD.st.str HCC.out)
  have HE := hasExact us c HS.out g t _ (HU.out.below (below_next HB.out hb12)) (H1.out.below hb12)
  rw [show (finds c.dig (fun y => decide (y.us = us)) (t.asc (fun y => blt y.dig c.dig))).2 = rx by rw [HUS.out]; exact HX.out t HREL.out] at HE
  have HEE := Lib.hid HE
  have HB12 := Lib.hid hb12
  have R3 := Lib.hid r3
  clear HE hb12 hb2 hb3 r3 HCI k0 k1 k2 k3
  go_wp2_with fail
  refine HEE.out.mono ?_
  rintro e w4 ⟨rfl, hb4⟩
  have hb14 := below_next HB12.out hb4
  have r4 := row_below hb4 (block_of_row R3.out) R3.out
  have c0 := cell_of_row' (cur := [_]) r4 0
  have HH := Lib.hid (cdHash us c HS.out w4 (HU.out.below (below_next HB.out hb14)))
  have HB14 := Lib.hid hb14
  clear hb14 r4 hb4 HEE
  go_wp2_with fail
  refine HH.out.mono ?_
  rintro e w5 ⟨⟨A, n, cc, rfl, hbs⟩, hb5⟩
  have hb15 := below_next HB14.out hb5
  have HM := hasMh A n cc c HS.out.code_lt (by have := HCC.out.2.2; omega) g t w5 hbs (mh_size HS.out) (HU.out.below (below_next HB.out hb15)) (H1.out.below hb15) (HP.out t HREL.out)
  rw [HY.out t HREL.out] at HM
  have HMM := Lib.hid HM
  have HB15 := Lib.hid hb15
  clear HM hb15 hb5 hbs HH c0
  go_wp2_with fail
  refine HMM.out.mono ?_
  rintro e w6 ⟨rfl, hb6⟩
  have HF := Lib.hid (below_next HB.out (below_next HB15.out hb6))
  clear hb6 HMM
  cases rx <;> cases ry
  all_goals
    go_wp2_with fail
    go_quiet (fail)
    go_wp2
    go_ret2
    exact ⟨rfl, HF.out.drewN _⟩
end Go.Proofs.YthfgnhgijgjggaaDoor
/- Contracts: laws.zzFits7, zzFits8, stCid, stEntries; spec.SameHash, OfDigest. -/
namespace Go.Proofs.YthfgnhgijgjggaaDoor
open Go.RowKit

def AnyB (e : Ending) : Prop := ∃ b : Bool, e = .returned (.bool b)
def TwoW (p : Prop) (e : Ending) : Prop := (p ∧ e = .returned (.bool true)) ∨ (¬ p ∧ e = .returned (.bool false))

theorem fits1_b (a b c : Int) (d : ByteArray) (w : World) : Calls Tryd.prog 14 #[.agg #[.int .u64 a, .int .u64 b, .int .u64 c, .string d]] w fun e w' => AnyB e ∧ Below w.heap.size w w' := by
  by_cases hd : d.size ≤ 2147483647
  · exact (fits1 a b c d hd w).mono fun e w' ⟨h1, h2⟩ => ⟨⟨_, h1⟩, h2⟩
  · exact (fits1_no a b c d (by omega) w).mono fun e w' ⟨h1, h2⟩ => ⟨⟨_, h1⟩, h2⟩

set_option maxRecDepth 100000 in
set_option maxHeartbeats 1000000 in
theorem fits8_b (a b c f : Int) (d : ByteArray) (w : World) : Calls Tryd.prog 38 #[.agg #[.int .u64 a, .int .u64 b, .int .u64 c, .string d, .int .u64 f]] w fun e w' => AnyB e ∧ Below w.heap.size w w' := by
  have hA : Below w.heap.size w (w.alloc (.cells #[.int .u64 a, .int .u64 b, .int .u64 c, .string d, .int .u64 f] 32)) := (Below.refl _ _).alloc (Nat.le_refl _) _
  have H := Lib.hid (fits1_b a b c d (w.alloc (.cells #[.int .u64 a, .int .u64 b, .int .u64 c, .string d, .int .u64 f] 32)))
  have HA := Lib.hid hA
  clear hA
  go_enter Tryd.func38, Tryd.ntmps38
  go_wp2_with fail
  refine H.out.mono ?_
  rintro e w1 ⟨⟨o, rfl⟩, hb⟩
  have HF := Lib.hid (below_next HA.out hb)
  clear hb H
  cases o
  · go_wp2
    go_ret
    exact ⟨⟨_, rfl⟩, HF.out⟩
  · go_wp2
    go_ret
    exact ⟨⟨_, rfl⟩, HF.out⟩

set_option maxRecDepth 100000 in
set_option maxHeartbeats 4000000 in
theorem fits7_b (v : Value) (es : List EntD) (w : World) (hs : ES w v es) (hn : es.length ≤ 9223372036854775807) :
    Calls Tryd.prog 13 #[v] w fun e w' => AnyB e ∧ Below w.heap.size w w' := by
  obtain ⟨A, c, rfl, hc, hcells⟩ := hs
  obtain ⟨n, hN⟩ : ∃ n, n = es.length := ⟨_, rfl⟩
  rw [← hN] at hn
  have HC := Lib.hid hcells
  have HN := Lib.hid hN
  rw [← hN]
  clear hcells hc hN
  by_cases hbig : 2147483647 < n
  · go_enter Tryd.func13, Tryd.ntmps13
    go_wp2
    go_ret
    exact ⟨⟨_, rfl⟩, Below.refl _ _⟩
  · go_enter Tryd.func13, Tryd.ntmps13
    go_wp2
    go_loopw [10] (fun i wr => ∃ (k : Nat), k ≤ n ∧ i = .int .i64 k ∧ Below w.heap.size w wr) (fun i _ => n - (intOf i).toNat)
    case atStart => exact ⟨0, Nat.zero_le _, rfl, Below.refl _ _⟩
    case round =>
      obtain ⟨k, hk, rfl, hb⟩ := hrel
      by_cases hlt : k < n
      · obtain ⟨b, o, rfl, hcl⟩ := HC.out (by rw [← HN.out]; omega)
        have hks : k < es.length := by rw [← HN.out]; exact hlt
        obtain ⟨x, hsv⟩ : ∃ x, es[k]? = some x := ⟨_, List.getElem?_eq_getElem hks⟩
        obtain ⟨q0, q1, q2, q3, q4⟩ := hcl k x hsv
        have c0 := below_cell hb q0
        have c1 := below_cell hb q1
        have c2 := below_cell hb q2
        have c3 := below_cell hb q3
        have c4 := below_cell hb q4
        generalize (⟨x.cid.dig.toArray⟩ : ByteArray) = d at *
        generalize (x.cid.ver : Int) = v0 at *
        generalize (x.cid.codec : Int) = v1 at *
        generalize (x.cid.code : Int) = v2 at *
        generalize (x.off : Int) = f at *
        have hal : Below w.heap.size w (wr.alloc (entO v0 v1 v2 d f)) := hb.alloc hb.size _
        have F := fun W => Lib.hid (fits8_b v0 v1 v2 f d W)
        have HAL := Lib.hid hal
        clear hcl hsv hks q0 q1 q2 q3 q4 hb hal
        go_wp2_with fail
        refine (F _).out.mono ?_
        rintro e w1 ⟨⟨r, rfl⟩, hb1⟩
        have b1 := below_next HAL.out hb1
        clear hb1 F HAL
        cases r
        · go_wp2
          go_ret
          exact ⟨⟨_, rfl⟩, b1⟩
        · go_wp2
          go_roundw
          case rel => exact ⟨k + 1, by omega, by go_num, b1⟩
          case measure => simp [intOf]; omega
      · obtain rfl : k = n := by omega
        go_wp2
        go_ret
        exact ⟨⟨_, rfl⟩, hb⟩

set_option maxRecDepth 100000 in
set_option maxHeartbeats 4000000 in
theorem stCid_b (c : CidD) (w : World) : Calls Tryd.prog 16 #[cid4 c] w fun e w' => TwoW c.st e ∧ Below w.heap.size w w' := by
  unfold cid4
  have hA : Below w.heap.size w (w.alloc (.cells #[.int .u64 c.ver, .int .u64 c.codec, .int .u64 c.code, .string ⟨c.dig.toArray⟩] 26)) := (Below.refl _ _).alloc (Nat.le_refl _) _
  have hr := heap_alloc_new w (.cells #[.int .u64 c.ver, .int .u64 c.codec, .int .u64 c.code, .string ⟨c.dig.toArray⟩] 26)
  have hsz : (⟨c.dig.toArray⟩ : ByteArray).size = c.dig.length := by show c.dig.toArray.size = _; simp
  have hx : c.dig = (⟨c.dig.toArray⟩ : ByteArray).data.toList := rfl
  by_cases ht : c.tidy
  · have T := fun W => Lib.hid (spTidy_yes c ⟨c.dig.toArray⟩ hx ht W)
    by_cases h0 : 0 < c.dig.length
    · by_cases h2 : c.dig.length ≤ 200
      · have HST : Hid c.st := Lib.hid ⟨ht, h0, h2⟩
        rw [← hsz] at h0 h2
        clear ht
        have e0 : (0 : Int) < (⟨c.dig.toArray⟩ : ByteArray).size := by omega
        have e2 : ((⟨c.dig.toArray⟩ : ByteArray).size : Int) ≤ 200 := by omega
        clear h0 h2
        have HA := Lib.hid hA
        have HR := Lib.hid hr
        generalize (⟨c.dig.toArray⟩ : ByteArray) = d at *
        generalize (c.ver : Int) = v0 at *
        generalize (c.codec : Int) = v1 at *
        generalize (c.code : Int) = v2 at *
        clear hA hr hx hsz
        go_enter Tryd.func16, Tryd.ntmps16
        go_wp2_with fail
        refine (T _).out.mono ?_
        rintro e w1 ⟨rfl, hb⟩
        have k3 := cell_of_row' (cur := [_, _, _, _]) (row_below hb (block_of_row HR.out) HR.out) 3
        have HF := Lib.hid (below_next HA.out hb)
        clear hb T
        go_wp2
        go_ret
        exact ⟨Or.inl ⟨HST.out, rfl⟩, HF.out⟩
      · have HST : Hid (¬ c.st) := Lib.hid fun h => h2 h.2.2
        rw [← hsz] at h0 h2
        clear ht
        have e0 : (0 : Int) < (⟨c.dig.toArray⟩ : ByteArray).size := by omega
        have e3 : (200 : Int) < (⟨c.dig.toArray⟩ : ByteArray).size := by omega
        clear h0 h2
        have HA := Lib.hid hA
        have HR := Lib.hid hr
        generalize (⟨c.dig.toArray⟩ : ByteArray) = d at *
        generalize (c.ver : Int) = v0 at *
        generalize (c.codec : Int) = v1 at *
        generalize (c.code : Int) = v2 at *
        clear hA hr hx hsz
        go_enter Tryd.func16, Tryd.ntmps16
        go_wp2_with fail
        refine (T _).out.mono ?_
        rintro e w1 ⟨rfl, hb⟩
        have k3 := cell_of_row' (cur := [_, _, _, _]) (row_below hb (block_of_row HR.out) HR.out) 3
        have HF := Lib.hid (below_next HA.out hb)
        clear hb T
        go_wp2
        go_ret
        exact ⟨Or.inr ⟨HST.out, by show Ending.returned (.bool (decide ((d.size : Int) ≤ 200))) = _; rw [decide_eq_false (by omega)]⟩, HF.out⟩
    · have HST : Hid (¬ c.st) := Lib.hid fun h => h0 h.2.1
      rw [← hsz] at h0
      clear ht
      have e1 : (⟨c.dig.toArray⟩ : ByteArray).size = 0 := by omega
      clear h0
      have HA := Lib.hid hA
      have HR := Lib.hid hr
      generalize (⟨c.dig.toArray⟩ : ByteArray) = d at *
      generalize (c.ver : Int) = v0 at *
      generalize (c.codec : Int) = v1 at *
      generalize (c.code : Int) = v2 at *
      clear hA hr hx hsz
      go_enter Tryd.func16, Tryd.ntmps16
      go_wp2_with fail
      refine (T _).out.mono ?_
      rintro e w1 ⟨rfl, hb⟩
      have k3 := cell_of_row' (cur := [_, _, _, _]) (row_below hb (block_of_row HR.out) HR.out) 3
      have HF := Lib.hid (below_next HA.out hb)
      clear hb T
      go_wp2
      go_ret
      exact ⟨Or.inr ⟨HST.out, rfl⟩, HF.out⟩
  · have T := fun W => Lib.hid (spTidy_no c ⟨c.dig.toArray⟩ hx ht W)
    have HST : Hid (¬ c.st) := Lib.hid fun h => ht h.1
    clear ht
    have HA := Lib.hid hA
    have HR := Lib.hid hr
    generalize (⟨c.dig.toArray⟩ : ByteArray) = d at *
    generalize (c.ver : Int) = v0 at *
    generalize (c.codec : Int) = v1 at *
    generalize (c.code : Int) = v2 at *
    clear hA hr hx hsz
    go_enter Tryd.func16, Tryd.ntmps16
    go_wp2_with fail
    refine (T _).out.mono ?_
    rintro e w1 ⟨rfl, hb⟩
    have k3 := cell_of_row' (cur := [_, _, _, _]) (row_below hb (block_of_row HR.out) HR.out) 3
    have HF := Lib.hid (below_next HA.out hb)
    clear hb T
    go_wp2
    go_ret
    exact ⟨Or.inr ⟨HST.out, rfl⟩, HF.out⟩

/-- Entries of which the statements speak. -/
def esGood (es : List EntD) : Prop := es.length ≤ 60 ∧ ∀ e ∈ es, e.good
def EsSo (bo : Bool) (es : List EntD) (k : Nat) : Prop := (bo = true ∧ ∀ x ∈ es.take k, x.good) ∨ (bo = false ∧ ¬ esGood es)
theorem EsSo.t {es : List EntD} {k : Nat} (h : EsSo true es k) : ∀ x ∈ es.take k, x.good := by rcases h with h | h; exact h.2; cases h.1
theorem EsSo.f {es : List EntD} {k : Nat} (h : EsSo false es k) : ¬ esGood es := by rcases h with h | h; cases h.1; exact h.2

set_option maxRecDepth 100000 in
set_option maxHeartbeats 8000000 in
theorem stEntries_b (v : Value) (es : List EntD) (w : World) (hs : ES w v es) (hn : es.length ≤ 9223372036854775807) :
    Calls Tryd.prog 15 #[v] w fun e w' => TwoW (esGood es) e ∧ Below w.heap.size w w' := by
  obtain ⟨A, c, rfl, hc, hcells⟩ := hs
  obtain ⟨n, hN⟩ : ∃ n, n = es.length := ⟨_, rfl⟩
  rw [← hN] at hn
  have HC := Lib.hid hcells
  have HN := Lib.hid hN
  rw [← hN]
  clear hcells hc hN
  have hstart : ∃ bo : Bool, decide ((n : Int) ≤ 60) = bo ∧ EsSo bo es 0 := by
    by_cases hbig : n ≤ 60
    · exact ⟨true, decide_eq_true (by omega), Or.inl ⟨rfl, by simp⟩⟩
    · exact ⟨false, decide_eq_false (by omega), Or.inr ⟨rfl, fun h => by have := h.1; rw [← HN.out] at this; omega⟩⟩
  obtain ⟨b0, hb0, hs0⟩ := hstart
  have HS0 := Lib.hid hs0
  have HB0 : Hid (b0 = true → n ≤ 60) := Lib.hid fun h => by rw [h] at hb0; have := of_decide_eq_true hb0; omega
  clear hs0
  go_enter Tryd.func15, Tryd.ntmps15
  go_wp2
  go_loopw [3, 4] (fun ok i wr => ∃ (bo : Bool) (k : Nat), k ≤ n ∧ ok = .bool bo ∧ i = .int .i64 k ∧ Hid (EsSo bo es k) ∧ Hid (bo = true → n ≤ 60) ∧ Below w.heap.size w wr) (fun _ i _ => n - (intOf i).toNat)
  case atStart => exact ⟨b0, 0, Nat.zero_le _, rfl, rfl, HS0, HB0, Below.refl _ _⟩
  case round =>
    obtain ⟨bo, k, hk, rfl, rfl, ht, h60, hb⟩ := hrel
    cases bo
    · go_wp2
      go_ret
      exact ⟨Or.inr ⟨ht.out.f, rfl⟩, hb⟩
    · by_cases hlt : k < n
      · obtain ⟨b, o, rfl, hcl⟩ := HC.out (by rw [← HN.out]; omega)
        have hks : k < es.length := by rw [← HN.out]; exact hlt
        obtain ⟨x, hsv⟩ : ∃ x, es[k]? = some x := ⟨_, List.getElem?_eq_getElem hks⟩
        obtain ⟨q0, q1, q2, q3, q4⟩ := hcl k x hsv
        have c0 := below_cell hb q0
        have c1 := below_cell hb q1
        have c2 := below_cell hb q2
        have c3 := below_cell hb q3
        have htk : es.take (k + 1) = es.take k ++ [x] := by rw [List.take_add_one, hsv]; rfl
        have hmem : x ∈ es := List.mem_of_getElem? hsv
        have T := fun W => Lib.hid (stCid_b x.cid W)
        have HX : Hid (∀ r : Bool, ((r = true ∧ x.cid.st) ∨ (r = false ∧ ¬ x.cid.st)) → EsSo r es (k + 1)) := Lib.hid fun r hr => by
          rcases hr with ⟨rfl, h⟩ | ⟨rfl, h⟩
          · refine Or.inl ⟨rfl, fun y hy => ?_⟩
            rw [htk] at hy
            rcases List.mem_append.1 hy with h1 | h1
            · exact ht.out.t y h1
            · obtain rfl : y = x := by simpa using h1
              exact h
          · exact Or.inr ⟨rfl, fun h1 => h (h1.2 x hmem)⟩
        unfold cid4 at T
        generalize (⟨x.cid.dig.toArray⟩ : ByteArray) = d at *
        generalize (x.cid.ver : Int) = v0 at *
        generalize (x.cid.codec : Int) = v1 at *
        generalize (x.cid.code : Int) = v2 at *
        have HB := Lib.hid hb
        clear hcl hsv hks q0 q1 q2 q3 q4 htk hmem ht hb
        go_wp2_with fail
        refine (T _).out.mono ?_
        rintro e w1 ⟨htw, hb1⟩
        have b1 := below_next HB.out hb1
        clear hb1 T HB
        rcases htw with ⟨h, rfl⟩ | ⟨h, rfl⟩
        · have hnx := Lib.hid (HX.out true (Or.inl ⟨rfl, h⟩))
          clear HX h
          go_wp2
          go_roundw
          case rel => exact ⟨true, k + 1, by omega, rfl, by go_num, hnx, Lib.hid (fun _ => by first | exact h60.out rfl | exact h60.out trivial), b1⟩
          case measure => simp [intOf]; omega
        · have hnx := Lib.hid (HX.out false (Or.inr ⟨rfl, h⟩))
          clear HX h
          go_wp2
          go_roundw
          case rel => exact ⟨false, k + 1, by omega, rfl, by go_num, hnx, Lib.hid (fun h => nomatch h), b1⟩
          case measure => simp [intOf]; omega
      · obtain rfl : k = n := by omega
        have hall : es.take k = es := List.take_of_length_le (by rw [HN.out]; exact Nat.le_refl _)
        have hyes : Hid (esGood es) := Lib.hid ⟨by rw [← HN.out]; exact h60.out rfl, by have := ht.out.t; rwa [hall] at this⟩
        clear hall
        go_wp2
        go_ret
        exact ⟨Or.inl ⟨hyes.out, rfl⟩, hb⟩
end Go.Proofs.YthfgnhgijgjggaaDoor
/- A slice of entries as a row of cells; an append of one; the step of a region that appends. -/
namespace Go.Proofs.YthfgnhgijgjggaaDoor
open Go.RowKit

/-- An entry's cells. -/
def cellsE (e : EntD) : List Value := [.int .u64 e.cid.ver, .int .u64 e.cid.codec, .int .u64 e.cid.code, .string ⟨e.cid.dig.toArray⟩, .int .u64 e.off]
def cellsES (es : List EntD) : List Value := es.flatMap cellsE
theorem cellsES_length (es : List EntD) : (cellsES es).length = es.length * 5 := by
  induction es with
  | nil => rfl
  | cons e es ih =>
    unfold cellsES at *
    rw [List.flatMap_cons, List.length_append, ih, List.length_cons]
    show 5 + _ = _
    omega
theorem cellsES_snoc (es : List EntD) (e : EntD) : cellsES (es ++ [e]) = cellsES es ++ cellsE e := by
  unfold cellsES
  rw [List.flatMap_append]
  simp
theorem cellsES_get : ∀ (es : List EntD) (j r : Nat) (x : EntD), es[j]? = some x → r < 5 → (cellsES es)[j * 5 + r]? = (cellsE x)[r]?
  | [], j, r, x, h, _ => by simp at h
  | e :: es, 0, r, x, h, hr => by
    obtain rfl : e = x := by simpa using h
    show (cellsE e ++ cellsES es)[0 * 5 + r]? = _
    rw [Nat.zero_mul, Nat.zero_add, List.getElem?_append_left (by show r < 5; exact hr)]
  | e :: es, j + 1, r, x, h, hr => by
    show (cellsE e ++ cellsES es)[(j + 1) * 5 + r]? = _
    rw [List.getElem?_append_right (by show 5 ≤ _; omega)]
    show (cellsES es)[(j + 1) * 5 + r - 5]? = _
    rw [show (j + 1) * 5 + r - 5 = j * 5 + r by omega]
    exact cellsES_get es j r x (by simpa using h) hr

theorem es_of_own {w : World} {base : Nat} {v : Value} {es : List EntD} (h : w.ownsRow base 32 5 v es.length (cellsES es)) : ES w v es := by
  obtain ⟨hl, h⟩ := h
  rcases h with ⟨rfl, h0⟩ | ⟨g, cap, cur, rfl, hbg, hg, hnc, hcm, hcs, ht⟩
  · exact ⟨none, 0, by rw [h0], by omega, fun h => by omega⟩
  · refine ⟨_, cap, rfl, hnc, fun _ => ⟨g, 0, rfl, fun j x hj => ?_⟩⟩
    have key : ∀ r, r < 5 → w.cell? ⟨g, 0 + j * 5 + r, none⟩ = (cellsE x)[r]? := fun r hr => by
      have hlt : j < es.length := by
        rcases Nat.lt_or_ge j es.length with h | h
        · exact h
        · rw [List.getElem?_eq_none h] at hj; cases hj
      rw [Nat.zero_add, cell_of_row' (cur := cur.toList) (by rw [Array.toArray_toList]; exact hg), ← cellsES_get es j r x hj hr, ← ht, List.getElem?_take, if_pos (by omega)]
    exact ⟨key 0 (by omega), key 1 (by omega), key 2 (by omega), key 3 (by omega), key 4 (by omega)⟩

theorem news_of_es {w : World} {b o c : Nat} {es : List EntD} (h : ES w (.slice (some ⟨b, o, none⟩) es.length c) es) : ∀ (j : Nat) (u : Value), (cellsES es)[j]? = some u → w.cell? ((⟨b, o, none⟩ : Addr).add j) = some u := by
  intro j u hu
  have hlt : j < es.length * 5 := by
    rw [← cellsES_length]
    rcases Nat.lt_or_ge j (cellsES es).length with h | h
    · exact h
    · rw [List.getElem?_eq_none h] at hu; cases hu
  obtain ⟨A, c', e1, _, h⟩ := h
  obtain ⟨b', o', e2, h⟩ := h (by omega)
  injection e1 with e1 _ _
  rw [← e1] at e2
  injection e2 with e2
  injection e2 with e2 e3
  subst e2 e3
  obtain ⟨x, hx⟩ : ∃ x, es[j / 5]? = some x := ⟨_, List.getElem?_eq_getElem (by omega)⟩
  have h1 := h (j / 5) x hx
  have h2 := cellsES_get es (j / 5) (j % 5) x hx (by omega)
  have hj : j / 5 * 5 + j % 5 = j := by omega
  rw [hj, hu] at h2
  have hadd : (⟨b, o, none⟩ : Addr).add j = ⟨b, o + j / 5 * 5 + j % 5, none⟩ := by
    have : o + j = o + j / 5 * 5 + j % 5 := by omega
    unfold Addr.add
    split <;> simp_all
  rw [hadd]
  have hr : j % 5 = 0 ∨ j % 5 = 1 ∨ j % 5 = 2 ∨ j % 5 = 3 ∨ j % 5 = 4 := by omega
  rcases hr with hr | hr | hr | hr | hr <;> rw [hr] at h2 ⊢ <;> rw [h2]
  · exact h1.1
  · exact h1.2.1
  · exact h1.2.2.1
  · exact h1.2.2.2.1
  · exact h1.2.2.2.2
theorem oneCell_E (e : EntD) : ∀ u ∈ cellsE e, u.oneCell' = true := by
  intro u hu
  unfold cellsE at hu
  simp only [List.mem_cons, List.not_mem_nil, or_false] at hu
  rcases hu with rfl | rfl | rfl | rfl | rfl <;> rfl
theorem oneCell_ES (es : List EntD) : ∀ u ∈ cellsES es, u.oneCell' = true := by
  intro u hu
  obtain ⟨e, _, he⟩ := List.mem_flatMap.1 hu
  exact oneCell_E e u he

theorem info_ent : ∃ i, Tryd.prog.info? 32 = some i ∧ i.zero = some (.agg #[.int .u64 0, .int .u64 0, .int .u64 0, .string ⟨#[]⟩, .int .u64 0]) ∧ i.size = 5 ∧ i.bytes = 48 := by
  have h : (Tryd.prog.info? 32).map (fun i => (i.zero, i.size, i.bytes)) = some (some (.agg #[.int .u64 0, .int .u64 0, .int .u64 0, .string ⟨#[]⟩, .int .u64 0]), 5, 48) := by kernel_rfl
  obtain ⟨i, hi, h2⟩ := Option.map_eq_some_iff.1 h
  simp only [Prod.mk.injEq] at h2
  exact ⟨i, hi, h2.1, h2.2.1, h2.2.2⟩

/-- Nothing is appended. -/
theorem run_append_zero {w : World} {base : Nat} {v : Value} {n : Nat} {xs : List Value} (ty : TypeId) (hown : w.ownsRow base 32 5 v n xs) (A : Option Addr) (c : Nat) :
    (Builtin.append_ #[28, 28] ty #[v, .slice A 0 c]).run Tryd.prog w = .ok v w := by
  obtain ⟨i, hi, hz, hsz, _⟩ := info_ent
  have hu := run_underlying (P := Tryd.prog) Tryd.underlying28
  rcases hown.2 with ⟨rfl, rfl⟩ | ⟨g, cap, cur, rfl, _, hg, hnc, _⟩
  · cases A <;> simp [Builtin.append_, hu, sizeOf, typeInfo, hi, Builtin.lenOf, Builtin.firstCells, loadCells, loadCellsFrom, Result.andThen]
  · cases A <;> simp [Builtin.append_, hu, sizeOf, typeInfo, hi, Builtin.lenOf, Builtin.firstCells, hnc, storeCells, loadCells, loadCellsFrom, Result.andThen]

/-- An append of cells that are known, some or none. -/
theorem step_append_es {ops : Array Oper} {o : Oper} {a : Act} {w : World} {K : Act → World → Prop} {Q : Exit → Act → World → Prop} {E : Prop} (hgd : o.guard = none) (s x : Operand)
    (ho : o.op = .call { callee := .builtin .append, args := #[s, x], argTypes := #[28, 28] })
    (base : Nat) (v : Value) (n : Nat) (xs : List Value) (hs : a.eval s = v) (hown : w.ownsRow base 32 5 v n xs)
    (A : Option Addr) (m c : Nat) (news : List Value) (hx : a.eval x = .slice A m c) (hl : news.length = m * 5) (hnews : 0 < m → ∃ ad, A = some ad ∧ ∀ j u, news[j]? = some u → w.cell? (ad.add j) = some u) (h1 : ∀ u ∈ news, u.oneCell' = true)
    (hnm : n + m ≤ 1000) (hbase : base ≤ w.heap.size)
    (h : ∀ v' w', w'.ownsRow base 32 5 v' (n + m) (xs ++ news) → w.grownBy w' v.ownBlock → (v'.ownBlock = v.ownBlock ∨ v'.ownBlock = some w.heap.size) → K (a.put o.dst v') w') :
    if Region.wanted o (yielded ops a.tmps) = true then Oper.wp Tryd.prog o a w K Q else E := by
  obtain ⟨i, hi, hz, hsz, hby⟩ := info_ent
  rcases Nat.eq_zero_or_pos m with h0 | h0
  · subst h0
    have hn : news = [] := List.eq_nil_of_length_eq_zero (by rw [hl])
    subst hn
    have hw : Region.wanted o (yielded ops a.tmps) = true := by simp [Region.wanted, hgd]
    rw [if_pos hw]
    have hk := h v w (by simpa using hown) (World.grownBy.refl w _) (.inl rfl)
    have hrun := run_append_zero (w := w) o.type hown A c
    unfold Oper.wp execOp
    simp only [ho, resolve, invoke, builtin, Sem.run_bind, Sem.run_pure, Result.andThen_ok, List.map_toArray, List.map_cons, List.map_nil, hs, hx, hrun]
    exact hk
  · obtain ⟨ad, rfl, hn⟩ := hnews h0
    refine step_append_lies _ hgd s x 28 ho base 32 i _ 5 48 Tryd.underlying28 hi hz hsz hby (by rfl) (by decide) v n xs hs hown ad m c news hx hl hn h1 h0 (by unfold maxLen; omega) (by omega) hbase w.heap.size rfl ?_
    intro g cap w' h2 h3 h4 _
    refine h _ _ h2 h3 ?_
    rcases h4 with h4 | h4
    · exact .inl h4.symm
    · exact .inr (by rw [h4]; rfl)
end Go.Proofs.YthfgnhgijgjggaaDoor
/- Contracts: spec.SameHash, spec.OfDigest. -/
namespace Go.Proofs.YthfgnhgijgjggaaDoor
open Go.RowKit

theorem str_beq {a b : List UInt8} : ((⟨a.toArray⟩ : ByteArray).toList == (⟨b.toArray⟩ : ByteArray).toList) = decide (a = b) := by
  rw [ba_beq2]
  by_cases h : a = b
  · subst h; simp
  · have : ¬ ((⟨a.toArray⟩ : ByteArray) = ⟨b.toArray⟩) := fun e => h (by injection e with e; simpa using e)
    simp [h, this]

set_option maxRecDepth 100000 in
set_option maxHeartbeats 4000000 in
theorem sameHash_b (a c : CidD) (r : Bool) (hr : r = true ↔ a.code = c.code ∧ a.dig = c.dig) (w : World) :
    Calls Tryd.prog 17 #[cid4 a, cid4 c] w fun e w' => e = .returned (.bool r) ∧ Below w.heap.size w w' := by
  unfold cid4
  have hb : Below w.heap.size w ((w.alloc (.cells #[.int .u64 a.ver, .int .u64 a.codec, .int .u64 a.code, .string ⟨a.dig.toArray⟩] 26)).alloc (.cells #[.int .u64 c.ver, .int .u64 c.codec, .int .u64 c.code, .string ⟨c.dig.toArray⟩] 26)) := ((Below.refl _ w).alloc (Nat.le_refl _) _).alloc (by simp) _
  have HB := Lib.hid hb
  clear hb
  by_cases h1 : a.code = c.code
  · have e1 : ((a.code : Int) == c.code) = true := by rw [beq_iff_eq]; omega
    by_cases h2 : a.dig = c.dig
    · have e2 := (str_beq (a := a.dig) (b := c.dig)).trans (decide_eq_true h2)
      have HV : Hid (r = true) := Lib.hid (hr.2 ⟨h1, h2⟩)
      clear h1 h2 hr
      generalize (⟨a.dig.toArray⟩ : ByteArray) = d1 at *
      generalize (⟨c.dig.toArray⟩ : ByteArray) = d2 at *
      go_enter Tryd.func17, Tryd.ntmps17
      go_wp2
      go_ret
      exact ⟨by rw [HV.out]; rfl, HB.out⟩
    · have e2 := (str_beq (a := a.dig) (b := c.dig)).trans (decide_eq_false h2)
      have HV : Hid (r = false) := Lib.hid (by cases r; rfl; exact absurd (hr.1 rfl).2 h2)
      clear h1 h2 hr
      generalize (⟨a.dig.toArray⟩ : ByteArray) = d1 at *
      generalize (⟨c.dig.toArray⟩ : ByteArray) = d2 at *
      go_enter Tryd.func17, Tryd.ntmps17
      go_wp2
      go_ret
      exact ⟨by rw [HV.out]; rfl, HB.out⟩
  · have e1 : ((a.code : Int) == c.code) = false := by rw [beq_eq_false_iff_ne]; omega
    have HV : Hid (r = false) := Lib.hid (by cases r; rfl; exact absurd (hr.1 rfl).1 h1)
    clear h1 hr
    generalize (⟨a.dig.toArray⟩ : ByteArray) = d1 at *
    generalize (⟨c.dig.toArray⟩ : ByteArray) = d2 at *
    go_enter Tryd.func17, Tryd.ntmps17
    go_wp2
    go_ret
    exact ⟨by rw [HV.out]; rfl, HB.out⟩

theorem info_u64 : ∃ i, Tryd.prog.info? 23 = some i ∧ i.zero = some (.int .u64 0) ∧ i.size = 1 ∧ i.bytes = 8 := by
  have h : (Tryd.prog.info? 23).map (fun i => (i.zero, i.size, i.bytes)) = some (some (.int .u64 0), 1, 8) := by kernel_rfl
  obtain ⟨i, hi, h2⟩ := Option.map_eq_some_iff.1 h
  simp only [Prod.mk.injEq] at h2
  exact ⟨i, hi, h2.1, h2.2.1, h2.2.2⟩

/-- A slice of so many, some just if p. -/
def SomeIf (p : Prop) (e : Ending) : Prop := ∃ (A : Option Addr) (m c : Nat), e = .returned (.slice A m c) ∧ m ≤ 1000 ∧ (0 < m ↔ p)
/-- Whether a digest is there. -/
def hasD (es : List EntD) (dg : List UInt8) : Prop := ∃ e ∈ es, e.cid.dig = dg

set_option maxRecDepth 100000 in
set_option maxHeartbeats 8000000 in
theorem ofDigest_b (v : Value) (es : List EntD) (dg : List UInt8) (w : World) (hs : ES w v es) (hn : es.length ≤ 100) :
    Calls Tryd.prog 19 #[v, .string ⟨dg.toArray⟩] w fun e w' => SomeIf (hasD es dg) e ∧ Below w.heap.size w w' := by
  obtain ⟨i0, hi, hz0, hz1, hz2⟩ := info_u64
  obtain ⟨A, c, rfl, hc, hcells⟩ := hs
  obtain ⟨n, hN⟩ : ∃ n, n = es.length := ⟨_, rfl⟩
  rw [← hN] at hn
  have HC := Lib.hid hcells
  have HN := Lib.hid hN
  rw [← hN]
  clear hcells hc hN
  obtain ⟨D, hD⟩ : ∃ D : ByteArray, D = ⟨dg.toArray⟩ := ⟨_, rfl⟩
  rw [← hD]
  have HD := Lib.hid hD
  clear hD
  go_enter Tryd.func19, Tryd.ntmps19
  go_wp2
  go_loopw [5, 10] (fun v i wr => ∃ (k m : Nat) (xs : List Value), k ≤ n ∧ i = .int .i64 k ∧ Hid (wr.ownsRow w.heap.size 23 1 v m xs) ∧ m ≤ k ∧ Hid (0 < m ↔ hasD (es.take k) dg) ∧ Below w.heap.size w wr) (fun _ i _ => n - (intOf i).toNat)
  case atStart => exact ⟨0, 0, [], Nat.zero_le _, rfl, Lib.hid ⟨rfl, .inl ⟨rfl, rfl⟩⟩, Nat.le_refl _, Lib.hid (by simp [hasD]), Below.refl _ _⟩
  case round =>
    obtain ⟨k, m, xs, hk, rfl, hown, hmk, hiff, hb⟩ := hrel
    by_cases hlt : k < n
    · obtain ⟨b, o, rfl, hcl⟩ := HC.out (by rw [← HN.out]; omega)
      have hks : k < es.length := by rw [← HN.out]; exact hlt
      obtain ⟨x, hsv⟩ : ∃ x, es[k]? = some x := ⟨_, List.getElem?_eq_getElem hks⟩
      obtain ⟨q0, q1, q2, q3, q4⟩ := hcl k x hsv
      have c0 := below_cell hb q0
      have c1 := below_cell hb q1
      have c2 := below_cell hb q2
      have c3 := below_cell hb q3
      have c4 := below_cell hb q4
      have htk : es.take (k + 1) = es.take k ++ [x] := by rw [List.take_add_one, hsv]; rfl
      have hsn : hasD (es.take (k + 1)) dg ↔ hasD (es.take k) dg ∨ x.cid.dig = dg := by
        rw [htk]
        unfold hasD
        constructor
        · rintro ⟨e, he, h⟩
          rcases List.mem_append.1 he with h1 | h1
          · exact .inl ⟨e, h1, h⟩
          · obtain rfl : e = x := by simpa using h1
            exact .inr h
        · rintro (⟨e, he, h⟩ | h)
          · exact ⟨e, by simp [he], h⟩
          · exact ⟨x, by simp, h⟩
      have HSN := Lib.hid hsn
      have hbs := hb.size
      by_cases hx : x.cid.dig = dg
      · have heq := (str_beq (a := x.cid.dig) (b := dg)).trans (decide_eq_true hx)
        rw [← HD.out] at heq
        have hp : Hid (0 < m + 1 ↔ hasD (es.take (k + 1)) dg) := Lib.hid ⟨fun _ => HSN.out.2 (.inr hx), fun _ => by omega⟩
        generalize (⟨x.cid.dig.toArray⟩ : ByteArray) = d at *
        generalize (x.cid.ver : Int) = v0 at *
        generalize (x.cid.codec : Int) = v1 at *
        generalize (x.cid.code : Int) = v2 at *
        generalize (x.off : Int) = f at *
        have HB := Lib.hid hb
        clear hcl hsv hks q0 q1 q2 q3 q4 htk hsn HSN hx hb
        go_wp2_with (at_builtin; refine wpList_append_own_at _ rfl _ _ 36 rfl w.heap.size 23 i0 (.int .u64 0) 1 8 Tryd.underlying36 hi hz0 hz1 hz2 rfl (by decide) _ _ _ rfl ((hown.out.alloc _).alloc _) ⟨wr.heap.size + 1, 0, none⟩ 1 1 [.int .u64 f] rfl rfl ?c1 ?c2 ?c3 ?c4 ?c5 ?_)
        case c1 =>
          intro j u hj
          match j, hj with
          | 0, hj => simp at hj; subst hj; simp [Addr.add]
        case c2 => intro u hu; simp at hu; subst hu; rfl
        case c3 => unfold maxLen; omega
        case c4 => omega
        case c5 => simp; omega
        intro v' w2 hown' hgrow _ hat
        have hb2 : Below w.heap.size w w2 := ((HB.out.alloc HB.out.size _).alloc (by simp; omega) _).grown hgrow (by simp; omega) (fun q hq => (hown.out.lt q hq).1)
        have HO := Lib.hid hown'
        clear hown hgrow hown' hat
        go_wp2
        go_roundw
        case rel => exact ⟨k + 1, m + 1, _, by omega, by go_num, HO, by omega, hp, hb2⟩
        case measure => simp [intOf]; omega
      · have heq := (str_beq (a := x.cid.dig) (b := dg)).trans (decide_eq_false hx)
        rw [← HD.out] at heq
        have hp : Hid (0 < m ↔ hasD (es.take (k + 1)) dg) := Lib.hid (hiff.out.trans ⟨fun h => HSN.out.2 (.inl h), fun h => (HSN.out.1 h).resolve_right hx⟩)
        generalize (⟨x.cid.dig.toArray⟩ : ByteArray) = d at *
        generalize (x.cid.ver : Int) = v0 at *
        generalize (x.cid.codec : Int) = v1 at *
        generalize (x.cid.code : Int) = v2 at *
        generalize (x.off : Int) = f at *
        have hown2 := Lib.hid (hown.out.alloc (entO v0 v1 v2 d f))
        have hb2 := hb.alloc hb.size (entO v0 v1 v2 d f)
        clear hcl hsv hks q0 q1 q2 q3 q4 htk hsn HSN hx hb hown
        go_wp2
        go_roundw
        case rel => exact ⟨k + 1, m, _, by omega, by go_num, hown2, by omega, hp, hb2⟩
        case measure => simp [intOf]; omega
    · obtain rfl : k = n := by omega
      have hall : es.take k = es := List.take_of_length_le (by rw [HN.out]; exact Nat.le_refl _)
      rw [hall] at hiff
      have HO := hown.out.2
      rcases HO with ⟨rfl, h0⟩ | ⟨g, cap, cur, rfl, _⟩
      · clear hall hown
        go_wp2
        go_ret
        exact ⟨⟨none, 0, 0, rfl, by omega, by rw [← hiff.out, h0]⟩, hb⟩
      · clear hall hown
        go_wp2
        go_ret
        exact ⟨⟨_, m, cap, rfl, by omega, hiff.out⟩, hb⟩
end Go.Proofs.YthfgnhgijgjggaaDoor
/- A region that draws its order: each operation is shown once, out of what it waits for (a rule of this session's). -/
namespace Go.Proofs.YthfgnhgijgjggaaDoor
open Go Go.RowKit

section
variable {P : Program}

/-- What is asked of an operation that was carried out: a value and a world of which R holds. -/
def givesUpon (P : Program) (R : Value → World → Prop) : Result Next → Prop
  | .ok (.value u) w' => R u w'
  | .ok .skip w' => R undef w'
  | .ok (.enter f args) w' => Calls P f args w' (fun e w'' => ∃ v, e = .returned v ∧ R v w'')
  | _ => False

def gives (P : Program) (o : Oper) (ev : Operand → Value) (w : World) (R : Value → World → Prop) : Prop := givesUpon P R ((execOp ev o).run P w)

theorem wp_of_gives {o : Oper} {a : Act} {w : World} {R : Value → World → Prop} {K : Act → World → Prop} {Q : Exit → Act → World → Prop}
    (h : ∀ v w', R v w' → K (a.put o.dst v) w') (hg : gives P o a.eval w R) : o.wp P a w K Q := by
  unfold gives at hg
  unfold Oper.wp
  generalize (execOp a.eval o).run P w = r at *
  cases r with
  | ok n w' =>
    cases n <;> simp only [givesUpon] at hg <;> simp only [Oper.upon]
    case value u => exact h _ _ hg
    case skip => exact h _ _ hg
    case enter f args => exact hg.mono fun e w'' ⟨v, he, hr⟩ => by subst he; exact h _ _ hr
  | halt x w' => simp only [givesUpon] at hg

/-- The frame with the values u in the temporaries of the operations. -/
def fillD (u : Nat → Value) : List (Option Tmp) → Nat → Act → Act
  | [], _, a => a
  | d :: l, k, a => fillD u l (k + 1) (a.put d (u k))

def look (u : Nat → Value) : List (Option Tmp) → Nat → Tmp → Value → Value
  | [], _, _, z => z
  | some d :: l, k, t, z => look u l (k + 1) t (bif d == t then u k else z)
  | none :: l, k, t, z => look u l (k + 1) t z

def evalOf (u : Nat → Value) (ds : List (Option Tmp)) (a : Act) : Operand → Value
  | .tmp t => look u ds 0 t (a.tmps.getD t undef)
  | .const v => v
  | .global g => .pointer (some ⟨g, 0, none⟩)
  | .func f => .func (.func f) #[] #[]

def upd (u : Nat → Value) (i : Nat) (v : Value) : Nat → Value := fun j => if j = i then v else u j

def dstB (n : Nat) : List (Option Tmp) → Bool
  | [] => true
  | none :: l => dstB n l
  | some d :: l => decide (d < n) && !(l.contains (some d)) && dstB n l

theorem put_same (a : Act) (d : Option Tmp) (x y : Value) : (a.put d x).put d y = a.put d y := by
  cases d with
  | none => rfl
  | some d => simp [Act.put]

theorem fillD_put (u : Nat → Value) (d : Tmp) (v : Value) : ∀ (l : List (Option Tmp)) (k : Nat) (a : Act), l.contains (some d) = false → (fillD u l k a).put (some d) v = fillD u l k (a.put (some d) v)
  | [], _, _, _ => rfl
  | x :: l, k, a, h => by
    simp only [List.contains_cons, Bool.or_eq_false_iff] at h
    obtain ⟨h1, h2⟩ := h
    simp only [fillD]
    rw [fillD_put u d v l (k + 1) _ h2]
    congr 1
    exact Act.put_comm a _ _ (fun d' hd' he => by subst hd'; injection he with he; subst he; simp at h1)

theorem fillD_none (v : Value) (a : Act) : a.put none v = a := rfl

theorem fillD_congr {u u' : Nat → Value} : ∀ (l : List (Option Tmp)) (k : Nat) (a : Act), (∀ j, k ≤ j → u j = u' j) → fillD u l k a = fillD u' l k a
  | [], _, _, _ => rfl
  | x :: l, k, a, h => by
    simp only [fillD]
    rw [h k (Nat.le_refl _)]
    exact fillD_congr l (k + 1) _ (fun j hj => h j (by omega))

theorem fillD_congr_none {u u' : Nat → Value} : ∀ (l : List (Option Tmp)) (k : Nat) (a : Act), (∀ j d, l[j]? = some (some d) → u (k + j) = u' (k + j)) → fillD u l k a = fillD u' l k a
  | [], _, _, _ => rfl
  | none :: l, k, a, h => by
    simp only [fillD, fillD_none]
    exact fillD_congr_none l (k + 1) _ (fun j d hj => by have := h (j + 1) d (by simpa using hj); rwa [Nat.add_assoc, Nat.add_comm 1 j])
  | some d :: l, k, a, h => by
    simp only [fillD]
    rw [show u k = u' k from h 0 d rfl]
    exact fillD_congr_none l (k + 1) _ (fun j d hj => by have := h (j + 1) d (by simpa using hj); rwa [Nat.add_assoc, Nat.add_comm 1 j])

theorem fillD_upd (n : Nat) (u : Nat → Value) (v : Value) : ∀ (l : List (Option Tmp)) (k i : Nat) (a : Act) (d : Option Tmp), dstB n l = true → l[i]? = some d → (fillD u l k a).put d v = fillD (upd u (k + i) v) l k a
  | [], _, _, _, _, _, h => by simp at h
  | x :: l, k, 0, a, d, hB, h => by
    obtain rfl : x = d := by simpa using h
    simp only [fillD]
    have e : upd u (k + 0) v k = v := by simp [upd]
    have e2 : ∀ b, fillD (upd u (k + 0) v) l (k + 1) b = fillD u l (k + 1) b := fun b => fillD_congr _ _ _ (fun j hj => by simp [upd]; omega)
    rw [e2, e]
    cases x with
    | none => rfl
    | some d =>
      simp only [dstB, Bool.and_eq_true, Bool.not_eq_true'] at hB
      rw [fillD_put u d v l (k + 1) _ hB.1.2, put_same]
  | x :: l, k, i + 1, a, d, hB, h => by
    simp only [fillD]
    have hB' : dstB n l = true := by cases x <;> simp only [dstB, Bool.and_eq_true] at hB <;> first | exact hB | exact hB.2
    have := fillD_upd n u v l (k + 1) i (a.put x (u k)) d hB' (by simpa using h)
    rw [this, show k + 1 + i = k + (i + 1) by omega]
    congr 2
    simp [upd]

theorem put_own (a : Act) (d : Tmp) : a.put (some d) (a.tmps.getD d undef) = a := by
  unfold Act.put
  cases a with
  | mk tmps defers =>
    simp only [Act.mk.injEq, and_true]
    apply Array.ext_getElem?
    intro j
    rw [Array.getElem?_setIfInBounds]
    by_cases h : d = j
    · subst h
      by_cases h2 : d < tmps.size
      · simp [h2]
      · simp [h2]
    · simp [h]

theorem fillD_own (a : Act) : ∀ (l : List (Option Tmp)) (k : Nat) (u : Nat → Value), (∀ j d, l[j]? = some (some d) → u (k + j) = a.tmps.getD d undef) → fillD u l k a = a
  | [], _, _, _ => rfl
  | x :: l, k, u, h => by
    simp only [fillD]
    have e : a.put x (u k) = a := by
      cases x with
      | none => rfl
      | some d => rw [show u k = _ from h 0 d rfl]; exact put_own a d
    rw [e]
    exact fillD_own a l (k + 1) u (fun j d hj => by have := h (j + 1) d (by simpa using hj); rw [← this]; congr 1; omega)

theorem put_getD (a : Act) (d t : Tmp) (v : Value) (h : d < a.tmps.size) : (a.put (some d) v).tmps.getD t undef = bif d == t then v else a.tmps.getD t undef := by
  by_cases e : d = t
  · subst e; simp [Act.put, h]
  · have e' : (d == t) = false := by simpa using e
    simp [Act.put, Array.getElem?_setIfInBounds_ne e, e']

theorem put_size (a : Act) (d : Option Tmp) (v : Value) : (a.put d v).tmps.size = a.tmps.size := by
  cases d <;> simp [Act.put]

theorem fillD_size (u : Nat → Value) : ∀ (l : List (Option Tmp)) (k : Nat) (a : Act), (fillD u l k a).tmps.size = a.tmps.size
  | [], _, _ => rfl
  | x :: l, k, a => by simp only [fillD]; rw [fillD_size u l (k + 1), put_size]

theorem fillD_look (u : Nat → Value) (t : Tmp) : ∀ (l : List (Option Tmp)) (k : Nat) (a : Act), dstB a.tmps.size l = true → (fillD u l k a).tmps.getD t undef = look u l k t (a.tmps.getD t undef)
  | [], _, _, _ => rfl
  | none :: l, k, a, hB => by simp only [fillD, look, fillD_none]; exact fillD_look u t l (k + 1) a hB
  | some d :: l, k, a, hB => by
    simp only [dstB, Bool.and_eq_true, decide_eq_true_eq] at hB
    simp only [fillD, look]
    rw [fillD_look u t l (k + 1) _ (by rw [put_size]; exact hB.2), put_getD _ _ _ _ hB.1.1]

theorem fillD_eval (u : Nat → Value) (l : List (Option Tmp)) (a : Act) (hB : dstB a.tmps.size l = true) : (fillD u l 0 a).eval = evalOf u l a := by
  funext x
  cases x with
  | tmp t => exact fillD_look u t l 0 a hB
  | _ => rfl

theorem look_none (u : Nat → Value) (t : Tmp) : ∀ (l : List (Option Tmp)) (k : Nat) (z : Value), l.contains (some t) = false → look u l k t z = z
  | [], _, _, _ => rfl
  | none :: l, k, z, h => by simp only [look]; exact look_none u t l (k + 1) z (by simpa using h)
  | some d :: l, k, z, h => by
    simp only [List.contains_cons, Bool.or_eq_false_iff] at h
    have e : (d == t) = false := by
      have := h.1
      rw [beq_eq_false_iff_ne] at this ⊢
      intro e; subst e; exact this rfl
    simp only [look, e, cond_false]
    exact look_none u t l (k + 1) z h.2

theorem look_at (n : Nat) (u : Nat → Value) (t : Tmp) : ∀ (l : List (Option Tmp)) (k i : Nat) (z : Value), dstB n l = true → l[i]? = some (some t) → look u l k t z = u (k + i)
  | [], _, _, _, _, h => by simp at h
  | none :: l, k, 0, z, hB, h => by simp at h
  | none :: l, k, i + 1, z, hB, h => by
    simp only [look]
    rw [look_at n u t l (k + 1) i z hB (by simpa using h)]
    congr 1; omega
  | some d :: l, k, 0, z, hB, h => by
    obtain rfl : d = t := by simpa using h
    simp only [dstB, Bool.and_eq_true, Bool.not_eq_true'] at hB
    simp only [look, beq_self_eq_true, cond_true]
    rw [look_none u d l (k + 1) _ hB.1.2]; rfl
  | some d :: l, k, i + 1, z, hB, h => by
    simp only [dstB, Bool.and_eq_true] at hB
    simp only [look]
    rw [look_at n u t l (k + 1) i _ hB.2 (by simpa using h)]
    congr 1; omega

def asBool : Value → Option Bool
  | .bool b => some b
  | _ => none

/-- Is the operation wanted, by the value of the one that guards it? -/
def wants (u : Nat → Value) : Option (Nat × Bool) → Bool
  | none => true
  | some (g, b) => asBool (u g) == some b

def okB (ops : List Oper) : Bool :=
  (List.range ops.length).all fun i => match ops[i]? with
    | none => true
    | some o => o.after.toList.all (fun e => !Region.binds .any e || decide (e.on < i)) &&
      (match o.guard with
       | none => true
       | some (g, _) => match ops[g]? with
         | some og => og.dst.isSome
         | none => false)

def factAt (F : List (Value → World → Prop)) (i : Nat) (v : Value) (w : World) : Prop := match F[i]? with
  | some Φ => Φ v w
  | none => True

def knows (u : Nat → Value) (w : World) (F : List (Value → World → Prop)) : List Edge → Prop
  | [] => True
  | e :: es => (if Region.binds .any e = true then factAt F e.on (u e.on) w else True) ∧ knows u w F es

def allFacts (u : Nat → Value) (w : World) : List (Value → World → Prop) → Nat → Prop
  | [], _ => True
  | Φ :: F, k => Φ (u k) w ∧ allFacts u w F (k + 1)

/-- The obligation of one operation. -/
def Ob (P : Program) (Le : World → World → Prop) (w0 : World) (a : Act) (ds : List (Option Tmp)) (F : List (Value → World → Prop)) (o : Oper) (Φ : Value → World → Prop) : Prop :=
  (∀ v w1 w2, Le w1 w2 → Φ v w1 → Φ v w2) ∧
  ∀ u w', Le w0 w' → knows u w' F o.after.toList → if wants u o.guard = true then gives P o (evalOf u ds a) w' (fun v w'' => Le w' w'' ∧ Φ v w'') else Φ undef w'

/-- The operations one by one; F: what the earlier ones leave. -/
def Each (P : Program) (Le : World → World → Prop) (w0 : World) (a : Act) (ds : List (Option Tmp)) (Q : (Nat → Value) → World → Prop) : List Oper → List (Value → World → Prop) → Prop
  | [], F => ∀ u w', Le w0 w' → allFacts u w' F 0 → Q u w'
  | o :: rest, F => ∃ Φ : Value → World → Prop, Ob P Le w0 a ds F o Φ ∧ Each P Le w0 a ds Q rest (F ++ [Φ])

theorem allFacts_of {u : Nat → Value} {w : World} : ∀ (F : List (Value → World → Prop)) (k : Nat), (∀ (i : Nat) (Φ : Value → World → Prop), F[i]? = some Φ → Φ (u (k + i)) w) → allFacts u w F k
  | [], _, _ => trivial
  | Φ :: F, k, h => ⟨h 0 Φ rfl, allFacts_of F (k + 1) (fun i Ψ hi => by have := h (i + 1) Ψ (by simpa using hi); rwa [show k + 1 + i = k + (i + 1) by omega])⟩

theorem knows_of {u : Nat → Value} {w : World} {F : List (Value → World → Prop)} : ∀ (es : List Edge), (∀ e ∈ es, Region.binds .any e = true → factAt F e.on (u e.on) w) → knows u w F es
  | [], _ => trivial
  | e :: es, h => ⟨by split; exact h e (by simp) (by assumption); trivial, knows_of es (fun e he => h e (by simp [he]))⟩

theorem Each.out {Le : World → World → Prop} {w0 : World} {a : Act} {ds : List (Option Tmp)} {Q : (Nat → Value) → World → Prop} :
    ∀ (l : List Oper) (F : List (Value → World → Prop)), Each P Le w0 a ds Q l F →
      ∃ G : List (Value → World → Prop), G.length = l.length ∧ (∀ k o, l[k]? = some o → ∃ Φ, G[k]? = some Φ ∧ Ob P Le w0 a ds (F ++ G.take k) o Φ) ∧ (∀ u w', Le w0 w' → allFacts u w' (F ++ G) 0 → Q u w')
  | [], F, h => ⟨[], rfl, fun k o hk => by simp at hk, by simpa [Each] using h⟩
  | o :: l, F, ⟨Φ, h1, h2⟩ => by
    obtain ⟨G, g1, g2, g3⟩ := Each.out l _ h2
    refine ⟨Φ :: G, by simp [g1], fun k o' hk => ?_, fun u w' hw hf => g3 u w' hw (by simpa using hf)⟩
    cases k with
    | zero =>
      obtain rfl : o = o' := by simpa using hk
      exact ⟨Φ, rfl, by simpa using h1⟩
    | succ k =>
      obtain ⟨Ψ, hΨ, hO⟩ := g2 k o' (by simpa using hk)
      exact ⟨Ψ, by simpa using hΨ, by simpa using hO⟩

def leftN (listed : Array Bool) : Nat := (listed.toList.filter (!·)).length

theorem left_set : ∀ (l : List Bool) (i : Nat), l[i]? = some false → ((l.set i true).filter (!·)).length + 1 = (l.filter (!·)).length
  | [], _, h => by simp at h
  | b :: l, 0, h => by
    obtain rfl : b = false := by simpa using h
    simp
  | b :: l, i + 1, h => by
    have := left_set l i (by simpa using h)
    cases b <;> simp at * <;> omega

theorem yielded_fill (ops : List Oper) (ds : List (Option Tmp)) (hds : ops.map (·.dst) = ds) (u : Nat → Value) (a : Act) (hB : dstB a.tmps.size ds = true) (g : Nat) (og : Oper) (hg : ops[g]? = some og) (d : Tmp) (hd : og.dst = some d) :
    yielded ops.toArray (fillD u ds 0 a).tmps g = asBool (u g) := by
  have hat : ds[g]? = some (some d) := by rw [← hds, List.getElem?_map, hg]; simp [hd]
  have hmem : ∀ (l : List (Option Tmp)) (j : Nat), dstB a.tmps.size l = true → l[j]? = some (some d) → d < a.tmps.size := by
    intro l
    induction l with
    | nil => intro j _ h; simp at h
    | cons x l ih =>
      intro j hb hj
      cases j with
      | zero =>
        obtain rfl : x = some d := by simpa using hj
        simp only [dstB, Bool.and_eq_true, decide_eq_true_eq] at hb
        exact hb.1.1
      | succ j =>
        refine ih j ?_ (by simpa using hj)
        cases x <;> simp only [dstB, Bool.and_eq_true] at hb <;> first | exact hb | exact hb.2
  have hlt : d < (fillD u ds 0 a).tmps.size := by rw [fillD_size]; exact hmem ds g hB hat
  have hv : (fillD u ds 0 a).tmps.getD d undef = u g := by
    rw [fillD_look u d ds 0 a hB, look_at _ u d ds 0 g _ hB hat, Nat.zero_add]
  have hv2 : (fillD u ds 0 a).tmps[d]? = some (u g) := by
    rw [← hv]; simp [hlt]
  unfold yielded
  have : (ops.toArray[g]?).bind (·.dst) = some d := by simp [hg, hd]
  rw [this]
  simp only [Option.bind_some, hv2]
  cases u g <;> rfl

theorem wanted_fill (ops : List Oper) (ds : List (Option Tmp)) (hds : ops.map (·.dst) = ds) (u : Nat → Value) (a : Act) (hB : dstB a.tmps.size ds = true) (hok : okB ops = true) (i : Nat) (o : Oper) (hi : ops[i]? = some o) :
    Region.wanted o (yielded ops.toArray (fillD u ds 0 a).tmps) = wants u o.guard := by
  unfold Region.wanted wants
  have hlt : i < ops.length := by
    rcases Nat.lt_or_ge i ops.length with h | h
    · exact h
    · rw [List.getElem?_eq_none h] at hi; cases hi
  have h1 := (List.all_eq_true.1 hok) i (List.mem_range.2 hlt)
  simp only [hi, Bool.and_eq_true] at h1
  have h2 := h1.2
  cases hgd : o.guard with
  | none => rfl
  | some gb =>
    obtain ⟨g, b⟩ := gb
    simp only [hgd] at h2
    cases hog : ops[g]? with
    | none => simp [hog] at h2
    | some og =>
      simp only [hog] at h2
      obtain ⟨d, hd⟩ := Option.isSome_iff_exists.1 h2
      simp only [yielded_fill ops ds hds u a hB g og hog d hd]

theorem all_listed {ops : List Oper} (hok : okB ops = true) {listed : Array Bool} (hs : listed.size = ops.length) (hr : Region.ready .any ops.toArray listed = []) : ∀ n i, i < n → i < ops.length → listed.getD i true = true := by
  intro n
  induction n with
  | zero => intro i hi; omega
  | succ n ih =>
    intro i hi hlt
    by_cases hn : i < n
    · exact ih i hn hlt
    · cases hli : listed.getD i true with
      | true => rfl
      | false =>
        exfalso
        obtain ⟨o, ho⟩ : ∃ o, ops[i]? = some o := ⟨_, List.getElem?_eq_getElem hlt⟩
        have h1 := (List.all_eq_true.1 hok) i (List.mem_range.2 hlt)
        simp only [ho, Bool.and_eq_true] at h1
        have hmem : i ∈ Region.ready .any ops.toArray listed := by
          refine mem_ready.2 ⟨hli, o, by simpa using ho, fun e he hb => ?_⟩
          have h3 := (List.all_eq_true.1 h1.1) e (by simpa using he)
          simp only [hb, Bool.not_true, Bool.false_or, decide_eq_true_eq] at h3
          have h4 := ih e.on (by omega) (by omega)
          have hsz : e.on < listed.size := by omega
          simpa [hsz] using h4
        rw [hr] at hmem
        cases hmem

theorem each_any {Le : World → World → Prop} (hrefl : ∀ w, Le w w) (htrans : ∀ x y z, Le x y → Le y z → Le x z) {w0 : World} {a : Act} {ops : List Oper} {ds : List (Option Tmp)} {Q : Exit → Act → World → Prop}
    (hds : ops.map (·.dst) = ds) (hB : dstB a.tmps.size ds = true) (hok : okB ops = true) (G : List (Value → World → Prop)) (hG : G.length = ops.length)
    (hO : ∀ k o, ops[k]? = some o → ∃ Φ, G[k]? = some Φ ∧ Ob P Le w0 a ds (G.take k) o Φ) (hQ : ∀ u w', Le w0 w' → allFacts u w' G 0 → Q .normal (fillD u ds 0 a) w') :
    ∀ (fuel : Nat) (listed : Array Bool) (u : Nat → Value) (w' : World), Le w0 w' → listed.size = ops.length → leftN listed ≤ fuel →
      (∀ i Φ, listed.getD i false = true → G[i]? = some Φ → Φ (u i) w') → wpAny P .any ops.toArray Q fuel listed (fillD u ds 0 a) w' := by
  have hend : ∀ (listed : Array Bool) (u : Nat → Value) (w' : World), Le w0 w' → listed.size = ops.length → (∀ i Φ, listed.getD i false = true → G[i]? = some Φ → Φ (u i) w') →
      Region.ready .any ops.toArray listed = [] → Q .normal (fillD u ds 0 a) w' := by
    intro listed u w' hw hs hf hr
    refine hQ u w' hw (allFacts_of _ _ fun i Φ hi => ?_)
    rw [Nat.zero_add]
    have hlt : i < ops.length := by
      rcases Nat.lt_or_ge i ops.length with h | h
      · exact h
      · rw [List.getElem?_eq_none (by omega)] at hi; cases hi
    have hl := all_listed hok hs hr (i + 1) i (by omega) hlt
    refine hf i Φ ?_ hi
    have hsz : i < listed.size := by omega
    simpa [hsz] using hl
  intro fuel
  induction fuel with
  | zero =>
    intro listed u w' hw hs hl hf
    have hr : Region.ready .any ops.toArray listed = [] := by
      rw [List.eq_nil_iff_forall_not_mem]
      intro i hi
      have h0 := (mem_ready.1 hi).1
      have hlt : i < listed.size := by
        rcases Nat.lt_or_ge i listed.size with h | h
        · exact h
        · simp [Array.getElem?_eq_none h] at h0
      have hz : listed.toList.filter (!·) = [] := List.length_eq_zero_iff.1 (by unfold leftN at hl; omega)
      have hm : listed[i] ∈ listed.toList := by simp
      have := List.filter_eq_nil_iff.1 hz _ hm
      simp [hlt] at h0
      simp [h0] at this
    exact ⟨hr, hend listed u w' hw hs hf hr⟩
  | succ fuel ih =>
    intro listed u w' hw hs hl hf
    refine ⟨fun hr => hend listed u w' hw hs hf hr, fun i hi => ?_⟩
    obtain ⟨h0, o, ho, hall⟩ := mem_ready.1 hi
    have ho' : ops[i]? = some o := by simpa using ho
    have hlt : i < ops.length := by
      rcases Nat.lt_or_ge i ops.length with h | h
      · exact h
      · rw [List.getElem?_eq_none h] at ho'; cases ho'
    obtain ⟨Φ, hΦ, hstab, hob⟩ := hO i o ho'
    have hli : listed.toList[i]? = some false := by
      have hsz : i < listed.size := by omega
      simp [hsz] at h0
      simp [hsz, h0]
    have hleft : leftN (listed.setIfInBounds i true) ≤ fuel := by
      have := left_set listed.toList i hli
      unfold leftN at hl ⊢
      rw [Array.toList_setIfInBounds]
      omega
    have hkn : knows u w' (G.take i) o.after.toList := knows_of _ fun e he hb => by
      unfold factAt
      split
      · rename_i Ψ hΨ
        have h1 := hall e (by simpa using he) hb
        refine hf e.on Ψ h1 ?_
        rw [List.getElem?_take] at hΨ
        split at hΨ
        · exact hΨ
        · cases hΨ
      · trivial
    have hstep := hob u w' hw hkn
    have hnext : ∀ v w'', Le w' w'' → Φ v w'' → wpAny P .any ops.toArray Q fuel (listed.setIfInBounds i true) ((fillD u ds 0 a).put o.dst v) w'' := by
      intro v w'' hle hv
      have hat : ds[i]? = some o.dst := by rw [← hds, List.getElem?_map, ho']; rfl
      rw [fillD_upd _ u v ds 0 i a o.dst hB hat, Nat.zero_add]
      refine ih _ _ _ (htrans _ _ _ hw hle) (by simpa using hs) hleft fun j Ψ hj hΨ => ?_
      by_cases hji : j = i
      · subst hji
        obtain rfl : Φ = Ψ := by rw [hΦ] at hΨ; injection hΨ
        simpa [upd] using hv
      · rw [show upd u i v j = u j by simp [upd, hji]]
        rw [getD_set_ne false (Ne.symm hji)] at hj
        obtain ⟨oj, hoj⟩ : ∃ oj, ops[j]? = some oj := by
          rcases Nat.lt_or_ge j ops.length with h | h
          · exact ⟨_, List.getElem?_eq_getElem h⟩
          · rw [List.getElem?_eq_none (by omega)] at hΨ; cases hΨ
        obtain ⟨Ψ', hΨ', hst, _⟩ := hO j oj hoj
        obtain rfl : Ψ' = Ψ := by rw [hΨ'] at hΨ; injection hΨ
        exact hst _ _ _ hle (hf j _ hj hΨ)
    unfold wpOp
    simp only [ho]
    rw [wanted_fill ops ds hds u a hB hok i o ho']
    by_cases hw2 : wants u o.guard = true
    · simp only [hw2, if_true] at hstep ⊢
      refine .inl (wp_of_gives (R := fun v w'' => Le w' w'' ∧ Φ v w'') (fun v w'' h => hnext v w'' h.1 h.2) ?_)
      rw [fillD_eval u ds a hB]
      exact hstep
    · simp only [hw2] at hstep ⊢
      exact hnext undef w' (hrefl _) hstep

/-- **A region that draws its order, each operation shown once**: out of what the operations that it waits for leave (in whatever world has come about), it gives a value and a world of which its own fact holds; facts hold on in all later worlds. -/
theorem wp_region_each (Le : World → World → Prop) (hrefl : ∀ w, Le w w) (htrans : ∀ x y z, Le x y → Le y z → Le x z) {id : Nat} {a : Act} {w : World} {l : List Oper} (ds : List (Option Tmp)) {Q : Exit → Act → World → Prop}
    (hm : P.follows .mixedOrders = true) (hds : l.map (·.dst) = ds) (hB : dstB a.tmps.size ds = true) (hok : okB l = true)
    (h : Each P Le w.drew a ds (fun u w' => Q .normal (fillD u ds 0 a) w') l []) : (Code.region id l.toArray true).wp P Q a w := by
  obtain ⟨G, h1, h2, h3⟩ := Each.out l [] h
  refine wp_region_any hm ?_
  have hown := fillD_own a ds 0 (fun i => match ds[i]? with | some (some d) => a.tmps.getD d undef | _ => undef) (fun j d hj => by rw [Nat.zero_add]; simp only [hj])
  rw [← hown]
  refine each_any (Q := Q) hrefl htrans hds hB hok G h1 (by simpa using h2) (by simpa using h3) _ _ _ _ (hrefl _) (by simp) (by simp [leftN]) (fun i Φ hi _ => ?_)
  exfalso
  rcases Nat.lt_or_ge i l.length with h | h
  · simp [h] at hi
  · have hz : (Array.replicate l.toArray.size false)[i]? = none := Array.getElem?_eq_none (by simpa using h)
    simp only [Array.getD_eq_getD_getElem?, hz] at hi
    cases hi

/-- What was there has stayed; how the world goes on. -/
def BLe (x y : World) : Prop := Below x.heap.size x y
theorem BLe.refl' (w : World) : BLe w w := Below.refl _ _
theorem BLe.trans' (x y z : World) (h : BLe x y) (k : BLe y z) : BLe x z := h.trans (k.mono h.size)

theorem wp_region_below {id : Nat} {a : Act} {w : World} {l : List Oper} (ds : List (Option Tmp)) {Q : Exit → Act → World → Prop}
    (hm : P.follows .mixedOrders = true) (hds : l.map (·.dst) = ds) (hB : dstB a.tmps.size ds = true) (hok : okB l = true)
    (h : Each P BLe w.drew a ds (fun u w' => Q .normal (fillD u ds 0 a) w') l []) : (Code.region id l.toArray true).wp P Q a w :=
  wp_region_each BLe BLe.refl' BLe.trans' ds hm hds hB hok h

/-- One value, in every world. -/
theorem Each.fixed {w0 : World} {a : Act} {ds : List (Option Tmp)} {Q : (Nat → Value) → World → Prop} {o : Oper} {rest : List Oper} {F : List (Value → World → Prop)} (v : Value)
    (h : ∀ u w', Below w0.heap.size w0 w' → knows u w' F o.after.toList → wants u o.guard = true ∧ gives P o (evalOf u ds a) w' (fun x w'' => w'' = w' ∧ x = v))
    (hrest : Each P BLe w0 a ds Q rest (F ++ [fun x _ => x = v])) : Each P BLe w0 a ds Q (o :: rest) F := by
  refine ⟨_, ⟨fun _ _ _ _ h => h, fun u w' hw hk => ?_⟩, hrest⟩
  obtain ⟨h1, h2⟩ := h u w' hw hk
  simp only [h1, if_true]
  unfold gives at *
  generalize (execOp (evalOf u ds a) o).run P w' = r at *
  cases r with
  | ok n w' =>
    cases n <;> simp only [givesUpon] at h2 ⊢
    · obtain ⟨rfl, rfl⟩ := h2; exact ⟨BLe.refl' _, rfl⟩
    · obtain ⟨rfl, rfl⟩ := h2; exact ⟨BLe.refl' _, rfl⟩
    · exact h2.mono fun e w'' ⟨x, he, hw, hx⟩ => ⟨x, he, by subst hw; exact BLe.refl' _, hx⟩
  | halt x w' => simp only [givesUpon] at h2

/-- It is not wanted. -/
theorem Each.skipped {w0 : World} {a : Act} {ds : List (Option Tmp)} {Q : (Nat → Value) → World → Prop} {o : Oper} {rest : List Oper} {F : List (Value → World → Prop)}
    (h : ∀ u w', Below w0.heap.size w0 w' → knows u w' F o.after.toList → wants u o.guard = false)
    (hrest : Each P BLe w0 a ds Q rest (F ++ [fun x _ => x = undef])) : Each P BLe w0 a ds Q (o :: rest) F := by
  refine ⟨_, ⟨fun _ _ _ _ h => h, fun u w' hw hk => ?_⟩, hrest⟩
  rw [h u w' hw hk]
  simp

/-- A call or a making: one fact of the value in the world behind, that holds on. -/
theorem Each.made {w0 : World} {a : Act} {ds : List (Option Tmp)} {Q : (Nat → Value) → World → Prop} {o : Oper} {rest : List Oper} {F : List (Value → World → Prop)} (Φ : Value → World → Prop)
    (hst : ∀ v w1 w2, Below w1.heap.size w1 w2 → Φ v w1 → Φ v w2)
    (h : ∀ u w', Below w0.heap.size w0 w' → knows u w' F o.after.toList → wants u o.guard = true ∧ gives P o (evalOf u ds a) w' (fun x w'' => Below w'.heap.size w' w'' ∧ Φ x w''))
    (hrest : Each P BLe w0 a ds Q rest (F ++ [Φ])) : Each P BLe w0 a ds Q (o :: rest) F := by
  refine ⟨Φ, ⟨hst, fun u w' hw hk => ?_⟩, hrest⟩
  obtain ⟨h1, h2⟩ := h u w' hw hk
  simp only [h1, if_true]
  exact h2
end
end Go.Proofs.YthfgnhgijgjggaaDoor
/- A region that draws its order, each operation shown once, where an operation may read what a later one assigns (a rule of this session's). -/
namespace Go.Proofs.YthfgnhgijgjggaaDoor
open Go Go.RowKit

section
variable {P : Program}

/-- Does operation j wait for operation i? -/
def waitsOn (ops : List Oper) (j i : Nat) : Bool := match ops[j]? with
  | some oj => oj.after.toList.any (fun e => Region.binds .any e && e.on == i)
  | none => false
/-- What waits for i has not been carried out: its temporary is as it was. -/
def freshAt (ops : List Oper) (ds : List (Option Tmp)) (a : Act) (u : Nat → Value) (i : Nat) : Prop := ∀ j d, waitsOn ops j i = true → ds[j]? = some (some d) → u j = a.tmps.getD d undef

/-- The obligation of one operation. -/
def ObW (P : Program) (Le : World → World → Prop) (w0 : World) (a : Act) (ds : List (Option Tmp)) (ops : List Oper) (F : List (Value → World → Prop)) (i : Nat) (o : Oper) (Φ : Value → World → Prop) : Prop :=
  (∀ v w1 w2, Le w1 w2 → Φ v w1 → Φ v w2) ∧
  ∀ u w', Le w0 w' → knows u w' F o.after.toList → freshAt ops ds a u i → if wants u o.guard = true then gives P o (evalOf u ds a) w' (fun v w'' => Le w' w'' ∧ Φ v w'') else Φ undef w'

/-- The operations one by one; F: what the earlier ones leave. -/
def EachW (P : Program) (Le : World → World → Prop) (w0 : World) (a : Act) (ds : List (Option Tmp)) (Q : (Nat → Value) → World → Prop) (ops : List Oper) : List Oper → List (Value → World → Prop) → Prop
  | [], F => ∀ u w', Le w0 w' → allFacts u w' F 0 → Q u w'
  | o :: rest, F => ∃ Φ : Value → World → Prop, ObW P Le w0 a ds ops F F.length o Φ ∧ EachW P Le w0 a ds Q ops rest (F ++ [Φ])

theorem EachW.out {Le : World → World → Prop} {w0 : World} {a : Act} {ds : List (Option Tmp)} {Q : (Nat → Value) → World → Prop} (ops : List Oper) :
    ∀ (l : List Oper) (F : List (Value → World → Prop)), EachW P Le w0 a ds Q ops l F →
      ∃ G : List (Value → World → Prop), G.length = l.length ∧ (∀ k o, l[k]? = some o → ∃ Φ, G[k]? = some Φ ∧ ObW P Le w0 a ds ops (F ++ G.take k) (F.length + k) o Φ) ∧ (∀ u w', Le w0 w' → allFacts u w' (F ++ G) 0 → Q u w')
  | [], F, h => ⟨[], rfl, fun k o hk => by simp at hk, by simpa [EachW] using h⟩
  | o :: l, F, ⟨Φ, h1, h2⟩ => by
    obtain ⟨G, g1, g2, g3⟩ := EachW.out ops l _ h2
    refine ⟨Φ :: G, by simp [g1], fun k o' hk => ?_, fun u w' hw hf => g3 u w' hw (by simpa using hf)⟩
    cases k with
    | zero =>
      obtain rfl : o = o' := by simpa using hk
      exact ⟨Φ, rfl, by simpa using h1⟩
    | succ k =>
      obtain ⟨Ψ, hΨ, hO⟩ := g2 k o' (by simpa using hk)
      refine ⟨Ψ, by simpa using hΨ, ?_⟩
      have e : (F ++ [Φ]).length + k = F.length + (k + 1) := by simp; omega
      rw [e] at hO
      simpa using hO

theorem each_anyW {Le : World → World → Prop} (hrefl : ∀ w, Le w w) (htrans : ∀ x y z, Le x y → Le y z → Le x z) {w0 : World} {a : Act} {ops : List Oper} {ds : List (Option Tmp)} {Q : Exit → Act → World → Prop}
    (hds : ops.map (·.dst) = ds) (hB : dstB a.tmps.size ds = true) (hok : okB ops = true) (G : List (Value → World → Prop)) (hG : G.length = ops.length)
    (hO : ∀ k o, ops[k]? = some o → ∃ Φ, G[k]? = some Φ ∧ ObW P Le w0 a ds ops (G.take k) k o Φ) (hQ : ∀ u w', Le w0 w' → allFacts u w' G 0 → Q .normal (fillD u ds 0 a) w') :
    ∀ (fuel : Nat) (listed : Array Bool) (u : Nat → Value) (w' : World), Le w0 w' → listed.size = ops.length → leftN listed ≤ fuel →
      (∀ i Φ, listed.getD i false = true → G[i]? = some Φ → Φ (u i) w') → (∀ j d, listed.getD j false = false → ds[j]? = some (some d) → u j = a.tmps.getD d undef) → (∀ j, listed.getD j false = true → ∀ i, waitsOn ops j i = true → listed.getD i false = true) → wpAny P .any ops.toArray Q fuel listed (fillD u ds 0 a) w' := by
  have hend : ∀ (listed : Array Bool) (u : Nat → Value) (w' : World), Le w0 w' → listed.size = ops.length → (∀ i Φ, listed.getD i false = true → G[i]? = some Φ → Φ (u i) w') →
      Region.ready .any ops.toArray listed = [] → Q .normal (fillD u ds 0 a) w' := by
    intro listed u w' hw hs hf hr
    refine hQ u w' hw (allFacts_of _ _ fun i Φ hi => ?_)
    rw [Nat.zero_add]
    have hlt : i < ops.length := by
      rcases Nat.lt_or_ge i ops.length with h | h
      · exact h
      · rw [List.getElem?_eq_none (by omega)] at hi; cases hi
    have hl := all_listed hok hs hr (i + 1) i (by omega) hlt
    refine hf i Φ ?_ hi
    have hsz : i < listed.size := by omega
    simpa [hsz] using hl
  intro fuel
  induction fuel with
  | zero =>
    intro listed u w' hw hs hl hf hown hdep
    have hr : Region.ready .any ops.toArray listed = [] := by
      rw [List.eq_nil_iff_forall_not_mem]
      intro i hi
      have h0 := (mem_ready.1 hi).1
      have hlt : i < listed.size := by
        rcases Nat.lt_or_ge i listed.size with h | h
        · exact h
        · simp [Array.getElem?_eq_none h] at h0
      have hz : listed.toList.filter (!·) = [] := List.length_eq_zero_iff.1 (by unfold leftN at hl; omega)
      have hm : listed[i] ∈ listed.toList := by simp
      have := List.filter_eq_nil_iff.1 hz _ hm
      simp [hlt] at h0
      simp [h0] at this
    exact ⟨hr, hend listed u w' hw hs hf hr⟩
  | succ fuel ih =>
    intro listed u w' hw hs hl hf hown hdep
    refine ⟨fun hr => hend listed u w' hw hs hf hr, fun i hi => ?_⟩
    obtain ⟨h0, o, ho, hall⟩ := mem_ready.1 hi
    have ho' : ops[i]? = some o := by simpa using ho
    have hlt : i < ops.length := by
      rcases Nat.lt_or_ge i ops.length with h | h
      · exact h
      · rw [List.getElem?_eq_none h] at ho'; cases ho'
    obtain ⟨Φ, hΦ, hstab, hob⟩ := hO i o ho'
    have hli : listed.toList[i]? = some false := by
      have hsz : i < listed.size := by omega
      simp [hsz] at h0
      simp [hsz, h0]
    have hleft : leftN (listed.setIfInBounds i true) ≤ fuel := by
      have := left_set listed.toList i hli
      unfold leftN at hl ⊢
      rw [Array.toList_setIfInBounds]
      omega
    have hkn : knows u w' (G.take i) o.after.toList := knows_of _ fun e he hb => by
      unfold factAt
      split
      · rename_i Ψ hΨ
        have h1 := hall e (by simpa using he) hb
        refine hf e.on Ψ h1 ?_
        rw [List.getElem?_take] at hΨ
        split at hΨ
        · exact hΨ
        · cases hΨ
      · trivial
    have hfr : freshAt ops ds a u i := fun j d hj hd => by
      refine hown j d ?_ hd
      cases hlj : listed.getD j false with
      | false => rfl
      | true =>
        have h1 := hdep j hlj i hj
        have hsz : i < listed.size := by omega
        simp [hsz] at h0
        simp [hsz, h0] at h1
    have hstep := hob u w' hw hkn hfr
    have hnext : ∀ v w'', Le w' w'' → Φ v w'' → wpAny P .any ops.toArray Q fuel (listed.setIfInBounds i true) ((fillD u ds 0 a).put o.dst v) w'' := by
      intro v w'' hle hv
      have hat : ds[i]? = some o.dst := by rw [← hds, List.getElem?_map, ho']; rfl
      rw [fillD_upd _ u v ds 0 i a o.dst hB hat, Nat.zero_add]
      refine ih _ _ _ (htrans _ _ _ hw hle) (by simpa using hs) hleft (fun j Ψ hj hΨ => ?_) (fun j d hj hd => ?_) (fun j hj i' hw' => ?_)
      rotate_left
      · have hji : j ≠ i := fun e => by
          subst e
          have hsz : j < listed.size := by omega
          simp [hsz] at hj
        rw [show upd u i v j = u j by simp [upd, hji]]
        refine hown j d ?_ hd
        rw [getD_set_ne false (Ne.symm hji)] at hj
        exact hj
      · by_cases hi' : i' = i
        · subst hi'
          have hsz : i' < listed.size := by omega
          simp [hsz]
        · rw [getD_set_ne false (Ne.symm hi')]
          by_cases hji : j = i
          · subst hji
            unfold waitsOn at hw'
            rw [ho'] at hw'
            obtain ⟨e, he, hb⟩ := List.any_eq_true.1 hw'
            simp only [Bool.and_eq_true, beq_iff_eq] at hb
            have h1 := hall e (by simpa using he) hb.1
            rw [hb.2] at h1
            exact h1
          · rw [getD_set_ne false (Ne.symm hji)] at hj
            exact hdep j hj i' hw'
      by_cases hji : j = i
      · subst hji
        obtain rfl : Φ = Ψ := by rw [hΦ] at hΨ; injection hΨ
        simpa [upd] using hv
      · rw [show upd u i v j = u j by simp [upd, hji]]
        rw [getD_set_ne false (Ne.symm hji)] at hj
        obtain ⟨oj, hoj⟩ : ∃ oj, ops[j]? = some oj := by
          rcases Nat.lt_or_ge j ops.length with h | h
          · exact ⟨_, List.getElem?_eq_getElem h⟩
          · rw [List.getElem?_eq_none (by omega)] at hΨ; cases hΨ
        obtain ⟨Ψ', hΨ', hst, _⟩ := hO j oj hoj
        obtain rfl : Ψ' = Ψ := by rw [hΨ'] at hΨ; injection hΨ
        exact hst _ _ _ hle (hf j _ hj hΨ)
    unfold wpOp
    simp only [ho]
    rw [wanted_fill ops ds hds u a hB hok i o ho']
    by_cases hw2 : wants u o.guard = true
    · simp only [hw2, if_true] at hstep ⊢
      refine .inl (wp_of_gives (R := fun v w'' => Le w' w'' ∧ Φ v w'') (fun v w'' h => hnext v w'' h.1 h.2) ?_)
      rw [fillD_eval u ds a hB]
      exact hstep
    · simp only [hw2] at hstep ⊢
      exact hnext undef w' (hrefl _) hstep

/-- **A region that draws its order, each operation shown once**: out of what the operations that it waits for leave (in whatever world has come about), it gives a value and a world of which its own fact holds; facts hold on in all later worlds. -/
theorem wp_region_eachW (Le : World → World → Prop) (hrefl : ∀ w, Le w w) (htrans : ∀ x y z, Le x y → Le y z → Le x z) {id : Nat} {a : Act} {w : World} {l : List Oper} (ds : List (Option Tmp)) {Q : Exit → Act → World → Prop}
    (hm : P.follows .mixedOrders = true) (hds : l.map (·.dst) = ds) (hB : dstB a.tmps.size ds = true) (hok : okB l = true)
    (h : EachW P Le w.drew a ds (fun u w' => Q .normal (fillD u ds 0 a) w') l l []) : (Code.region id l.toArray true).wp P Q a w := by
  obtain ⟨G, h1, h2, h3⟩ := EachW.out l l [] h
  refine wp_region_any hm ?_
  have hown := fillD_own a ds 0 (fun i => match ds[i]? with | some (some d) => a.tmps.getD d undef | _ => undef) (fun j d hj => by rw [Nat.zero_add]; simp only [hj])
  rw [← hown]
  have hnone : ∀ i, (Array.replicate l.toArray.size false).getD i false = true → False := fun i hi => by
    rcases Nat.lt_or_ge i l.length with h | h
    · simp [h] at hi
    · have hz : (Array.replicate l.toArray.size false)[i]? = none := Array.getElem?_eq_none (by simpa using h)
      simp only [Array.getD_eq_getD_getElem?, hz] at hi
      cases hi
  exact each_anyW (Q := Q) hrefl htrans hds hB hok G h1 (by simpa using h2) (by simpa using h3) _ _ _ _ (hrefl _) (by simp) (by simp [leftN]) (fun i Φ hi _ => (hnone i hi).elim) (fun j d _ hd => by simp only [hd]) (fun j hj => (hnone j hj).elim)

theorem wp_region_belowW {id : Nat} {a : Act} {w : World} {l : List Oper} (ds : List (Option Tmp)) {Q : Exit → Act → World → Prop}
    (hm : P.follows .mixedOrders = true) (hds : l.map (·.dst) = ds) (hB : dstB a.tmps.size ds = true) (hok : okB l = true)
    (h : EachW P BLe w.drew a ds (fun u w' => Q .normal (fillD u ds 0 a) w') l l []) : (Code.region id l.toArray true).wp P Q a w :=
  wp_region_eachW BLe BLe.refl' BLe.trans' ds hm hds hB hok h

/-- One value, in every world. -/
theorem EachW.fixed {w0 : World} {a : Act} {ds : List (Option Tmp)} {Q : (Nat → Value) → World → Prop} {ops : List Oper} {o : Oper} {rest : List Oper} {F : List (Value → World → Prop)} (v : Value)
    (h : ∀ u w', Below w0.heap.size w0 w' → knows u w' F o.after.toList → freshAt ops ds a u F.length → wants u o.guard = true ∧ gives P o (evalOf u ds a) w' (fun x w'' => w'' = w' ∧ x = v))
    (hrest : EachW P BLe w0 a ds Q ops rest (F ++ [fun x _ => x = v])) : EachW P BLe w0 a ds Q ops (o :: rest) F := by
  refine ⟨_, ⟨fun _ _ _ _ h => h, fun u w' hw hk hf => ?_⟩, hrest⟩
  obtain ⟨h1, h2⟩ := h u w' hw hk hf
  simp only [h1, if_true]
  unfold gives at *
  generalize (execOp (evalOf u ds a) o).run P w' = r at *
  cases r with
  | ok n w' =>
    cases n <;> simp only [givesUpon] at h2 ⊢
    · obtain ⟨rfl, rfl⟩ := h2; exact ⟨BLe.refl' _, rfl⟩
    · obtain ⟨rfl, rfl⟩ := h2; exact ⟨BLe.refl' _, rfl⟩
    · exact h2.mono fun e w'' ⟨x, he, hw, hx⟩ => ⟨x, he, by subst hw; exact BLe.refl' _, hx⟩
  | halt x w' => simp only [givesUpon] at h2

/-- It is not wanted. -/
theorem EachW.skipped {w0 : World} {a : Act} {ds : List (Option Tmp)} {Q : (Nat → Value) → World → Prop} {ops : List Oper} {o : Oper} {rest : List Oper} {F : List (Value → World → Prop)}
    (h : ∀ u w', Below w0.heap.size w0 w' → knows u w' F o.after.toList → wants u o.guard = false)
    (hrest : EachW P BLe w0 a ds Q ops rest (F ++ [fun x _ => x = undef])) : EachW P BLe w0 a ds Q ops (o :: rest) F := by
  refine ⟨_, ⟨fun _ _ _ _ h => h, fun u w' hw hk _ => ?_⟩, hrest⟩
  rw [h u w' hw hk]
  simp

/-- A call or a making: one fact of the value in the world behind, that holds on. -/
theorem EachW.made {w0 : World} {a : Act} {ds : List (Option Tmp)} {Q : (Nat → Value) → World → Prop} {ops : List Oper} {o : Oper} {rest : List Oper} {F : List (Value → World → Prop)} (Φ : Value → World → Prop)
    (hst : ∀ v w1 w2, Below w1.heap.size w1 w2 → Φ v w1 → Φ v w2)
    (h : ∀ u w', Below w0.heap.size w0 w' → knows u w' F o.after.toList → freshAt ops ds a u F.length → wants u o.guard = true ∧ gives P o (evalOf u ds a) w' (fun x w'' => Below w'.heap.size w' w'' ∧ Φ x w''))
    (hrest : EachW P BLe w0 a ds Q ops rest (F ++ [Φ])) : EachW P BLe w0 a ds Q ops (o :: rest) F := by
  refine ⟨Φ, ⟨hst, fun u w' hw hk hf => ?_⟩, hrest⟩
  obtain ⟨h1, h2⟩ := h u w' hw hk hf
  simp only [h1, if_true]
  exact h2
end
end Go.Proofs.YthfgnhgijgjggaaDoor
/- FnIiHas: the steps of its drawn region. -/
namespace Go.Proofs.YthfgnhgijgjggaaDoor
open Go.RowKit

attribute [local go_sem] gives givesUpon evalOf look wants asBool

theorem hasC_snoc {es : List EntD} {k : Nat} {x : EntD} (h : es[k]? = some x) (c : CidD) : hasC (es.take (k + 1)) c ↔ hasC (es.take k) c ∨ x.cid = c := by
  rw [show es.take (k + 1) = es.take k ++ [x] by rw [List.take_add_one, h]; rfl]
  unfold hasC
  constructor
  · rintro ⟨e, he, h1⟩
    rcases List.mem_append.1 he with h2 | h2
    · exact .inl ⟨e, h2, h1⟩
    · obtain rfl : e = x := by simpa using h2
      exact .inr h1
  · rintro (⟨e, he, h1⟩ | h1)
    · exact ⟨e, by simp [he], h1⟩
    · exact ⟨x, by simp, h1⟩
theorem hasM_snoc {es : List EntD} {k : Nat} {x : EntD} (h : es[k]? = some x) (c : CidD) : hasM (es.take (k + 1)) c ↔ hasM (es.take k) c ∨ (x.cid.code = c.code ∧ x.cid.dig = c.dig) := by
  rw [show es.take (k + 1) = es.take k ++ [x] by rw [List.take_add_one, h]; rfl]
  unfold hasM
  constructor
  · rintro ⟨e, he, h1⟩
    rcases List.mem_append.1 he with h2 | h2
    · exact .inl ⟨e, h2, h1⟩
    · obtain rfl : e = x := by simpa using h2
      exact .inr h1
  · rintro (⟨e, he, h1⟩ | h1)
    · exact ⟨e, by simp [he], h1⟩
    · exact ⟨x, by simp, h1⟩
theorem row4 {w : World} {g : Nat} {a b c d : Value} {t : TypeId} (h : w.heap[g]? = some (.cells #[a, b, c, d] t (0, 0))) : w.cell? ⟨g, 0, none⟩ = some a ∧ w.cell? ⟨g, 1, none⟩ = some b ∧ w.cell? ⟨g, 2, none⟩ = some c ∧ w.cell? ⟨g, 3, none⟩ = some d :=
  ⟨cell_of_row' (cur := [_, _, _, _]) h 0, cell_of_row' (cur := [_, _, _, _]) h 1, cell_of_row' (cur := [_, _, _, _]) h 2, cell_of_row' (cur := [_, _, _, _]) h 3⟩
theorem own_empty {w : World} {g B : Nat} (h : w.heap[g]? = some (.cells #[] 32 (0, 0))) (hB : B ≤ g) : w.ownsRow B 32 5 (.slice (some ⟨g, 0, none⟩) 0 0) 0 [] :=
  ⟨rfl, .inr ⟨g, 0, #[], rfl, hB, h, Nat.le_refl _, by unfold maxLen; omega, rfl, rfl⟩⟩
abbrev cidB (c : CidD) : Obj := .cells #[.int .u64 c.ver, .int .u64 c.codec, .int .u64 c.code, .string ⟨c.dig.toArray⟩] 26
abbrev entB (x : EntD) : Obj := .cells #[.int .u64 x.cid.ver, .int .u64 x.cid.codec, .int .u64 x.cid.code, .string ⟨x.cid.dig.toArray⟩, .int .u64 x.off] 32


theorem own_alloc {w : World} {base n : Nat} {t : TypeId} {v : Value} {xs : List Value} (h : w.ownsRow base t 5 v n xs) (o : Obj) : (w.alloc o).ownsRow base t 5 v n xs := by
  obtain ⟨hl, h⟩ := h
  rcases h with h | ⟨g, cap, cur, e, hbg, hg, h⟩
  · exact ⟨hl, .inl h⟩
  · exact ⟨hl, .inr ⟨g, cap, cur, e, hbg, (Below.heap_alloc _ _ _ (block_of_row hg)).trans hg, h⟩⟩
theorem heap_alloc_old' {w : World} {k : Nat} {o x : Obj} (h : w.heap[k]? = some x) : (w.alloc o).heap[k]? = some x := (Below.heap_alloc _ _ _ (block_of_row h)).trans h
theorem bel_alloc {a w : World} (h : Below a.heap.size a w) (o : Obj) : Below a.heap.size a (w.alloc o) := h.alloc h.size o

theorem step59 {ops : Array Oper} {o : Oper} {a : Act} {w : World} {K : Act → World → Prop} {Q : Exit → Act → World → Prop} {E : Prop} (hgd : o.guard = none)
    (ho : o.op = .call { callee := .builtin .append, args := #[.tmp 57, .tmp 58], argTypes := #[28, 28] })
    {w5 : World} (hb : Below w5.heap.size w5 w) (g : Nat) (hg : w5.heap.size ≤ g) (hs : a.eval (.tmp 57) = .slice (some ⟨g, 0, none⟩) 0 0) (he : w.heap[g]? = some (.cells #[] 32 (0, 0)))
    (A : Option Addr) (cc k : Nat) (es : List EntD) (hx : a.eval (.tmp 58) = .slice A k cc) (hv : ES w5 (.slice A k cc) es) (hk : k = es.length) (hn : k ≤ 60)
    (h : ∀ v' w', Below w5.heap.size w5 w' → w'.ownsRow w5.heap.size 32 5 v' k (cellsES es) → (∀ j ob, j ≠ g → w.heap[j]? = some ob → w'.heap[j]? = some ob) → K (a.put o.dst v') w') :
    if Region.wanted o (yielded ops a.tmps) = true then Oper.wp Tryd.prog o a w K Q else E := by
  have hv2 := hv.below hb
  subst hk
  refine step_append_es hgd (.tmp 57) (.tmp 58) ho w5.heap.size (.slice (some ⟨g, 0, none⟩) 0 0) 0 [] hs (own_empty he hg) A es.length cc (cellsES es) hx (cellsES_length es) ?_ (oneCell_ES es) (by omega) hb.size ?_
  · intro h0
    obtain ⟨A', c', e, _, hh⟩ := id hv2
    injection e with e1 e2 e3
    obtain ⟨b, o, e4, _⟩ := hh h0
    rw [e4] at e1
    subst e1
    exact ⟨_, rfl, news_of_es hv2⟩
  · intro v' w' hown hgrow _
    refine h v' w' (hb.grown hgrow hb.size fun j hj => ?_) (by simpa using hown) (fun j ob hj hh => ?_)
    · have : some g = some j := hj
      injection this with this
      omega
    · exact (hgrow.block j (block_of_row hh) (fun e => hj (by have e' : some j = some g := e; injection e'))).trans hh

theorem step63 {ops : Array Oper} {o : Oper} {a : Act} {w : World} {K : Act → World → Prop} {Q : Exit → Act → World → Prop} {E : Prop} (hgd : o.guard = none)
    (ho : o.op = .call { callee := .builtin .append, args := #[.tmp 59, .tmp 62], argTypes := #[28, 28] })
    {w5 : World} (hb : Below w5.heap.size w5 w) (v : Value) (hs : a.eval (.tmp 59) = v) (k : Nat) (es : List EntD) (hown : w.ownsRow w5.heap.size 32 5 v k (cellsES es)) (hk : k = es.length) (hn : k ≤ 60)
    (g : Nat) (hx : a.eval (.tmp 62) = .slice (some ⟨g, 0, none⟩) 1 1) (c : CidD) (hg : w.heap[g]? = some (entB ⟨c, 0⟩))
    (h : ∀ v' w', Below w5.heap.size w5 w' → ES w' v' (es ++ [⟨c, 0⟩]) → K (a.put o.dst v') w') :
    if Region.wanted o (yielded ops a.tmps) = true then Oper.wp Tryd.prog o a w K Q else E := by
  subst hk
  refine step_append_es hgd (.tmp 59) (.tmp 62) ho w5.heap.size v es.length (cellsES es) hs hown (some ⟨g, 0, none⟩) 1 1 (cellsE ⟨c, 0⟩) hx (by rfl) ?_ (oneCell_E _) (by omega) hb.size ?_
  · intro _
    exact ⟨_, rfl, World.news_of_block hg⟩
  · intro v' w' hown' hgrow _
    refine h v' w' (hb.grown hgrow hb.size fun j hj => ?_) (es_of_own (base := w5.heap.size) (by
      rw [cellsES_snoc, List.length_append]
      exact hown'))
    rcases hown.2 with ⟨e, _⟩ | ⟨g', cap, cur, e, hbg, _⟩
    · subst e; cases hj
    · subst e
      have : some g' = some j := hj
      injection this with this
      omega
theorem cells_of {w5 W : World} {g : Nat} {a b c d : Value} {t : TypeId} (h : w5.heap[g]? = some (.cells #[a, b, c, d] t (0, 0))) (hb : Below w5.heap.size w5 W) :
    (W.cell? ⟨g, 0, none⟩ = some a ∧ W.cell? ⟨g, 1, none⟩ = some b ∧ W.cell? ⟨g, 2, none⟩ = some c ∧ W.cell? ⟨g, 3, none⟩ = some d) ∧ Below w5.heap.size w5 W :=
  ⟨row4 (row_below hb (block_of_row h) h), hb⟩
theorem good_snoc {es : List EntD} {c : CidD} (h : esGood es) (hc : c.st) : (∀ e ∈ es ++ [(⟨c, 0⟩ : EntD)], e.good) ∧ (es ++ [(⟨c, 0⟩ : EntD)]).length ≤ 100 := by
  refine ⟨fun e he => ?_, ?_⟩
  · rcases List.mem_append.1 he with h' | h'
    · exact h.2 e h'
    · obtain rfl : e = ⟨c, 0⟩ := by simpa using h'
      exact hc
  · rw [List.length_append]
    have := h.1
    show es.length + 1 ≤ 100
    omega
end Go.Proofs.YthfgnhgijgjggaaDoor
