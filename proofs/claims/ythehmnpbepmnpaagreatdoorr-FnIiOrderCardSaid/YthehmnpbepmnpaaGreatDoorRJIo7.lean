/- Contracts, joined (CdU IiL IiM IiN IiO IiQ). -/
import Derived.Test.YthehmnpbepmnpaaGreatDoorRJIo5
import Derived.Test.YthehmnpbepmnpaaGreatDoorRJIo6
import Derived.Deep.AppendLies
import Derived.Deep.RegionLaw
import Derived.Maps.AppendAt
import Derived.OwnWalk
/- Contracts: laws.cdGood. FnCdSame's walk: two identifiers have the same bytes just if they are equal. -/
namespace Go.Proofs.YthehmnpbepmnpaaGreatDoorR
open Go.RowKit

/-- laws.cdGood. -/
def CidD.good (x : CidD) (d : ByteArray) : Prop := d.size ≤ 4096 ∧ x.tidy

theorem eqCid_args (x y : CidD) (d f : ByteArray) (hx : x.dig = d.data.toList) (hy : y.dig = f.data.toList) (W : World) :
    (x = y → (binOp .eql 25 (.agg #[.int .u64 x.ver, .int .u64 x.codec, .int .u64 x.code, .string d]) (.agg #[.int .u64 y.ver, .int .u64 y.codec, .int .u64 y.code, .string f])).run Tryz.prog W = .ok (.bool true) W) ∧
    (x ≠ y → (binOp .eql 25 (.agg #[.int .u64 x.ver, .int .u64 x.codec, .int .u64 x.code, .string d]) (.agg #[.int .u64 y.ver, .int .u64 y.codec, .int .u64 y.code, .string f])).run Tryz.prog W = .ok (.bool false) W) := by
  have e1 : cidVal x = .agg #[.int .u64 x.ver, .int .u64 x.codec, .int .u64 x.code, .string d] := by unfold cidVal; rw [hx, ba_mk]
  have e2 : cidVal y = .agg #[.int .u64 y.ver, .int .u64 y.codec, .int .u64 y.code, .string f] := by unfold cidVal; rw [hy, ba_mk]
  rw [← e1, ← e2]
  exact ⟨fun h => by rw [h]; exact eqCid_same y W, fun h => eqCid_other x y h W⟩

end Go.Proofs.YthehmnpbepmnpaaGreatDoorR
/- Contract: impl.IiHas. -/
namespace Go.Proofs.YthehmnpbepmnpaaGreatDoorR
open Go.RowKit

theorem bool_eq_decide {b : Bool} {p : Prop} [Decidable p] (h : b = true ↔ p) : b = decide p := by
  by_cases hp : p
  · rw [decide_eq_true hp, h.2 hp]
  · rw [decide_eq_false hp]
    cases hb : b with
    | false => rfl
    | true => exact absurd (h.1 hb) hp

/-- What a search finds in an index of entries. -/
theorem finds_any {es : List EntD} {t : Tr ItD} (h : RelT es t) (u : List UInt8) (hit : ItD → Bool) (hitR : Rc → Bool) (hh : ∀ y, hit y = hitR y.rc) :
    (finds u hit (t.asc (fun y => blt y.dig u))).2 = true ↔ ∃ e ∈ es, e.cid.dig = u ∧ hitR e.rc = true := by
  have h1 : t.asc (fun y => blt y.dig u) = t.toList.filter (fun x => !blt x.dig u) := Tr.asc_eq ItD.dig u t h.sorted
  rw [h1]
  have h2 : (finds u hit (t.toList.filter (fun x => !blt x.dig u))).2 = (t.toList.filter (fun x => !blt x.dig u)).any (fun x => decide (x.dig = u) && hit x) :=
    find_scan ItD.dig u hit _ (h.sorted.filter _) (fun x hx => by have := (List.mem_filter.1 hx).2; simpa using this)
  rw [h2, List.any_eq_true]
  constructor
  · rintro ⟨y, hy, h3⟩
    have hy' := (List.mem_filter.1 hy).1
    simp only [Bool.and_eq_true, decide_eq_true_eq] at h3
    have hm : y.rc ∈ recsOf es := by rw [← h.recs]; exact List.mem_map.2 ⟨y, hy', rfl⟩
    obtain ⟨e, he, h4⟩ := (mem_recsOf es).1 hm
    refine ⟨e, he, ?_, by rw [h4, ← hh]; exact h3.2⟩
    have : e.rc.dig = y.rc.dig := by rw [h4]
    exact this.trans h3.1
  · rintro ⟨e, he, h3, h4⟩
    have hm : e.rc ∈ recsOf es := (mem_recsOf es).2 ⟨e, he, rfl⟩
    rw [← h.recs] at hm
    obtain ⟨y, hy, h5⟩ := List.mem_map.1 hm
    have hd : y.dig = u := by
      have : y.rc.dig = e.rc.dig := by rw [h5]
      exact this.trans h3
    refine ⟨y, List.mem_filter.2 ⟨hy, by rw [hd, blt_irrefl]; rfl⟩, ?_⟩
    rw [decide_eq_true hd, hh, h5, h4]
    rfl

/-- An identifier of which the statements speak. -/
def CidD.st (c : CidD) : Prop := c.tidy ∧ 0 < c.dig.length ∧ c.dig.length ≤ 200
theorem cidS_inj {a b : CidD} (ha : a.st) (hb : b.st) : cidS a = cidS b ↔ a = b := by
  constructor
  · intro h
    unfold cidS at h
    injection h with h
    exact cidEnc_inj ha.1 hb.1 (by have := ha.2.2; omega) (by have := hb.2.2; omega) (congrArg Array.toList h)
  · intro h; rw [h]
theorem CidD.st.str {c : CidD} (h : c.st) : CidStr (cidS c) c := ⟨rfl, h.1, by have := h.2.2; omega⟩
theorem mhEnc_inj {a b : CidD} (ha : a.st) (hb : b.st) : mhEnc a.code a.dig = mhEnc b.code b.dig ↔ a.code = b.code ∧ a.dig = b.dig := by
  constructor
  · intro h
    have h1 := mhRd_own a.code a.dig ha.str.code_lt (by have := ha.2.2; omega)
    rw [h, mhRd_own b.code b.dig hb.str.code_lt (by have := hb.2.2; omega)] at h1
    injection h1 with h1
    injection h1 with _ h1
    injection h1 with h1 h2
    exact ⟨h1.symm, h2.symm⟩
  · rintro ⟨h1, h2⟩; rw [h1, h2]

/-- Whether the very identifier is there; whether its multihash is. -/
def hasC (es : List EntD) (c : CidD) : Prop := ∃ e ∈ es, e.cid = c
def hasM (es : List EntD) (c : CidD) : Prop := ∃ e ∈ es, e.cid.code = c.code ∧ e.cid.dig = c.dig

abbrev cid4 (c : CidD) : Value := .agg #[.int .u64 c.ver, .int .u64 c.codec, .int .u64 c.code, .string ⟨c.dig.toArray⟩]

end Go.Proofs.YthehmnpbepmnpaaGreatDoorR
/- Contracts: laws.zzFits7, zzFits8, stCid, stEntries; spec.SameHash, OfDigest. -/
namespace Go.Proofs.YthehmnpbepmnpaaGreatDoorR
open Go.RowKit

def AnyB (e : Ending) : Prop := ∃ b : Bool, e = .returned (.bool b)
def TwoW (p : Prop) (e : Ending) : Prop := (p ∧ e = .returned (.bool true)) ∨ (¬ p ∧ e = .returned (.bool false))

theorem fits1_b (a b c : Int) (d : ByteArray) (w : World) : Calls Tryz.prog 7 #[.agg #[.int .u64 a, .int .u64 b, .int .u64 c, .string d]] w fun e w' => AnyB e ∧ Below w.heap.size w w' := by
  by_cases hd : d.size ≤ 2147483647
  · exact (fits1 a b c d hd w).mono fun e w' ⟨h1, h2⟩ => ⟨⟨_, h1⟩, h2⟩
  · exact (fits1_no a b c d (by omega) w).mono fun e w' ⟨h1, h2⟩ => ⟨⟨_, h1⟩, h2⟩

set_option maxRecDepth 100000 in
set_option maxHeartbeats 1000000 in
theorem fits8_b (a b c f : Int) (d : ByteArray) (w : World) : Calls Tryz.prog 27 #[.agg #[.int .u64 a, .int .u64 b, .int .u64 c, .string d, .int .u64 f]] w fun e w' => AnyB e ∧ Below w.heap.size w w' := by
  have hA : Below w.heap.size w (w.alloc (.cells #[.int .u64 a, .int .u64 b, .int .u64 c, .string d, .int .u64 f] 29)) := (Below.refl _ _).alloc (Nat.le_refl _) _
  have H := Lib.hid (fits1_b a b c d (w.alloc (.cells #[.int .u64 a, .int .u64 b, .int .u64 c, .string d, .int .u64 f] 29)))
  have HA := Lib.hid hA
  clear hA
  go_enter Tryz.func27, Tryz.ntmps27
  go_wp2_with fail
  refine H.out.mono ?_
  rintro e w1 ⟨⟨o, rfl⟩, hb⟩
  have HF := Lib.hid (below_next HA.out hb)
  clear hb H
  cases o
  · go_wp2
    go_ret
    exact ⟨⟨_, rfl⟩, HF.out⟩
  · go_wp2
    go_ret
    exact ⟨⟨_, rfl⟩, HF.out⟩

set_option maxRecDepth 100000 in
set_option maxHeartbeats 4000000 in
theorem fits7_b (v : Value) (es : List EntD) (w : World) (hs : ES w v es) (hn : es.length ≤ 9223372036854775807) :
    Calls Tryz.prog 6 #[v] w fun e w' => AnyB e ∧ Below w.heap.size w w' := by
  obtain ⟨A, c, rfl, hc, hcells⟩ := hs
  obtain ⟨n, hN⟩ : ∃ n, n = es.length := ⟨_, rfl⟩
  rw [← hN] at hn
  have HC := Lib.hid hcells
  have HN := Lib.hid hN
  rw [← hN]
  clear hcells hc hN
  by_cases hbig : 2147483647 < n
  · go_enter Tryz.func6, Tryz.ntmps6
    go_wp2
    go_ret
    exact ⟨⟨_, rfl⟩, Below.refl _ _⟩
  · go_enter Tryz.func6, Tryz.ntmps6
    go_wp2
    go_loopw [10] (fun i wr => ∃ (k : Nat), k ≤ n ∧ i = .int .i64 k ∧ Below w.heap.size w wr) (fun i _ => n - (intOf i).toNat)
    case atStart => exact ⟨0, Nat.zero_le _, rfl, Below.refl _ _⟩
    case round =>
      obtain ⟨k, hk, rfl, hb⟩ := hrel
      by_cases hlt : k < n
      · obtain ⟨b, o, rfl, hcl⟩ := HC.out (by rw [← HN.out]; omega)
        have hks : k < es.length := by rw [← HN.out]; exact hlt
        obtain ⟨x, hsv⟩ : ∃ x, es[k]? = some x := ⟨_, List.getElem?_eq_getElem hks⟩
        obtain ⟨q0, q1, q2, q3, q4⟩ := hcl k x hsv
        have c0 := below_cell hb q0
        have c1 := below_cell hb q1
        have c2 := below_cell hb q2
        have c3 := below_cell hb q3
        have c4 := below_cell hb q4
        generalize (⟨x.cid.dig.toArray⟩ : ByteArray) = d at *
        generalize (x.cid.ver : Int) = v0 at *
        generalize (x.cid.codec : Int) = v1 at *
        generalize (x.cid.code : Int) = v2 at *
        generalize (x.off : Int) = f at *
        have hal : Below w.heap.size w (wr.alloc (entO v0 v1 v2 d f)) := hb.alloc hb.size _
        have F := fun W => Lib.hid (fits8_b v0 v1 v2 f d W)
        have HAL := Lib.hid hal
        clear hcl hsv hks q0 q1 q2 q3 q4 hb hal
        go_wp2_with fail
        refine (F _).out.mono ?_
        rintro e w1 ⟨⟨r, rfl⟩, hb1⟩
        have b1 := below_next HAL.out hb1
        clear hb1 F HAL
        cases r
        · go_wp2
          go_ret
          exact ⟨⟨_, rfl⟩, b1⟩
        · go_wp2
          go_roundw
          case rel => exact ⟨k + 1, by omega, by go_num, b1⟩
          case measure => simp [intOf]; omega
      · obtain rfl : k = n := by omega
        go_wp2
        go_ret
        exact ⟨⟨_, rfl⟩, hb⟩

set_option maxRecDepth 100000 in
set_option maxHeartbeats 4000000 in
theorem stCid_b (c : CidD) (w : World) : Calls Tryz.prog 9 #[cid4 c] w fun e w' => TwoW c.st e ∧ Below w.heap.size w w' := by
  unfold cid4
  have hA : Below w.heap.size w (w.alloc (.cells #[.int .u64 c.ver, .int .u64 c.codec, .int .u64 c.code, .string ⟨c.dig.toArray⟩] 25)) := (Below.refl _ _).alloc (Nat.le_refl _) _
  have hr := heap_alloc_new w (.cells #[.int .u64 c.ver, .int .u64 c.codec, .int .u64 c.code, .string ⟨c.dig.toArray⟩] 25)
  have hsz : (⟨c.dig.toArray⟩ : ByteArray).size = c.dig.length := by show c.dig.toArray.size = _; simp
  have hx : c.dig = (⟨c.dig.toArray⟩ : ByteArray).data.toList := rfl
  by_cases ht : c.tidy
  · have T := fun W => Lib.hid (spTidy_yes c ⟨c.dig.toArray⟩ hx ht W)
    by_cases h0 : 0 < c.dig.length
    · by_cases h2 : c.dig.length ≤ 200
      · have HST : Hid c.st := Lib.hid ⟨ht, h0, h2⟩
        rw [← hsz] at h0 h2
        clear ht
        have e0 : (0 : Int) < (⟨c.dig.toArray⟩ : ByteArray).size := by omega
        have e2 : ((⟨c.dig.toArray⟩ : ByteArray).size : Int) ≤ 200 := by omega
        clear h0 h2
        have HA := Lib.hid hA
        have HR := Lib.hid hr
        generalize (⟨c.dig.toArray⟩ : ByteArray) = d at *
        generalize (c.ver : Int) = v0 at *
        generalize (c.codec : Int) = v1 at *
        generalize (c.code : Int) = v2 at *
        clear hA hr hx hsz
        go_enter Tryz.func9, Tryz.ntmps9
        go_wp2_with fail
        refine (T _).out.mono ?_
        rintro e w1 ⟨rfl, hb⟩
        have k3 := cell_of_row' (cur := [_, _, _, _]) (row_below hb (block_of_row HR.out) HR.out) 3
        have HF := Lib.hid (below_next HA.out hb)
        clear hb T
        go_wp2
        go_ret
        exact ⟨Or.inl ⟨HST.out, rfl⟩, HF.out⟩
      · have HST : Hid (¬ c.st) := Lib.hid fun h => h2 h.2.2
        rw [← hsz] at h0 h2
        clear ht
        have e0 : (0 : Int) < (⟨c.dig.toArray⟩ : ByteArray).size := by omega
        have e3 : (200 : Int) < (⟨c.dig.toArray⟩ : ByteArray).size := by omega
        clear h0 h2
        have HA := Lib.hid hA
        have HR := Lib.hid hr
        generalize (⟨c.dig.toArray⟩ : ByteArray) = d at *
        generalize (c.ver : Int) = v0 at *
        generalize (c.codec : Int) = v1 at *
        generalize (c.code : Int) = v2 at *
        clear hA hr hx hsz
        go_enter Tryz.func9, Tryz.ntmps9
        go_wp2_with fail
        refine (T _).out.mono ?_
        rintro e w1 ⟨rfl, hb⟩
        have k3 := cell_of_row' (cur := [_, _, _, _]) (row_below hb (block_of_row HR.out) HR.out) 3
        have HF := Lib.hid (below_next HA.out hb)
        clear hb T
        go_wp2
        go_ret
        exact ⟨Or.inr ⟨HST.out, by show Ending.returned (.bool (decide ((d.size : Int) ≤ 200))) = _; rw [decide_eq_false (by omega)]⟩, HF.out⟩
    · have HST : Hid (¬ c.st) := Lib.hid fun h => h0 h.2.1
      rw [← hsz] at h0
      clear ht
      have e1 : (⟨c.dig.toArray⟩ : ByteArray).size = 0 := by omega
      clear h0
      have HA := Lib.hid hA
      have HR := Lib.hid hr
      generalize (⟨c.dig.toArray⟩ : ByteArray) = d at *
      generalize (c.ver : Int) = v0 at *
      generalize (c.codec : Int) = v1 at *
      generalize (c.code : Int) = v2 at *
      clear hA hr hx hsz
      go_enter Tryz.func9, Tryz.ntmps9
      go_wp2_with fail
      refine (T _).out.mono ?_
      rintro e w1 ⟨rfl, hb⟩
      have k3 := cell_of_row' (cur := [_, _, _, _]) (row_below hb (block_of_row HR.out) HR.out) 3
      have HF := Lib.hid (below_next HA.out hb)
      clear hb T
      go_wp2
      go_ret
      exact ⟨Or.inr ⟨HST.out, rfl⟩, HF.out⟩
  · have T := fun W => Lib.hid (spTidy_no c ⟨c.dig.toArray⟩ hx ht W)
    have HST : Hid (¬ c.st) := Lib.hid fun h => ht h.1
    clear ht
    have HA := Lib.hid hA
    have HR := Lib.hid hr
    generalize (⟨c.dig.toArray⟩ : ByteArray) = d at *
    generalize (c.ver : Int) = v0 at *
    generalize (c.codec : Int) = v1 at *
    generalize (c.code : Int) = v2 at *
    clear hA hr hx hsz
    go_enter Tryz.func9, Tryz.ntmps9
    go_wp2_with fail
    refine (T _).out.mono ?_
    rintro e w1 ⟨rfl, hb⟩
    have k3 := cell_of_row' (cur := [_, _, _, _]) (row_below hb (block_of_row HR.out) HR.out) 3
    have HF := Lib.hid (below_next HA.out hb)
    clear hb T
    go_wp2
    go_ret
    exact ⟨Or.inr ⟨HST.out, rfl⟩, HF.out⟩

/-- Entries of which the statements speak. -/
def esGood (es : List EntD) : Prop := es.length ≤ 60 ∧ ∀ e ∈ es, e.good
def EsSo (bo : Bool) (es : List EntD) (k : Nat) : Prop := (bo = true ∧ ∀ x ∈ es.take k, x.good) ∨ (bo = false ∧ ¬ esGood es)
theorem EsSo.t {es : List EntD} {k : Nat} (h : EsSo true es k) : ∀ x ∈ es.take k, x.good := by rcases h with h | h; exact h.2; cases h.1
theorem EsSo.f {es : List EntD} {k : Nat} (h : EsSo false es k) : ¬ esGood es := by rcases h with h | h; cases h.1; exact h.2

set_option maxRecDepth 100000 in
set_option maxHeartbeats 8000000 in
theorem stEntries_b (v : Value) (es : List EntD) (w : World) (hs : ES w v es) (hn : es.length ≤ 9223372036854775807) :
    Calls Tryz.prog 8 #[v] w fun e w' => TwoW (esGood es) e ∧ Below w.heap.size w w' := by
  obtain ⟨A, c, rfl, hc, hcells⟩ := hs
  obtain ⟨n, hN⟩ : ∃ n, n = es.length := ⟨_, rfl⟩
  rw [← hN] at hn
  have HC := Lib.hid hcells
  have HN := Lib.hid hN
  rw [← hN]
  clear hcells hc hN
  have hstart : ∃ bo : Bool, decide ((n : Int) ≤ 60) = bo ∧ EsSo bo es 0 := by
    by_cases hbig : n ≤ 60
    · exact ⟨true, decide_eq_true (by omega), Or.inl ⟨rfl, by simp⟩⟩
    · exact ⟨false, decide_eq_false (by omega), Or.inr ⟨rfl, fun h => by have := h.1; rw [← HN.out] at this; omega⟩⟩
  obtain ⟨b0, hb0, hs0⟩ := hstart
  have HS0 := Lib.hid hs0
  have HB0 : Hid (b0 = true → n ≤ 60) := Lib.hid fun h => by rw [h] at hb0; have := of_decide_eq_true hb0; omega
  clear hs0
  go_enter Tryz.func8, Tryz.ntmps8
  go_wp2
  go_loopw [3, 4] (fun ok i wr => ∃ (bo : Bool) (k : Nat), k ≤ n ∧ ok = .bool bo ∧ i = .int .i64 k ∧ Hid (EsSo bo es k) ∧ Hid (bo = true → n ≤ 60) ∧ Below w.heap.size w wr) (fun _ i _ => n - (intOf i).toNat)
  case atStart => exact ⟨b0, 0, Nat.zero_le _, rfl, rfl, HS0, HB0, Below.refl _ _⟩
  case round =>
    obtain ⟨bo, k, hk, rfl, rfl, ht, h60, hb⟩ := hrel
    cases bo
    · go_wp2
      go_ret
      exact ⟨Or.inr ⟨ht.out.f, rfl⟩, hb⟩
    · by_cases hlt : k < n
      · obtain ⟨b, o, rfl, hcl⟩ := HC.out (by rw [← HN.out]; omega)
        have hks : k < es.length := by rw [← HN.out]; exact hlt
        obtain ⟨x, hsv⟩ : ∃ x, es[k]? = some x := ⟨_, List.getElem?_eq_getElem hks⟩
        obtain ⟨q0, q1, q2, q3, q4⟩ := hcl k x hsv
        have c0 := below_cell hb q0
        have c1 := below_cell hb q1
        have c2 := below_cell hb q2
        have c3 := below_cell hb q3
        have htk : es.take (k + 1) = es.take k ++ [x] := by rw [List.take_add_one, hsv]; rfl
        have hmem : x ∈ es := List.mem_of_getElem? hsv
        have T := fun W => Lib.hid (stCid_b x.cid W)
        have HX : Hid (∀ r : Bool, ((r = true ∧ x.cid.st) ∨ (r = false ∧ ¬ x.cid.st)) → EsSo r es (k + 1)) := Lib.hid fun r hr => by
          rcases hr with ⟨rfl, h⟩ | ⟨rfl, h⟩
          · refine Or.inl ⟨rfl, fun y hy => ?_⟩
            rw [htk] at hy
            rcases List.mem_append.1 hy with h1 | h1
            · exact ht.out.t y h1
            · obtain rfl : y = x := by simpa using h1
              exact h
          · exact Or.inr ⟨rfl, fun h1 => h (h1.2 x hmem)⟩
        unfold cid4 at T
        generalize (⟨x.cid.dig.toArray⟩ : ByteArray) = d at *
        generalize (x.cid.ver : Int) = v0 at *
        generalize (x.cid.codec : Int) = v1 at *
        generalize (x.cid.code : Int) = v2 at *
        have HB := Lib.hid hb
        clear hcl hsv hks q0 q1 q2 q3 q4 htk hmem ht hb
        go_wp2_with fail
        refine (T _).out.mono ?_
        rintro e w1 ⟨htw, hb1⟩
        have b1 := below_next HB.out hb1
        clear hb1 T HB
        rcases htw with ⟨h, rfl⟩ | ⟨h, rfl⟩
        · have hnx := Lib.hid (HX.out true (Or.inl ⟨rfl, h⟩))
          clear HX h
          go_wp2
          go_roundw
          case rel => exact ⟨true, k + 1, by omega, rfl, by go_num, hnx, Lib.hid (fun _ => by first | exact h60.out rfl | exact h60.out trivial), b1⟩
          case measure => simp [intOf]; omega
        · have hnx := Lib.hid (HX.out false (Or.inr ⟨rfl, h⟩))
          clear HX h
          go_wp2
          go_roundw
          case rel => exact ⟨false, k + 1, by omega, rfl, by go_num, hnx, Lib.hid (fun h => nomatch h), b1⟩
          case measure => simp [intOf]; omega
      · obtain rfl : k = n := by omega
        have hall : es.take k = es := List.take_of_length_le (by rw [HN.out]; exact Nat.le_refl _)
        have hyes : Hid (esGood es) := Lib.hid ⟨by rw [← HN.out]; exact h60.out rfl, by have := ht.out.t; rwa [hall] at this⟩
        clear hall
        go_wp2
        go_ret
        exact ⟨Or.inl ⟨hyes.out, rfl⟩, hb⟩
end Go.Proofs.YthehmnpbepmnpaaGreatDoorR
/- A slice of entries as a row of cells; an append of one; the step of a region that appends. -/
namespace Go.Proofs.YthehmnpbepmnpaaGreatDoorR
open Go.RowKit

/-- An entry's cells. -/
def cellsE (e : EntD) : List Value := [.int .u64 e.cid.ver, .int .u64 e.cid.codec, .int .u64 e.cid.code, .string ⟨e.cid.dig.toArray⟩, .int .u64 e.off]
def cellsES (es : List EntD) : List Value := es.flatMap cellsE
theorem cellsES_length (es : List EntD) : (cellsES es).length = es.length * 5 := by
  induction es with
  | nil => rfl
  | cons e es ih =>
    unfold cellsES at *
    rw [List.flatMap_cons, List.length_append, ih, List.length_cons]
    show 5 + _ = _
    omega
theorem cellsES_snoc (es : List EntD) (e : EntD) : cellsES (es ++ [e]) = cellsES es ++ cellsE e := by
  unfold cellsES
  rw [List.flatMap_append]
  simp
theorem cellsES_get : ∀ (es : List EntD) (j r : Nat) (x : EntD), es[j]? = some x → r < 5 → (cellsES es)[j * 5 + r]? = (cellsE x)[r]?
  | [], j, r, x, h, _ => by simp at h
  | e :: es, 0, r, x, h, hr => by
    obtain rfl : e = x := by simpa using h
    show (cellsE e ++ cellsES es)[0 * 5 + r]? = _
    rw [Nat.zero_mul, Nat.zero_add, List.getElem?_append_left (by show r < 5; exact hr)]
  | e :: es, j + 1, r, x, h, hr => by
    show (cellsE e ++ cellsES es)[(j + 1) * 5 + r]? = _
    rw [List.getElem?_append_right (by show 5 ≤ _; omega)]
    show (cellsES es)[(j + 1) * 5 + r - 5]? = _
    rw [show (j + 1) * 5 + r - 5 = j * 5 + r by omega]
    exact cellsES_get es j r x (by simpa using h) hr

theorem es_of_own {w : World} {base : Nat} {v : Value} {es : List EntD} (h : w.ownsRow base 29 5 v es.length (cellsES es)) : ES w v es := by
  obtain ⟨hl, h⟩ := h
  rcases h with ⟨rfl, h0⟩ | ⟨g, cap, cur, rfl, hbg, hg, hnc, hcm, hcs, ht⟩
  · exact ⟨none, 0, by rw [h0], by omega, fun h => by omega⟩
  · refine ⟨_, cap, rfl, hnc, fun _ => ⟨g, 0, rfl, fun j x hj => ?_⟩⟩
    have key : ∀ r, r < 5 → w.cell? ⟨g, 0 + j * 5 + r, none⟩ = (cellsE x)[r]? := fun r hr => by
      have hlt : j < es.length := by
        rcases Nat.lt_or_ge j es.length with h | h
        · exact h
        · rw [List.getElem?_eq_none h] at hj; cases hj
      rw [Nat.zero_add, cell_of_row' (cur := cur.toList) (by rw [Array.toArray_toList]; exact hg), ← cellsES_get es j r x hj hr, ← ht, List.getElem?_take, if_pos (by omega)]
    exact ⟨key 0 (by omega), key 1 (by omega), key 2 (by omega), key 3 (by omega), key 4 (by omega)⟩

theorem news_of_es {w : World} {b o c : Nat} {es : List EntD} (h : ES w (.slice (some ⟨b, o, none⟩) es.length c) es) : ∀ (j : Nat) (u : Value), (cellsES es)[j]? = some u → w.cell? ((⟨b, o, none⟩ : Addr).add j) = some u := by
  intro j u hu
  have hlt : j < es.length * 5 := by
    rw [← cellsES_length]
    rcases Nat.lt_or_ge j (cellsES es).length with h | h
    · exact h
    · rw [List.getElem?_eq_none h] at hu; cases hu
  obtain ⟨A, c', e1, _, h⟩ := h
  obtain ⟨b', o', e2, h⟩ := h (by omega)
  injection e1 with e1 _ _
  rw [← e1] at e2
  injection e2 with e2
  injection e2 with e2 e3
  subst e2 e3
  obtain ⟨x, hx⟩ : ∃ x, es[j / 5]? = some x := ⟨_, List.getElem?_eq_getElem (by omega)⟩
  have h1 := h (j / 5) x hx
  have h2 := cellsES_get es (j / 5) (j % 5) x hx (by omega)
  have hj : j / 5 * 5 + j % 5 = j := by omega
  rw [hj, hu] at h2
  have hadd : (⟨b, o, none⟩ : Addr).add j = ⟨b, o + j / 5 * 5 + j % 5, none⟩ := by
    have : o + j = o + j / 5 * 5 + j % 5 := by omega
    unfold Addr.add
    split <;> simp_all
  rw [hadd]
  have hr : j % 5 = 0 ∨ j % 5 = 1 ∨ j % 5 = 2 ∨ j % 5 = 3 ∨ j % 5 = 4 := by omega
  rcases hr with hr | hr | hr | hr | hr <;> rw [hr] at h2 ⊢ <;> rw [h2]
  · exact h1.1
  · exact h1.2.1
  · exact h1.2.2.1
  · exact h1.2.2.2.1
  · exact h1.2.2.2.2
theorem oneCell_E (e : EntD) : ∀ u ∈ cellsE e, u.oneCell' = true := by
  intro u hu
  unfold cellsE at hu
  simp only [List.mem_cons, List.not_mem_nil, or_false] at hu
  rcases hu with rfl | rfl | rfl | rfl | rfl <;> rfl
theorem oneCell_ES (es : List EntD) : ∀ u ∈ cellsES es, u.oneCell' = true := by
  intro u hu
  obtain ⟨e, _, he⟩ := List.mem_flatMap.1 hu
  exact oneCell_E e u he

theorem info_ent : ∃ i, Tryz.prog.info? 29 = some i ∧ i.zero = some (.agg #[.int .u64 0, .int .u64 0, .int .u64 0, .string ⟨#[]⟩, .int .u64 0]) ∧ i.size = 5 ∧ i.bytes = 48 := by
  have h : (Tryz.prog.info? 29).map (fun i => (i.zero, i.size, i.bytes)) = some (some (.agg #[.int .u64 0, .int .u64 0, .int .u64 0, .string ⟨#[]⟩, .int .u64 0]), 5, 48) := by kernel_rfl
  obtain ⟨i, hi, h2⟩ := Option.map_eq_some_iff.1 h
  simp only [Prod.mk.injEq] at h2
  exact ⟨i, hi, h2.1, h2.2.1, h2.2.2⟩

/-- Nothing is appended. -/
theorem run_append_zero {w : World} {base : Nat} {v : Value} {n : Nat} {xs : List Value} (ty : TypeId) (hown : w.ownsRow base 29 5 v n xs) (A : Option Addr) (c : Nat) :
    (Builtin.append_ #[22, 22] ty #[v, .slice A 0 c]).run Tryz.prog w = .ok v w := by
  obtain ⟨i, hi, hz, hsz, _⟩ := info_ent
  have hu := run_underlying (P := Tryz.prog) Tryz.underlying22
  rcases hown.2 with ⟨rfl, rfl⟩ | ⟨g, cap, cur, rfl, _, hg, hnc, _⟩
  · cases A <;> simp [Builtin.append_, hu, sizeOf, typeInfo, hi, Builtin.lenOf, Builtin.firstCells, loadCells, loadCellsFrom, Result.andThen]
  · cases A <;> simp [Builtin.append_, hu, sizeOf, typeInfo, hi, Builtin.lenOf, Builtin.firstCells, hnc, storeCells, loadCells, loadCellsFrom, Result.andThen]

/-- An append of cells that are known, some or none. -/
theorem step_append_es {ops : Array Oper} {o : Oper} {a : Act} {w : World} {K : Act → World → Prop} {Q : Exit → Act → World → Prop} {E : Prop} (hgd : o.guard = none) (s x : Operand)
    (ho : o.op = .call { callee := .builtin .append, args := #[s, x], argTypes := #[22, 22] })
    (base : Nat) (v : Value) (n : Nat) (xs : List Value) (hs : a.eval s = v) (hown : w.ownsRow base 29 5 v n xs)
    (A : Option Addr) (m c : Nat) (news : List Value) (hx : a.eval x = .slice A m c) (hl : news.length = m * 5) (hnews : 0 < m → ∃ ad, A = some ad ∧ ∀ j u, news[j]? = some u → w.cell? (ad.add j) = some u) (h1 : ∀ u ∈ news, u.oneCell' = true)
    (hnm : n + m ≤ 1000) (hbase : base ≤ w.heap.size)
    (h : ∀ v' w', w'.ownsRow base 29 5 v' (n + m) (xs ++ news) → w.grownBy w' v.ownBlock → (v'.ownBlock = v.ownBlock ∨ v'.ownBlock = some w.heap.size) → K (a.put o.dst v') w') :
    if Region.wanted o (yielded ops a.tmps) = true then Oper.wp Tryz.prog o a w K Q else E := by
  obtain ⟨i, hi, hz, hsz, hby⟩ := info_ent
  rcases Nat.eq_zero_or_pos m with h0 | h0
  · subst h0
    have hn : news = [] := List.eq_nil_of_length_eq_zero (by rw [hl])
    subst hn
    have hw : Region.wanted o (yielded ops a.tmps) = true := by simp [Region.wanted, hgd]
    rw [if_pos hw]
    have hk := h v w (by simpa using hown) (World.grownBy.refl w _) (.inl rfl)
    have hrun := run_append_zero (w := w) o.type hown A c
    unfold Oper.wp execOp
    simp only [ho, resolve, invoke, builtin, Sem.run_bind, Sem.run_pure, Result.andThen_ok, List.map_toArray, List.map_cons, List.map_nil, hs, hx, hrun]
    exact hk
  · obtain ⟨ad, rfl, hn⟩ := hnews h0
    refine step_append_lies _ hgd s x 22 ho base 29 i _ 5 48 Tryz.underlying22 hi hz hsz hby (by rfl) (by decide) v n xs hs hown ad m c news hx hl hn h1 h0 (by unfold maxLen; omega) (by omega) hbase w.heap.size rfl ?_
    intro g cap w' h2 h3 h4 _
    refine h _ _ h2 h3 ?_
    rcases h4 with h4 | h4
    · exact .inl h4.symm
    · exact .inr (by rw [h4]; rfl)
end Go.Proofs.YthehmnpbepmnpaaGreatDoorR
/- Contracts: spec.SameHash, spec.OfDigest. -/
namespace Go.Proofs.YthehmnpbepmnpaaGreatDoorR
open Go.RowKit

theorem str_beq {a b : List UInt8} : ((⟨a.toArray⟩ : ByteArray).toList == (⟨b.toArray⟩ : ByteArray).toList) = decide (a = b) := by
  rw [ba_beq2]
  by_cases h : a = b
  · subst h; simp
  · have : ¬ ((⟨a.toArray⟩ : ByteArray) = ⟨b.toArray⟩) := fun e => h (by injection e with e; simpa using e)
    simp [h, this]

theorem info_u64 : ∃ i, Tryz.prog.info? 23 = some i ∧ i.zero = some (.int .u64 0) ∧ i.size = 1 ∧ i.bytes = 8 := by
  have h : (Tryz.prog.info? 23).map (fun i => (i.zero, i.size, i.bytes)) = some (some (.int .u64 0), 1, 8) := by kernel_rfl
  obtain ⟨i, hi, h2⟩ := Option.map_eq_some_iff.1 h
  simp only [Prod.mk.injEq] at h2
  exact ⟨i, hi, h2.1, h2.2.1, h2.2.2⟩

/-- A slice of so many, some just if p. -/
def SomeIf (p : Prop) (e : Ending) : Prop := ∃ (A : Option Addr) (m c : Nat), e = .returned (.slice A m c) ∧ m ≤ 1000 ∧ (0 < m ↔ p)
/-- Whether a digest is there. -/
def hasD (es : List EntD) (dg : List UInt8) : Prop := ∃ e ∈ es, e.cid.dig = dg

set_option maxRecDepth 100000 in
set_option maxHeartbeats 8000000 in
theorem ofDigest_b (v : Value) (es : List EntD) (dg : List UInt8) (w : World) (hs : ES w v es) (hn : es.length ≤ 100) :
    Calls Tryz.prog 14 #[v, .string ⟨dg.toArray⟩] w fun e w' => SomeIf (hasD es dg) e ∧ Below w.heap.size w w' := by
  obtain ⟨i0, hi, hz0, hz1, hz2⟩ := info_u64
  obtain ⟨A, c, rfl, hc, hcells⟩ := hs
  obtain ⟨n, hN⟩ : ∃ n, n = es.length := ⟨_, rfl⟩
  rw [← hN] at hn
  have HC := Lib.hid hcells
  have HN := Lib.hid hN
  rw [← hN]
  clear hcells hc hN
  obtain ⟨D, hD⟩ : ∃ D : ByteArray, D = ⟨dg.toArray⟩ := ⟨_, rfl⟩
  rw [← hD]
  have HD := Lib.hid hD
  clear hD
  go_enter Tryz.func14, Tryz.ntmps14
  go_wp2
  go_loopw [5, 10] (fun v i wr => ∃ (k m : Nat) (xs : List Value), k ≤ n ∧ i = .int .i64 k ∧ Hid (wr.ownsRow w.heap.size 23 1 v m xs) ∧ m ≤ k ∧ Hid (0 < m ↔ hasD (es.take k) dg) ∧ Below w.heap.size w wr) (fun _ i _ => n - (intOf i).toNat)
  case atStart => exact ⟨0, 0, [], Nat.zero_le _, rfl, Lib.hid ⟨rfl, .inl ⟨rfl, rfl⟩⟩, Nat.le_refl _, Lib.hid (by simp [hasD]), Below.refl _ _⟩
  case round =>
    obtain ⟨k, m, xs, hk, rfl, hown, hmk, hiff, hb⟩ := hrel
    by_cases hlt : k < n
    · obtain ⟨b, o, rfl, hcl⟩ := HC.out (by rw [← HN.out]; omega)
      have hks : k < es.length := by rw [← HN.out]; exact hlt
      obtain ⟨x, hsv⟩ : ∃ x, es[k]? = some x := ⟨_, List.getElem?_eq_getElem hks⟩
      obtain ⟨q0, q1, q2, q3, q4⟩ := hcl k x hsv
      have c0 := below_cell hb q0
      have c1 := below_cell hb q1
      have c2 := below_cell hb q2
      have c3 := below_cell hb q3
      have c4 := below_cell hb q4
      have htk : es.take (k + 1) = es.take k ++ [x] := by rw [List.take_add_one, hsv]; rfl
      have hsn : hasD (es.take (k + 1)) dg ↔ hasD (es.take k) dg ∨ x.cid.dig = dg := by
        rw [htk]
        unfold hasD
        constructor
        · rintro ⟨e, he, h⟩
          rcases List.mem_append.1 he with h1 | h1
          · exact .inl ⟨e, h1, h⟩
          · obtain rfl : e = x := by simpa using h1
            exact .inr h
        · rintro (⟨e, he, h⟩ | h)
          · exact ⟨e, by simp [he], h⟩
          · exact ⟨x, by simp, h⟩
      have HSN := Lib.hid hsn
      have hbs := hb.size
      by_cases hx : x.cid.dig = dg
      · have heq := (str_beq (a := x.cid.dig) (b := dg)).trans (decide_eq_true hx)
        rw [← HD.out] at heq
        have hp : Hid (0 < m + 1 ↔ hasD (es.take (k + 1)) dg) := Lib.hid ⟨fun _ => HSN.out.2 (.inr hx), fun _ => by omega⟩
        generalize (⟨x.cid.dig.toArray⟩ : ByteArray) = d at *
        generalize (x.cid.ver : Int) = v0 at *
        generalize (x.cid.codec : Int) = v1 at *
        generalize (x.cid.code : Int) = v2 at *
        generalize (x.off : Int) = f at *
        have HB := Lib.hid hb
        clear hcl hsv hks q0 q1 q2 q3 q4 htk hsn HSN hx hb
        go_wp2_with (at_builtin; refine wpList_append_own_at _ rfl _ _ 33 rfl w.heap.size 23 i0 (.int .u64 0) 1 8 Tryz.underlying33 hi hz0 hz1 hz2 rfl (by decide) _ _ _ rfl ((hown.out.alloc _).alloc _) ⟨wr.heap.size + 1, 0, none⟩ 1 1 [.int .u64 f] rfl rfl ?c1 ?c2 ?c3 ?c4 ?c5 ?_)
        case c1 =>
          intro j u hj
          match j, hj with
          | 0, hj => simp at hj; subst hj; simp [Addr.add]
        case c2 => intro u hu; simp at hu; subst hu; rfl
        case c3 => unfold maxLen; omega
        case c4 => omega
        case c5 => simp; omega
        intro v' w2 hown' hgrow _ hat
        have hb2 : Below w.heap.size w w2 := ((HB.out.alloc HB.out.size _).alloc (by simp; omega) _).grown hgrow (by simp; omega) (fun q hq => (hown.out.lt q hq).1)
        have HO := Lib.hid hown'
        clear hown hgrow hown' hat
        go_wp2
        go_roundw
        case rel => exact ⟨k + 1, m + 1, _, by omega, by go_num, HO, by omega, hp, hb2⟩
        case measure => simp [intOf]; omega
      · have heq := (str_beq (a := x.cid.dig) (b := dg)).trans (decide_eq_false hx)
        rw [← HD.out] at heq
        have hp : Hid (0 < m ↔ hasD (es.take (k + 1)) dg) := Lib.hid (hiff.out.trans ⟨fun h => HSN.out.2 (.inl h), fun h => (HSN.out.1 h).resolve_right hx⟩)
        generalize (⟨x.cid.dig.toArray⟩ : ByteArray) = d at *
        generalize (x.cid.ver : Int) = v0 at *
        generalize (x.cid.codec : Int) = v1 at *
        generalize (x.cid.code : Int) = v2 at *
        generalize (x.off : Int) = f at *
        have hown2 := Lib.hid (hown.out.alloc (entO v0 v1 v2 d f))
        have hb2 := hb.alloc hb.size (entO v0 v1 v2 d f)
        clear hcl hsv hks q0 q1 q2 q3 q4 htk hsn HSN hx hb hown
        go_wp2
        go_roundw
        case rel => exact ⟨k + 1, m, _, by omega, by go_num, hown2, by omega, hp, hb2⟩
        case measure => simp [intOf]; omega
    · obtain rfl : k = n := by omega
      have hall : es.take k = es := List.take_of_length_le (by rw [HN.out]; exact Nat.le_refl _)
      rw [hall] at hiff
      have HO := hown.out.2
      rcases HO with ⟨rfl, h0⟩ | ⟨g, cap, cur, rfl, _⟩
      · clear hall hown
        go_wp2
        go_ret
        exact ⟨⟨none, 0, 0, rfl, by omega, by rw [← hiff.out, h0]⟩, hb⟩
      · clear hall hown
        go_wp2
        go_ret
        exact ⟨⟨_, m, cap, rfl, by omega, hiff.out⟩, hb⟩
end Go.Proofs.YthehmnpbepmnpaaGreatDoorR
/- Contract: a walk over a tree from a pivot on, with a function that gathers. -/
namespace Go.Proofs.YthehmnpbepmnpaaGreatDoorR
open Go.RowKit

/-- x's digest lies in memory, off the blocks of S. -/
def ItD.InO (S : Nat → Prop) (w : World) (x : ItD) : Prop := BSo S w (.slice x.A x.dig.length x.c) x.dig
/-- What the walk rests on: the tree, its items, the pivot; none of it in S. -/
structure AsfAt (S : Nat → Prop) (t : Tr ItD) (pv : ItD) (W : World) : Prop where
  at_ : t.At ItD.val W
  in_ : ∀ y ∈ t.toList, y.InO S W
  pv : pv.InO S W
  off : ∀ p ∈ t.blocks, ¬ S p
theorem AsfAt.keep {S : Nat → Prop} {t : Tr ItD} {pv : ItD} {W W' : World} (h : AsfAt S t pv W) (hk : Keep S W W') : AsfAt S t pv W' :=
  ⟨h.at_.keep hk h.off, fun y hy => BSo.keep (h.in_ y hy) hk, BSo.keep h.pv hk, h.off⟩
theorem AsfAt.left {S : Nat → Prop} {p : Nat} {l r : Tr ItD} {x pv : ItD} {b : Bool} {W : World} (h : AsfAt S (.node p l x r b) pv W) : AsfAt S l pv W :=
  ⟨h.at_.2.1, fun y hy => h.in_ y (by simp [Tr.toList, hy]), h.pv, fun q hq => h.off q (by simp [Tr.blocks, hq])⟩
theorem AsfAt.right {S : Nat → Prop} {p : Nat} {l r : Tr ItD} {x pv : ItD} {b : Bool} {W : World} (h : AsfAt S (.node p l x r b) pv W) : AsfAt S r pv W :=
  ⟨h.at_.2.2, fun y hy => h.in_ y (by simp [Tr.toList, hy]), h.pv, fun q hq => h.off q (by simp [Tr.blocks, hq])⟩
/-- What the walk leaves. -/
def AsfTo {σ : Type} (S : Nat → Prop) (St : σ → World → Prop) (r : Bool × σ) (W : World) (e : Ending) (w' : World) : Prop := e = .returned (.bool r.1) ∧ St r.2 w' ∧ Keep S W w'
/-- What bounds a gathering: how many items may follow. -/
structure Lives {σ : Type} (Live : σ → Nat → Prop) (step : σ → ItD → Bool × σ) : Prop where
  less : ∀ s k j, Live s (k + j) → Live s k
  step : ∀ s x k, Live s (k + 1) → (step s x).1 = true → Live (step s x).2 k
theorem Lives.scan {σ : Type} {Live : σ → Nat → Prop} {step : σ → ItD → Bool × σ} (h : Lives Live step) : ∀ (l : List ItD) (s : σ) (k : Nat), Live s (l.length + k) → (scan step s l).1 = true → Live (scan step s l).2 k
  | [], s, k, hl, _ => by simpa [Proofs.YthehmnpbepmnpaaGreatDoorR.scan] using hl
  | x :: l, s, k, hl, hg => by
    unfold Proofs.YthehmnpbepmnpaaGreatDoorR.scan at hg ⊢
    split at hg
    · rename_i hs
      rw [if_pos hs]
      exact h.scan l _ k (h.step s x (l.length + k) (by rw [List.length_cons] at hl; rwa [show l.length + 1 + k = l.length + k + 1 by omega] at hl) hs) hg
    · cases hg
/-- What the function does at an item. -/
def Gathers {σ : Type} (F : FuncId) (cs : Array Value) (S : Nat → Prop) (St : σ → World → Prop) (Pz : ItD → Prop) (Live : σ → Nat → Prop) (step : σ → ItD → Bool × σ) : Prop :=
  ∀ (x : ItD) (s : σ) (W : World), Pz x → Live s 1 → St s W → x.InO S W → Calls Tryz.prog F (#[x.item] ++ cs) W (AsfTo S St (step s x) W)

set_option maxRecDepth 100000 in
set_option maxHeartbeats 4000000 in
theorem asf_any {σ : Type} (F : FuncId) (eF : ∀ args w, (callFunc F args).run Tryz.prog w = .ok (.enter F args) w) (cs : Array Value) (S : Nat → Prop) (St : σ → World → Prop) (hSt : ∀ s W W', St s W → Below W.heap.size W W' → St s W') (Pz : ItD → Prop) (Live : σ → Nat → Prop) (step : σ → ItD → Bool × σ) (hL : Lives Live step)
    (hF : Gathers F cs S St Pz Live step) (T : Option Addr) (pv : ItD) : ∀ (t : Tr ItD) (s : σ) (W : World), AsfAt S t pv W → (∀ y ∈ t.toList, Pz y) → St s W → Live s (t.asc (fun x => blt x.dig pv.dig)).length →
    Calls Tryz.prog 107 #[.pointer T, .pointer t.addr, pv.item, .func (.func F) #[] cs] W (AsfTo S St (scan step s (t.asc (fun x => blt x.dig pv.dig))) W)
  | .nil, s, W, _, _, hf, _ => by
    show Calls Tryz.prog _ #[.pointer T, .pointer none, _, _] W _
    have HF := Lib.hid hf
    clear hf
    go_enter Tryz.func107, Tryz.ntmps107
    go_wp2
    go_ret
    exact ⟨rfl, HF.out, Keep.refl _ _⟩
  | .node p l x r b, s, W, h, hp, hf, hlv => by
    have HL := Lib.hid (less_any x pv W (h.in_ x (by simp [Tr.toList])).1 h.pv.1)
    have IL := Lib.hid (fun s W' (a : AsfAt S l pv W') (f : St s W') (v : Live s (l.asc (fun x => blt x.dig pv.dig)).length) => asf_any F eF cs S St hSt Pz Live step hL hF T pv l s W' a (fun y hy => hp y (by simp [Tr.toList, hy])) f v)
    have IR := Lib.hid (fun s W' (a : AsfAt S r pv W') (f : St s W') (v : Live s (r.asc (fun x => blt x.dig pv.dig)).length) => asf_any F eF cs S St hSt Pz Live step hL hF T pv r s W' a (fun y hy => hp y (by simp [Tr.toList, hy])) f v)
    have HX := Lib.hid (hp x (by simp [Tr.toList]))
    have HH := Lib.hid h
    have HFB := Lib.hid hf
    have HFF := Lib.hid hF
    obtain ⟨⟨p0, p1, p2, _⟩, _⟩ := node_cells h.at_.1
    have HLV := Lib.hid hlv
    have HLL := Lib.hid hL
    clear h hp hf hF hlv hL
    show Calls Tryz.prog _ #[.pointer T, .pointer (some ⟨p, 0, none⟩), _, _] W _
    cases hc : blt x.dig pv.dig with
    | true =>
      rw [hc] at HL
      have hasc : Hid ((Tr.node p l x r b).asc (fun x => blt x.dig pv.dig) = r.asc (fun x => blt x.dig pv.dig)) := Lib.hid (Tr.asc_yes hc)
      clear hc p1
      go_enter Tryz.func107, Tryz.ntmps107
      go_wp2_with fail
      refine HL.out.mono ?_
      rintro e w1 ⟨rfl, hb⟩
      have c2' := below_cell hb p2
      have hk := hb.keep (S := S)
      have HI := Lib.hid (IR.out s w1 ((HH.out.keep hk).right) (hSt _ _ _ HFB.out hb) (by have := HLV.out; rwa [hasc.out] at this))
      have HK := Lib.hid hk
      clear p0 p2 hb hk HL IL IR
      go_wp2_with fail
      refine HI.out.mono ?_
      rintro e w2 ⟨rfl, h1, h2⟩
      have H1 := Lib.hid h1
      clear h1
      go_wp2
      go_ret
      exact ⟨by rw [hasc.out]; rfl, by rw [hasc.out]; exact H1.out, HK.out.trans h2⟩
    | false =>
      rw [hc] at HL
      obtain ⟨L, hL⟩ : ∃ L, L = l.asc (fun x => blt x.dig pv.dig) := ⟨_, rfl⟩
      obtain ⟨R, hR⟩ : ∃ R, R = r.asc (fun x => blt x.dig pv.dig) := ⟨_, rfl⟩
      have hasc : Hid ((Tr.node p l x r b).asc (fun x => blt x.dig pv.dig) = L ++ x :: R) := Lib.hid (by rw [hL, hR]; exact Tr.asc_no hc)
      rw [← hL] at IL
      rw [← hR] at IR
      have HLN : Hid (Live s (L.length + (1 + R.length))) := Lib.hid (by have := HLV.out; rw [hasc.out, List.length_append, List.length_cons, Nat.add_comm R.length 1] at this; exact this)
      clear hc hL hR
      go_enter Tryz.func107, Tryz.ntmps107
      go_wp2_with fail
      refine HL.out.mono ?_
      rintro e w1 ⟨rfl, hb⟩
      have d0 := below_cell hb p0
      have d1 := below_cell hb p1
      have d2 := below_cell hb p2
      have hk := hb.keep (S := S)
      have a1 := HH.out.keep hk
      have f1 := hSt _ _ _ HFB.out hb
      have HI := Lib.hid (IL.out s w1 a1.left f1 (HLL.out.less _ _ _ HLN.out))
      have HK := Lib.hid hk
      have A1 := Lib.hid a1
      clear p0 p1 p2 hb hk HL IL a1 f1 HFB HH
      go_wp2_with fail
      refine HI.out.mono ?_
      rintro e w2 ⟨rfl, h1, h2⟩
      have HK2 := Lib.hid (HK.out.trans h2)
      have hpf : ¬ S p := A1.out.off p (by simp [Tr.blocks])
      have e0 := h2.cell d0 hpf
      have e2 := h2.cell d2 hpf
      have A2 := Lib.hid (A1.out.keep h2)
      have H1 := Lib.hid h1
      have HPF := Lib.hid hpf
      clear h1 h2 HI HK A1 d0 d1 d2 hpf
      have hlv1 := HLL.out.scan L s _ HLN.out
      obtain ⟨q1, hq1⟩ : ∃ q1, q1 = scan step s L := ⟨_, rfl⟩
      rw [← hq1] at H1 hlv1 ⊢
      have hsc : Hid (scan step s (L ++ x :: R) = if q1.1 = true then scan step q1.2 (x :: R) else (false, q1.2)) := Lib.hid (by rw [hq1]; exact scan_append step L (x :: R) s)
      clear hq1
      obtain ⟨o1, s1⟩ := q1
      dsimp only at H1 hsc hlv1 ⊢
      have HV1 := Lib.hid hlv1
      clear hlv1
      cases o1 with
      | false =>
        have hq : Hid (scan step s (L ++ x :: R) = (false, s1)) := Lib.hid (hsc.out.trans (if_neg (by simp)))
        clear hsc
        go_wp2
        go_ret
        refine ⟨by rw [hasc.out, hq.out]; rfl, by rw [hasc.out, hq.out]; exact H1.out, HK2.out⟩
      | true =>
        have hq : Hid (scan step s (L ++ x :: R) = scan step s1 (x :: R)) := Lib.hid (hsc.out.trans (if_pos rfl))
        have HV2 : Hid (Live s1 (1 + R.length)) := Lib.hid (HV1.out rfl)
        have HC := Lib.hid (HFF.out x s1 w2 HX.out (HLL.out.less _ _ _ HV2.out) H1.out (A2.out.in_ x (by simp [Tr.toList])))
        clear H1 hsc
        go_wp2_with fail
        refine HC.out.mono ?_
        rintro e w3 ⟨rfl, h3, h4⟩
        have j2 := h4.cell e2 HPF.out
        have HK3 := Lib.hid (HK2.out.trans h4)
        have A3 := Lib.hid (A2.out.keep h4)
        have H3 := Lib.hid h3
        clear h3 h4 e0 e2 HC HK2 A2
        have hsd : Hid (scan step s1 (x :: R) = if (step s1 x).1 = true then scan step (step s1 x).2 R else (false, (step s1 x).2)) := Lib.hid rfl
        have hlv2 := HLL.out.step s1 x R.length (by have := HV2.out; rwa [Nat.add_comm] at this)
        obtain ⟨q2, hq2⟩ : ∃ q2, q2 = step s1 x := ⟨_, rfl⟩
        rw [← hq2] at H3 hsd hlv2 ⊢
        clear hq2
        obtain ⟨o2, s2⟩ := q2
        dsimp only at H3 hsd hlv2 ⊢
        have HV3 := Lib.hid hlv2
        clear hlv2
        cases o2 with
        | false =>
          have hr : Hid (scan step s (L ++ x :: R) = (false, s2)) := Lib.hid (hq.out.trans (hsd.out.trans (if_neg (by simp))))
          clear hsd hq
          go_wp2
          go_ret
          refine ⟨by rw [hasc.out, hr.out]; rfl, by rw [hasc.out, hr.out]; exact H3.out, HK3.out⟩
        | true =>
          have hr : Hid (scan step s (L ++ x :: R) = scan step s2 R) := Lib.hid (hq.out.trans (hsd.out.trans (if_pos rfl)))
          clear hsd hq
          have HI := Lib.hid (IR.out s2 w3 A3.out.right H3.out (HV3.out rfl))
          clear H3 IR
          go_wp2_with fail
          refine HI.out.mono ?_
          rintro e w4 ⟨rfl, h5, h6⟩
          have H5 := Lib.hid h5
          clear h5
          go_wp2
          go_ret
          exact ⟨by rw [hasc.out, hr.out]; rfl, by rw [hasc.out, hr.out]; exact H5.out, HK3.out.trans h6⟩

set_option maxRecDepth 100000 in
set_option maxHeartbeats 1000000 in
/-- (*LLRB).AscendGreaterOrEqual over the whole tree. -/
theorem asfAll {σ : Type} (F : FuncId) (eF : ∀ args w, (callFunc F args).run Tryz.prog w = .ok (.enter F args) w) (cs : Array Value) (S : Nat → Prop) (St : σ → World → Prop) (hSt : ∀ s W W', St s W → Below W.heap.size W W' → St s W') (Pz : ItD → Prop) (Live : σ → Nat → Prop) (step : σ → ItD → Bool × σ) (hL : Lives Live step)
    (hF : Gathers F cs S St Pz Live step) (g : Nat) (pv : ItD) (t : Tr ItD) (s : σ) (W : World) (hi : IdxAt W g t) (ha : AsfAt S t pv W) (hp : ∀ y ∈ t.toList, Pz y) (hf : St s W) (hlv : Live s (t.asc (fun x => blt x.dig pv.dig)).length) :
    Calls Tryz.prog 69 #[.pointer (some ⟨g, 0, none⟩), pv.item, .func (.func F) #[] cs] W fun e w' => e = .returned (.tuple #[]) ∧ St (scan step s (t.asc (fun x => blt x.dig pv.dig))).2 w' ∧ Keep S W w' := by
  have HA := Lib.hid (asf_any F eF cs S St hSt Pz Live step hL hF (some ⟨g, 0, none⟩) pv t s W ha hp hf hlv)
  have k1 : W.cell? ⟨g, 1, none⟩ = some (.pointer t.addr) := cell_of_row' (cur := [_, _]) hi.row 1
  clear hi ha hp hf hF eF hlv hL
  go_enter Tryz.func69, Tryz.ntmps69
  go_wp2_with fail
  refine HA.out.mono ?_
  rintro e w1 ⟨rfl, h1, h2⟩
  have H1 := Lib.hid h1
  clear h1
  go_wp2
  go_end0
  exact ⟨rfl, H1.out, h2⟩
end Go.Proofs.YthehmnpbepmnpaaGreatDoorR
