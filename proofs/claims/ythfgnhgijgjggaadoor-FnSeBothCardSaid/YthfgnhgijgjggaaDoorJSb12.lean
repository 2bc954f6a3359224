/- Contracts, joined (LwD LwE EqS CdR SpA SpB CdS CdT CdU SeT SeU). -/
import Derived.Test.YthfgnhgijgjggaaDoorJSb2
import Derived.Test.YthfgnhgijgjggaaDoorJSb4
import Derived.Test.YthfgnhgijgjggaaDoorJSb6
import Derived.Test.YthfgnhgijgjggaaDoorJSb7
import Derived.Test.YthfgnhgijgjggaaDoorJSb10
import Derived.Test.YthfgnhgijgjggaaDoorJSb11
import Derived.Deep.AppendLies
import Derived.Laws.StructEq
import Derived.Lib.QuietBelow
import Derived.Deep.RegionHeld
/- Contract: util.LdWrite into a bytes.Buffer. -/
namespace Go.Proofs.YthfgnhgijgjggaaDoor
open Go.RowKit

/-- The bytes of strings, one behind the other. -/
def jn (ss : List ByteArray) : List UInt8 := (ss.map (fun s => s.data.toList)).flatten
theorem jn_nil : jn [] = [] := rfl
theorem jn_take (ss : List ByteArray) (k : Nat) (s : ByteArray) (h : ss[k]? = some s) : jn (ss.take (k + 1)) = jn (ss.take k) ++ s.data.toList := by
  unfold jn
  rw [List.take_add_one, h]
  simp
theorem jn_len (ss : List ByteArray) (m : Nat) (h : ∀ s ∈ ss, s.size ≤ m) : (jn ss).length ≤ ss.length * m := by
  induction ss with
  | nil => simp [jn]
  | cons s ss ih =>
    have h1 := ih (fun x hx => h x (by simp [hx]))
    have h2 := h s (by simp)
    have e : jn (s :: ss) = s.data.toList ++ jn ss := rfl
    rw [e, List.length_append, List.length_cons, Nat.succ_mul]
    have h3 : s.data.toList.length = s.size := ba_len s
    omega

theorem uvarint_len3 {n : Nat} (h : n < 2097152) : (Lib.uvarint n).length ≤ 3 := by
  by_cases h1 : n < 128
  · rw [Lib.uvarint_small h1]; simp
  · rw [Lib.uvarint_big (by omega), List.length_cons]
    by_cases h2 : n / 128 < 128
    · rw [Lib.uvarint_small h2]; simp
    · rw [Lib.uvarint_big (by omega), List.length_cons, Lib.uvarint_small (by omega)]; simp

theorem nil_bufWrite (a : Addr) (w : World) : (nilAhead 359 110 (.pointer (some a)) "Write").run Tryd.prog w = .ok (some false) w := by kernel_rfl
theorem method_bufWrite (a : Addr) (w : World) : (method 359 110 (.pointer (some a)) "Write").run Tryd.prog w = .ok (146, .pointer (some a)) w := by kernel_rfl

abbrev bufV (b : Nat) : Value := .iface 110 (.pointer (some ⟨b, 0, none⟩))

theorem cells_src {w : World} {g : Nat} {l : List UInt8} (h : ∀ i (hi : i < l.length), w.cell? ⟨g, 0 + i, none⟩ = some (.int .u8 (l[i].toNat))) : ∀ j v, (Lib.byteCells l)[j]? = some v → w.cell? ((⟨g, 0, none⟩ : Addr).add j) = some v := by
  intro j v hv
  have hj : j < l.length := by
    rcases Nat.lt_or_ge j l.length with h | h
    · exact h
    · rw [List.getElem?_eq_none (by rw [Lib.byteCells_length]; exact h)] at hv; cases hv
  have ead : (⟨g, 0, none⟩ : Addr).add j = ⟨g, 0 + j, none⟩ := by by_cases h : j = 0 <;> simp [Addr.add, h]
  rw [ead, h j hj]
  simp only [Lib.byteCells, List.getElem?_map, List.getElem?_eq_getElem hj, Option.map_some, Option.some.injEq] at hv
  rw [← hv]

set_option maxRecDepth 100000 in
set_option maxHeartbeats 8000000 in
theorem ldWrite_any (b lo : Nat) (v : Value) (ss : List ByteArray) (w : World) (hnil : BufNil w b) (hp : Parts w lo v ss) (hlo : b < lo) (hss : ∀ s ∈ ss, s.size ≤ 16384) (hn : ss.length ≤ 50) :
    Calls Tryd.prog 53 #[bufV b, v] w fun e w' => e = .returned .nilIface ∧ (∃ N, b < N ∧ BufRow w' N b (Lib.byteCells (Lib.uvarint (jn ss).length ++ jn ss))) ∧ Keep (fun k => k = b) w w' := by
  obtain ⟨A, c, rfl, hc, hcells⟩ := hp
  obtain ⟨n, hN⟩ : ∃ n, n = ss.length := ⟨_, rfl⟩
  have hlen := jn_len ss 16384 hss
  have hlens : ∀ k, (jn (ss.take k)).length ≤ 819200 := fun k => by
    have := jn_len (ss.take k) 16384 (fun s hs => hss s (List.mem_of_mem_take hs))
    have h2 : (ss.take k).length ≤ 50 := by rw [List.length_take]; omega
    have h3 : (ss.take k).length * 16384 ≤ 50 * 16384 := Nat.mul_le_mul_right _ h2
    omega
  have hbw : b < w.heap.size := by obtain ⟨lr, h⟩ := hnil; exact block_of_row h
  rw [← hN] at hc hn
  have HC := Lib.hid hcells
  have HN := Lib.hid hN
  have HS := Lib.hid hss
  have HLS := Lib.hid hlens
  have HLS2 := Lib.hid hlens
  have HNIL := Lib.hid hnil
  rw [← hN]
  clear hcells hc hN hss hlen hlens hnil
  have part : ∀ k, k < n → ∃ g s, A = some ⟨g, 0, none⟩ ∧ lo ≤ g ∧ g < w.heap.size ∧ ss[k]? = some s ∧ s.size ≤ 16384 ∧ ∃ b' c', w.cell? ⟨g, 0 + k, none⟩ = some (.slice (some ⟨b', 0, none⟩) s.size c') ∧ s.size ≤ c' ∧ lo ≤ b' ∧ b' < w.heap.size ∧ ∀ i (h : i < s.data.toList.length), w.cell? ⟨b', 0 + i, none⟩ = some (.int .u8 (s.data.toList[i].toNat)) := by
    intro k hk
    obtain ⟨g, e, h1, h2, h3⟩ := HC.out (by rw [← HN.out]; omega)
    have hks : k < ss.length := by rw [← HN.out]; exact hk
    obtain ⟨x, hx, b', c', e', h4, h5, h6, -, h7⟩ := h3 k _ (List.getElem?_eq_getElem hks)
    exact ⟨g, ss[k], e, h1, h2, List.getElem?_eq_getElem hks, HS.out _ (List.getElem_mem hks), b', c', by rw [hx, e'], h4, h5, h6, h7⟩
  have HP := Lib.hid part
  clear part
  go_enter Tryd.func53, Tryd.ntmps53
  go_wp2
  go_loop [5, 16] (fun x i => ∃ (k : Nat), k ≤ n ∧ i = .int .i64 k ∧ x = .int .u64 ((jn (ss.take k)).length : Nat)) (fun _ i => n - (intOf i).toNat)
  case atStart => exact ⟨0, Nat.zero_le _, rfl, rfl⟩
  case round =>
    obtain ⟨k, hk, rfl, rfl⟩ := hrel
    have hb1 := HLS.out k
    by_cases hlt : k < n
    · obtain ⟨g, s, rfl, hg1, hg2, hsk, hsz, b', c', hcell, hc', -, -, -⟩ := HP.out k hlt
      rw [Nat.zero_add] at hcell
      have HE := Lib.hid (jn_take ss k s hsk)
      clear hsk
      go_wp2
      go_round
      case rel => exact ⟨k + 1, by omega, by go_num, by rw [HE.out, List.length_append, ba_len]; go_num⟩
      case measure => simp [intOf]; omega
    · obtain rfl : k = n := by omega
      have hall : ss.take k = ss := List.take_of_length_le (by rw [HN.out]; exact Nat.le_refl _)
      rw [hall] at hb1 ⊢
      clear hall
      obtain ⟨T, hT⟩ : ∃ T, T = (jn ss).length := ⟨_, rfl⟩
      rw [← hT] at hb1 ⊢
      have hU := uvarint_len3 (n := T) (by omega)
      have hU0 := Lib.uvarint_pos T
      obtain ⟨w1, hmk0, hbl1, hs1, hrow⟩ := make_bytes (P := Tryd.prog) Tryd.underlying43 info_u8 w 8 (by omega)
      have hmk : (Instr.makeSlice 43 (.int .i64 8) (.int .i64 8)).run Tryd.prog w = .ok (.slice (some ⟨w.heap.size, 0, none⟩) 8 8) w1 := hmk0
      have HPU := Lib.hid (putUvW_any w.heap.size 0 8 8 T (List.replicate 8 (.int .u8 0)) 5 w1 (by omega) hrow (by simp; omega) (by omega))
      obtain ⟨L, hL⟩ : ∃ L, L = (Lib.uvarint T).length := ⟨_, rfl⟩
      rw [← hL] at hU hU0 HPU
      have HLL := Lib.hid hL
      have HTT := Lib.hid hT
      have HS1 := Lib.hid hs1
      have HBL := Lib.hid hbl1
      have hmf : ∀ (fn : Fn) (first cap : Array Value) (w : World), (Instr.makeFunc fn first cap).run Tryd.prog w = .ok (.func fn first cap) w := fun _ _ _ _ => rfl
      have hna := fun w => nil_bufWrite ⟨b, 0, none⟩ w
      have hme := fun w => method_bufWrite ⟨b, 0, none⟩ w
      have hL0 : (0 : Int) ≤ (L : Int) := by omega
      have hL8 : (L : Int) ≤ 8 := by omega
      clear hmk0 hbl1 hs1 hrow hL hT
      go_wp2_with fail
      refine HPU.out.mono ?_
      rintro e w2 ⟨rfl, hr2, ht2⟩
      have hbl2 : Below w.heap.size w w2 := HBL.out.trans (ht2.below (Nat.le_refl _))
      have hs2 : w2.heap.size = w.heap.size + 1 := by rw [ht2.size, HS1.out]
      have hnil2 : BufNil w2.drew b := by obtain ⟨lr, h⟩ := HNIL.out; exact ⟨lr, (hbl2.block b hbw).trans h⟩
      have hsrc : ∀ j v, (Lib.byteCells (Lib.uvarint T))[j]? = some v → w2.drew.cell? ((⟨w.heap.size, 0, none⟩ : Addr).add j) = some v := by
        intro j v hv
        have hjl : j < L := by
          rcases Nat.lt_or_ge j L with h | h
          · exact h
          · rw [List.getElem?_eq_none (by rw [Lib.byteCells_length, ← HLL.out]; exact h)] at hv; cases hv
        have hc := World.news_of_block (w := w2) hr2.out j v ?_
        · exact hc
        · rw [show (splice (List.replicate 8 (Value.int IntKind.u8 0)) 0 (Lib.byteCells (Lib.uvarint T))).toArray.toList = splice (List.replicate 8 (Value.int IntKind.u8 0)) 0 (Lib.byteCells (Lib.uvarint T)) from rfl, splice_get _ _ _ (by rw [Lib.byteCells_length, ← HLL.out]; simp; omega), if_pos (by rw [Lib.byteCells_length, ← HLL.out]; omega)]
          simpa using hv
      have HW := Lib.hid (bufWrite_nil b (Lib.byteCells (Lib.uvarint T)) ⟨w.heap.size, 0, none⟩ L 8 w2.drew hnil2 (by omega) (by omega) (by rw [Lib.byteCells_length, ← HLL.out]) (by show w.heap.size ≠ b; omega) hsrc (Lib.byteCells_one _))
      have HS2 := Lib.hid hs2
      have HBL2 := Lib.hid hbl2
      clear hr2 ht2 hbl2 hs2 hnil2 hsrc hmk HPU
      go_wp2_with fail
      go_region_with (go_at_call 146; refine HW.out.mono ?_; rintro e w3 ⟨rfl, hbr, hk3⟩)
      have hN1 : w2.drew.heap.size = w.heap.size + 1 := HS2.out
      have hkw3 : Keep (fun q => q = b) w w3 := (HBL2.out.keep.trans (keep_drew _ _)).trans hk3
      have hsz3 : w2.drew.heap.size ≤ w3.heap.size := hk3.size
      rw [hN1] at hbr hsz3
      have HBR := Lib.hid hbr
      have HKW := Lib.hid hkw3
      have hjn0 : jn (ss.take 0) = [] := rfl
      clear HW hk3 hbr hkw3 hN1 HS2 HBL2 HLS hlt HS1 HBL hmf hL0 hL8 hU hU0 HLL
      go_wp2
      go_loopw [46] (fun i wr => ∃ (m : Nat), m ≤ k ∧ i = .int .i64 m ∧ Hid (BufRow wr (w.heap.size + 1) b (Lib.byteCells (Lib.uvarint T ++ jn (ss.take m)))) ∧ Hid (Keep (fun q => q = b ∨ w.heap.size + 1 ≤ q) w3 wr)) (fun i _ => k - (intOf i).toNat)
      case atStart => exact ⟨0, Nat.zero_le _, rfl, Lib.hid (by rw [hjn0, List.append_nil]; exact HBR.out), Lib.hid (Keep.refl _ _)⟩
      case round =>
        obtain ⟨m, hm, rfl, hbm, hkm⟩ := hrel
        by_cases hlt : m < k
        · obtain ⟨g, s, rfl, hg1, hg2, hsk, hsz, b', c', hcell, hc', hb1', hb2', hcs⟩ := HP.out m hlt
          rw [Nat.zero_add] at hcell
          have hcw : wr.cell? ⟨g, m, none⟩ = some (.slice (some ⟨b', 0, none⟩) s.size c') := hkm.out.cell (HKW.out.cell hcell (by show ¬ g = b; omega)) (by show ¬ (g = b ∨ w.heap.size + 1 ≤ g); omega)
          have hsw := cells_src (w := wr) (g := b') (l := s.data.toList) (fun i hi => hkm.out.cell (HKW.out.cell (hcs i hi) (by show ¬ b' = b; omega)) (by show ¬ (b' = b ∨ w.heap.size + 1 ≤ b'); omega))
          have hbl : (Lib.byteCells (Lib.uvarint T ++ jn (ss.take m))).length + s.size ≤ 140737488355328 ∧ 0 < (Lib.byteCells (Lib.uvarint T ++ jn (ss.take m))).length := by
            have h1 := HLS2.out m
            have h2 := uvarint_len3 (n := T) (by omega)
            have h3 := Lib.uvarint_pos T
            rw [Lib.byteCells_length, List.length_append]
            omega
          have HW := Lib.hid (bufWrite_row (w.heap.size + 1) b (Lib.byteCells (Lib.uvarint T ++ jn (ss.take m))) (Lib.byteCells s.data.toList) ⟨b', 0, none⟩ s.size c' wr hbm.out (by have := hkm.out.size; omega) (by omega) hbl.2 (Lib.byteCells_one _) (by rw [Lib.byteCells_length, ba_len]) (by show b' ≠ b; omega) (by show b' < w.heap.size + 1; omega) hsw (Lib.byteCells_one _) hbl.1)
          have HE := Lib.hid (jn_take ss m s hsk)
          clear hcell hcs hsw hbl hsk
          go_wp2_with (go_at_call 146; refine HW.out.mono ?_; rintro e w5 ⟨rfl, hbr, hk5⟩)
          go_roundw
          case rel => exact ⟨m + 1, by omega, by go_num, Lib.hid (by rw [HE.out, ← List.append_assoc, Lib.byteCells_append]; exact hbr), Lib.hid (hkm.out.trans hk5)⟩
          case measure => simp [intOf]; omega
        · obtain rfl : m = k := by omega
          have hall : ss.take m = ss := List.take_of_length_le (by rw [HN.out]; exact Nat.le_refl _)
          rw [hall] at hbm
          clear hall
          go_wp2
          go_ret
          rw [← HTT.out]
          exact ⟨rfl, ⟨w.heap.size + 1, by omega, hbm.out⟩, HKW.out.trans2 hkm.out (fun i hi h => by omega)⟩
end Go.Proofs.YthfgnhgijgjggaaDoor
/- Contracts: impl.LdWrite, laws.ldOne. -/
namespace Go.Proofs.YthfgnhgijgjggaaDoor
open Go.RowKit

theorem BufRow.is {w : World} {N b : Nat} {bs : List Value} (h : BufRow w N b bs) : Lib.IsBuffer 108 5 0 b bs w := by
  obtain ⟨g, cap, cur, lr, hbk, _, hgb, hg, hlc, hcm, hcs, htk⟩ := h
  exact ⟨Nat.zero_le _, _, _, hbk, ⟨by rw [Nat.mul_one], .inr ⟨g, cap, cur, rfl, Nat.zero_le _, hg, by omega, hcm, by omega, by rw [Nat.mul_one]; exact htk⟩⟩, by simp [Value.ownBlock]; exact hgb⟩

set_option maxRecDepth 100000 in
set_option maxHeartbeats 4000000 in
theorem iLdWrite (v : Value) (ss : List ByteArray) (w : World) (hs : SS w v ss) (hss : ∀ s ∈ ss, s.size ≤ 16384) (hn : ss.length ≤ 50) :
    Calls Tryd.prog 29 #[v] w fun e w' => e = .returned (.string ⟨(Lib.uvarint (jn ss).length ++ jn ss).toArray⟩) ∧ Below w.heap.size w w' := by
  have hA : Below w.heap.size w (w.alloc (.cells #[.slice none 0 0, .int .i64 0, .int .i8 0] 108)) := (Below.refl _ _).alloc (Nat.le_refl _) _
  have hrow := heap_alloc_new w (.cells #[.slice none 0 0, .int .i64 0, .int .i8 0] 108)
  have hsz : (w.alloc (.cells #[.slice none 0 0, .int .i64 0, .int .i8 0] 108)).heap.size = w.heap.size + 1 := by simp
  obtain ⟨w1, hw1⟩ : ∃ w1, w1 = w.alloc (.cells #[.slice none 0 0, .int .i64 0, .int .i8 0] 108) := ⟨_, rfl⟩
  rw [← hw1] at hA hrow hsz
  have HB := Lib.hid (bytesOf_any v ss w1 (hs.below hA) (by omega))
  have HR := Lib.hid hrow
  have HA := Lib.hid hA
  have HSZ := Lib.hid hsz
  have HS := Lib.hid hss
  have HN := Lib.hid hn
  rw [hw1] at HB
  clear hs hrow hA hsz hss hn
  go_enter Tryd.func29, Tryd.ntmps29
  go_wp2_with fail
  refine HB.out.mono ?_
  rw [← hw1]
  clear hw1
  rintro e w2 ⟨⟨v', rfl, hp⟩, hb2⟩
  have hnil : BufNil w2 w.heap.size := ⟨0, row_below hb2 (block_of_row HR.out) HR.out⟩
  have HL := Lib.hid (ldWrite_any w.heap.size w1.heap.size v' ss w2 hnil hp (by rw [HSZ.out]; omega) HS.out HN.out)
  have b2 := Lib.hid (below_next HA.out hb2)
  clear hp hb2 hnil HB
  go_wp2_with fail
  refine HL.out.mono ?_
  rintro e w3 ⟨rfl, ⟨N, hN, hbr⟩, hk⟩
  have HST := Lib.hid (Tryd.Buffer_String 0 w.heap.size _ w3 hbr.is)
  have b3 : Below w.heap.size w w3 := b2.out.trans (hk.below (fun k hk e => by omega) b2.out.size)
  clear hbr hk
  go_wp2_with fail
  refine HST.out.mono ?_
  rintro e w4 ⟨rfl, q, rfl⟩
  go_wp2
  go_ret
  exact ⟨rfl, b3.drewN _⟩

theorem uvDec_3abc : uvDec (⟨#[3, 97, 98, 99]⟩ : ByteArray).data.toList = .ok 3 1 := rfl

set_option maxRecDepth 100000 in
set_option maxHeartbeats 4000000 in
theorem ldOne_any (w : World) (e0 e1 : Addr) (t2 t3 : TypeId) (p2 p3 : Value) (he : UvErrs w.heap.size w e0 e1 (.iface t2 p2) (.iface t3 p3)) :
    Calls Tryd.prog 26 #[] w fun e w' => e = .returned (.bool true) ∧ Below w.heap.size w w' := by
  have HRD := Lib.hid (iLdRead_ok ⟨#[3, 97, 98, 99]⟩ (by decide) w e0 e1 t2 t3 p2 p3 he 3 1 uvDec_3abc false 100 (by omega) (fun h => by cases h) (by decide) ⟨#[97, 98, 99]⟩ rfl)
  have HW := fun (W : World) (v : Value) (h : SS W v [⟨#[97]⟩, ⟨#[98, 99]⟩]) => Lib.hid (iLdWrite v [⟨#[97]⟩, ⟨#[98, 99]⟩] W h (by decide) (by decide))
  have hout : (⟨(Lib.uvarint (jn [⟨#[97]⟩, ⟨#[98, 99]⟩]).length ++ jn [⟨#[97]⟩, ⟨#[98, 99]⟩]).toArray⟩ : ByteArray) = ⟨#[3, 97, 98, 99]⟩ := by
    rw [show (jn [⟨#[97]⟩, ⟨#[98, 99]⟩]) = [97, 98, 99] from rfl]
    rw [Lib.uvarint_small (by decide)]
    rfl
  rw [hout] at HW
  clear hout he
  go_enter Tryd.func26, Tryd.ntmps26
  go_wp2_with fail
  refine HRD.out.mono ?_
  rintro e w1 ⟨rfl, hb1⟩
  have HB1 := Lib.hid hb1
  clear hb1
  go_wp2_with fail
  have hrow := heap_alloc_new w1 (.cells #[.string ⟨#[97]⟩, .string ⟨#[98, 99]⟩] 9)
  have hss : SS (w1.alloc (.cells #[.string ⟨#[97]⟩, .string ⟨#[98, 99]⟩] 9)) (.slice (some ⟨w1.heap.size, 0, none⟩) 2 2) [⟨#[97]⟩, ⟨#[98, 99]⟩] :=
    ⟨_, 2, rfl, by decide, fun _ => ⟨_, 0, rfl, fun j s hj => by
      match j, hj with
      | 0, hj => obtain rfl : (⟨#[97]⟩ : ByteArray) = s := by simpa using hj
                 exact cell_of_row' (cur := [_, _]) hrow 0
      | 1, hj => obtain rfl : (⟨#[98, 99]⟩ : ByteArray) = s := by simpa using hj
                 exact cell_of_row' (cur := [_, _]) hrow 1⟩⟩
  have hal : Below w.heap.size w (w1.alloc (.cells #[.string ⟨#[97]⟩, .string ⟨#[98, 99]⟩] 9)) := HB1.out.alloc HB1.out.size _
  refine (HW _ _ hss).out.mono ?_
  rintro e w2 ⟨rfl, hb2⟩
  have b2 := below_next hal hb2
  clear hrow hss hal hb2
  go_wp2
  go_ret
  exact ⟨rfl, b2⟩
end Go.Proofs.YthfgnhgijgjggaaDoor
/- '==' of two structs, field by field, as one Bool. No program in sight. -/
namespace Go.Proofs.YthfgnhgijgjggaaDoor
section
variable {P : Program} {d : Nat} {xs ys : Array Value} {f : Field} {fs : List Field} {a b : Value} {r s : Bool} {w : World}
theorem fields_last (hn : f.name ≠ "_") (ha : (part f.type xs f.offset).run P w = .ok a w) (hb : (part f.type ys f.offset).run P w = .ok b w) (he : (Op.equalIn d f.type a b).run P w = .ok r w) : (Op.eqFields d xs ys [f]).run P w = .ok r w := by
  simp only [Op.eqFields, if_pos hn, Sem.run_bind, ha, hb, he, Result.andThen_ok]
  cases r <;> simp
theorem fields_more (hn : f.name ≠ "_") (ha : (part f.type xs f.offset).run P w = .ok a w) (hb : (part f.type ys f.offset).run P w = .ok b w) (he : (Op.equalIn d f.type a b).run P w = .ok r w) (hr : (Op.eqFields d xs ys fs).run P w = .ok s w) : (Op.eqFields d xs ys (f :: fs)).run P w = .ok (r && s) w := by
  rw [Op.eqFields]
  simp only [if_pos hn, Sem.run_bind, ha, hb, he, Result.andThen_ok]
  cases r with
  | false => simp
  | true => simpa using hr
theorem structs_equal {t : TypeId} {fs : Array Field} (hu : P.underlying t = some (.struct fs)) (hp : P.stoodInHeld t = false) (h : (Op.eqFields d xs ys fs.toList).run P w = .ok r w) : (Op.equalIn (d + 1) t (.agg xs) (.agg ys)).run P w = .ok r w := by
  have hf : P.fieldsOf t = fs := by simp [Program.fieldsOf, hu]
  rw [run_equalIn_struct (P := P) w d t xs ys (by rw [hf]; exact hu) hp, hf]
  exact h
end
end Go.Proofs.YthfgnhgijgjggaaDoor
/- Contracts: spec.Tidy, laws.zzFits1, laws.cdGood, laws.cdOne; '==' of two identifiers. -/
namespace Go.Proofs.YthfgnhgijgjggaaDoor
open Go.RowKit

/-- '==' of two identifiers, field by field. -/
theorem run_eqCid (x0 x1 x2 y0 y1 y2 : Int) (s t : ByteArray) (w : World) (d : Nat) :
    (Op.equalIn (d + 2) 26 (.agg #[.int .u64 x0, .int .u64 x1, .int .u64 x2, .string s]) (.agg #[.int .u64 y0, .int .u64 y1, .int .u64 y2, .string t])).run Tryd.prog w = .ok (x0 == y0 && (x1 == y1 && (x2 == y2 && (s.toList == t.toList)))) w := by
  refine structs_equal Tryd.underlying26 (by kernel_rfl) ?_
  refine fields_more (by decide) (by go_simp; rfl) (by go_simp; rfl) (by go_simp) ?_
  refine fields_more (by decide) (by go_simp; rfl) (by go_simp; rfl) (by go_simp) ?_
  refine fields_more (by decide) (by go_simp; rfl) (by go_simp; rfl) (by go_simp) ?_
  refine fields_last (by decide) (by go_simp; rfl) (by go_simp; rfl) ?_
  go_simp

theorem ba_toList (l : List UInt8) : (⟨l.toArray⟩ : ByteArray).toList = l := by rw [ByteArray.toList_eq]

theorem eqCid_same (x : CidD) (w : World) : (binOp .eql 26 (cidVal x) (cidVal x)).run Tryd.prog w = .ok (.bool true) w := by
  unfold cidVal
  simp only [binOp]
  simp [Op.equal, Op.maxDepth, run_eqCid _ _ _ _ _ _ _ _ w 9998]

theorem eqCid_other (x y : CidD) (h : x ≠ y) (w : World) : (binOp .eql 26 (cidVal x) (cidVal y)).run Tryd.prog w = .ok (.bool false) w := by
  have hb : ((x.ver : Int) == y.ver && ((x.codec : Int) == y.codec && ((x.code : Int) == y.code && (((⟨x.dig.toArray⟩ : ByteArray)).toList == (⟨y.dig.toArray⟩ : ByteArray).toList)))) = false := by
    rw [Bool.eq_false_iff]
    intro e
    simp only [Bool.and_eq_true, beq_iff_eq, ba_toList] at e
    obtain ⟨e0, e1, e2, e3⟩ := e
    apply h
    obtain ⟨a, b, c, d⟩ := x
    obtain ⟨a', b', c', d'⟩ := y
    simp only at e0 e1 e2 e3
    subst e3
    obtain rfl : a = a' := by omega
    obtain rfl : b = b' := by omega
    obtain rfl : c = c' := by omega
    rfl
  unfold cidVal
  simp only [binOp]
  simp only [Op.equal, Op.maxDepth, run_eqCid _ _ _ _ _ _ _ _ w 9998, Sem.run_bind, Result.andThen_ok, hb]
  rfl

theorem neqCid_same (x : CidD) (w : World) : (binOp .neq 26 (cidVal x) (cidVal x)).run Tryd.prog w = .ok (.bool false) w := by
  unfold cidVal
  simp only [binOp]
  simp [Op.equal, Op.maxDepth, run_eqCid _ _ _ _ _ _ _ _ w 9998]
theorem neqCid_other (x y : CidD) (h : x ≠ y) (w : World) : (binOp .neq 26 (cidVal x) (cidVal y)).run Tryd.prog w = .ok (.bool true) w := by
  have hb := eqCid_other x y h w
  unfold cidVal at hb ⊢
  simp only [binOp] at hb ⊢
  simp only [Op.equal, Op.maxDepth, run_eqCid _ _ _ _ _ _ _ _ w 9998, Sem.run_bind, Result.andThen_ok] at hb ⊢
  simp only [Sem.run_pure, Result.ok.injEq, Value.bool.injEq, and_true] at hb
  rw [hb]
  rfl

set_option maxRecDepth 100000 in
set_option maxHeartbeats 2000000 in
theorem spTidy_yes (x : CidD) (d : ByteArray) (hx : x.dig = d.data.toList) (ht : x.tidy) (w : World) :
    Calls Tryd.prog 35 #[.agg #[.int .u64 x.ver, .int .u64 x.codec, .int .u64 x.code, .string d]] w fun e w' => e = .returned (.bool true) ∧ Below w.heap.size w w' := by
  obtain ⟨v, codec, code, dg⟩ := x
  simp only at hx
  subst hx
  rcases ht with ⟨h0, h1, h2, h3⟩ | ⟨h0, h1, h2⟩
  · simp only [ba_len] at h0 h1 h2 h3
    subst h0 h1 h2
    have h3' : ((d.size : Int) == 32) = true := by rw [h3]; rfl
    clear h3
    go_enter Tryd.func35, Tryd.ntmps35
    go_wp2
    go_ret
    exact ⟨rfl, (Below.refl _ _).alloc (Nat.le_refl _) _⟩
  · simp only at h0 h1 h2
    subst h0
    have h1' : (codec : Int) < 9223372036854775808 := by omega
    have h2' : (code : Int) < 9223372036854775808 := by omega
    generalize (codec : Int) = c1 at *
    generalize (code : Int) = c2 at *
    clear h1 h2
    go_enter Tryd.func35, Tryd.ntmps35
    go_wp2
    go_ret
    exact ⟨rfl, (Below.refl _ _).alloc (Nat.le_refl _) _⟩

set_option maxRecDepth 100000 in
set_option maxHeartbeats 400000 in
theorem spTidy_a (c0 c1 c2 : Int) (d : ByteArray) (h0 : (c0 == 0) = true) (h1 : (c1 == 112) = false) (w : World) :
    Calls Tryd.prog 35 #[.agg #[.int .u64 c0, .int .u64 c1, .int .u64 c2, .string d]] w fun e w' => e = .returned (.bool false) ∧ Below w.heap.size w w' := by
  go_enter Tryd.func35, Tryd.ntmps35
  go_wp2
  go_ret
  exact ⟨rfl, (Below.refl _ _).alloc (Nat.le_refl _) _⟩

set_option maxRecDepth 100000 in
set_option maxHeartbeats 400000 in
theorem spTidy_b (c0 c1 c2 : Int) (d : ByteArray) (h0 : (c0 == 0) = true) (h1 : (c1 == 112) = true) (h2 : (c2 == 18) = false) (w : World) :
    Calls Tryd.prog 35 #[.agg #[.int .u64 c0, .int .u64 c1, .int .u64 c2, .string d]] w fun e w' => e = .returned (.bool false) ∧ Below w.heap.size w w' := by
  go_enter Tryd.func35, Tryd.ntmps35
  go_wp2
  go_ret
  exact ⟨rfl, (Below.refl _ _).alloc (Nat.le_refl _) _⟩

set_option maxRecDepth 100000 in
set_option maxHeartbeats 400000 in
theorem spTidy_c (c0 c1 c2 : Int) (d : ByteArray) (h0 : (c0 == 0) = true) (h1 : (c1 == 112) = true) (h2 : (c2 == 18) = true) (h3 : ((d.size : Int) == 32) = false) (w : World) :
    Calls Tryd.prog 35 #[.agg #[.int .u64 c0, .int .u64 c1, .int .u64 c2, .string d]] w fun e w' => e = .returned (.bool false) ∧ Below w.heap.size w w' := by
  go_enter Tryd.func35, Tryd.ntmps35
  go_wp2
  go_ret
  exact ⟨rfl, (Below.refl _ _).alloc (Nat.le_refl _) _⟩

set_option maxRecDepth 100000 in
set_option maxHeartbeats 400000 in
theorem spTidy_d (c0 c1 c2 : Int) (d : ByteArray) (h0 : (c0 == 0) = false) (h1 : (c0 == 1) = false) (w : World) :
    Calls Tryd.prog 35 #[.agg #[.int .u64 c0, .int .u64 c1, .int .u64 c2, .string d]] w fun e w' => e = .returned (.bool false) ∧ Below w.heap.size w w' := by
  go_enter Tryd.func35, Tryd.ntmps35
  go_wp2
  go_ret
  exact ⟨rfl, (Below.refl _ _).alloc (Nat.le_refl _) _⟩

set_option maxRecDepth 100000 in
set_option maxHeartbeats 400000 in
theorem spTidy_e (c0 c1 c2 : Int) (d : ByteArray) (h0 : (c0 == 0) = false) (h1 : (c0 == 1) = true) (h2 : decide (c1 < 9223372036854775808) = false) (w : World) :
    Calls Tryd.prog 35 #[.agg #[.int .u64 c0, .int .u64 c1, .int .u64 c2, .string d]] w fun e w' => e = .returned (.bool false) ∧ Below w.heap.size w w' := by
  go_enter Tryd.func35, Tryd.ntmps35
  go_wp2
  go_ret
  exact ⟨rfl, (Below.refl _ _).alloc (Nat.le_refl _) _⟩

set_option maxRecDepth 100000 in
set_option maxHeartbeats 400000 in
theorem spTidy_f (c0 c1 c2 : Int) (d : ByteArray) (h0 : (c0 == 0) = false) (h1 : (c0 == 1) = true) (h2 : c1 < 9223372036854775808) (h3 : decide (c2 < 9223372036854775808) = false) (w : World) :
    Calls Tryd.prog 35 #[.agg #[.int .u64 c0, .int .u64 c1, .int .u64 c2, .string d]] w fun e w' => e = .returned (.bool false) ∧ Below w.heap.size w w' := by
  go_enter Tryd.func35, Tryd.ntmps35
  go_wp2
  go_ret
  exact ⟨rfl, (Below.refl _ _).alloc (Nat.le_refl _) _⟩

theorem int_beq_no {a : Nat} {b : Int} (h : (a : Int) ≠ b) : ((a : Int) == b) = false := beq_eq_false_iff_ne.2 h
theorem int_beq_yes {a : Nat} {b : Int} (h : (a : Int) = b) : ((a : Int) == b) = true := beq_iff_eq.2 h
theorem big_no {a : Nat} (h : ¬ a < 9223372036854775808) : decide ((a : Int) < 9223372036854775808) = false := decide_eq_false (by omega)
theorem big_yes {a : Nat} (h : a < 9223372036854775808) : (a : Int) < 9223372036854775808 := by omega

theorem spTidy_no (x : CidD) (d : ByteArray) (hx : x.dig = d.data.toList) (ht : ¬ x.tidy) (w : World) :
    Calls Tryd.prog 35 #[.agg #[.int .u64 x.ver, .int .u64 x.codec, .int .u64 x.code, .string d]] w fun e w' => e = .returned (.bool false) ∧ Below w.heap.size w w' := by
  obtain ⟨v, codec, code, dg⟩ := x
  simp only at hx
  subst hx
  by_cases h0 : v = 0
  · by_cases h1 : codec = 112
    · by_cases h2 : code = 18
      · exact spTidy_c v codec code d (int_beq_yes (by omega)) (int_beq_yes (by omega)) (int_beq_yes (by omega)) (int_beq_no fun e => ht (.inl ⟨h0, h1, h2, by show d.data.toList.length = 32; rw [ba_len]; omega⟩)) w
      · exact spTidy_b v codec code d (int_beq_yes (by omega)) (int_beq_yes (by omega)) (int_beq_no (by omega)) w
    · exact spTidy_a v codec code d (int_beq_yes (by omega)) (int_beq_no (by omega)) w
  · by_cases h1 : v = 1
    · by_cases h2 : codec < 9223372036854775808
      · exact spTidy_f v codec code d (int_beq_no (by omega)) (int_beq_yes (by omega)) (big_yes h2) (big_no fun h3 => ht (.inr ⟨h1, h2, h3⟩)) w
      · exact spTidy_e v codec code d (int_beq_no (by omega)) (int_beq_yes (by omega)) (big_no h2) w
    · exact spTidy_d v codec code d (int_beq_no (by omega)) (int_beq_no (by omega)) w

set_option maxRecDepth 100000 in
theorem fits1 (a b c : Int) (d : ByteArray) (hd : d.size ≤ 2147483647) (w : World) :
    Calls Tryd.prog 14 #[.agg #[.int .u64 a, .int .u64 b, .int .u64 c, .string d]] w fun e w' => e = .returned (.bool true) ∧ Below w.heap.size w w' := by
  go_enter Tryd.func14, Tryd.ntmps14
  go_wp2
  go_ret
  exact ⟨rfl, (Below.refl _ _).alloc (Nat.le_refl _) _⟩
set_option maxRecDepth 100000 in
theorem fits1_no (a b c : Int) (d : ByteArray) (hd : 2147483647 < d.size) (w : World) :
    Calls Tryd.prog 14 #[.agg #[.int .u64 a, .int .u64 b, .int .u64 c, .string d]] w fun e w' => e = .returned (.bool false) ∧ Below w.heap.size w w' := by
  go_enter Tryd.func14, Tryd.ntmps14
  go_wp2
  go_ret
  exact ⟨rfl, (Below.refl _ _).alloc (Nat.le_refl _) _⟩
end Go.Proofs.YthfgnhgijgjggaaDoor
/- Contracts of package spec: Varint, MultihashBytes, CidBytes, Tidy. -/
namespace Go.Proofs.YthfgnhgijgjggaaDoor
open Go.RowKit

theorem or128 (m : Nat) : bits .or .u8 ((m : Int) % 256) 128 = (((m % 128 + 128).toUInt8.toNat : Nat) : Int) := by
  rw [Lib.u8_or128_any _ (by omega) (by omega), Lib.toUInt8_toNat (by omega)]
  omega

/-- A row of the call's own reads as its bytes. -/
theorem bs_of_own {w : World} {B : Nat} {e : TypeId} {v : Value} {l : List UInt8} (h : w.ownsRow B e 1 v l.length (Lib.byteCells l)) : ∃ A c, v = .slice A l.length c ∧ BS w (.slice A l.length c) l := by
  rcases h.2 with ⟨rfl, h0⟩ | ⟨g, cap, cur, rfl, _, hg, hnc, _, hcs, htake⟩
  · have hl : l = [] := List.eq_nil_of_length_eq_zero h0
    subst hl
    exact ⟨none, 0, rfl, BS.nil _ _⟩
  · refine ⟨_, cap, rfl, BS.of_cells hnc fun j hj => ?_⟩
    rw [Nat.zero_add]
    have hc := cell_of_row w g j cur e (0, 0) hg
    rw [hc, Nat.mul_one] at *
    have h2 := congrArg (fun x => x[j]?) htake
    simp only [List.getElem?_take, Lib.byteCells, List.getElem?_map, List.getElem?_eq_getElem hj, Option.map_some] at h2
    rw [if_pos hj] at h2
    simpa using h2

set_option maxRecDepth 100000 in
set_option maxHeartbeats 4000000 in
theorem spVarint (n : Nat) (hn : n < 18446744073709551616) (w : World) :
    Calls Tryd.prog 23 #[.int .u64 n] w fun e w' => HasBytes (Lib.uvarint n) e w' ∧ Below w.heap.size w w' := by
  obtain ⟨i0, hi, hz0, hz1, hz2⟩ := info_u8p
  have hlen := Lib.uvarint_length64 hn
  have HL := Lib.hid hlen
  clear hlen
  go_enter Tryd.func23, Tryd.ntmps23
  go_wp2
  go_loopw [0, 3] (fun x v wr => ∃ (done : List UInt8) (m : Nat), x = .int .u64 m ∧ m < 18446744073709551616 ∧ Hid (Lib.uvarint n = done ++ Lib.uvarint m) ∧ done.length ≤ 10 ∧ wr.ownsRow w.heap.size 5 1 v done.length (Lib.byteCells done) ∧ Below w.heap.size w wr) (fun x _ _ => (intOf x).toNat)
  case atStart => exact ⟨[], n, rfl, hn, Lib.hid rfl, by simp, ⟨by simp [Lib.byteCells], .inl ⟨rfl, rfl⟩⟩, Below.refl _ _⟩
  case round =>
    obtain ⟨done, m, rfl, hm, hd, hdl, hown, hb⟩ := hrel
    have hl := congrArg List.length hd.out
    rw [List.length_append] at hl
    have hpos := Lib.uvarint_pos m
    have hd9 : done.length ≤ 9 := by have := HL.out; omega
    clear hl hpos
    have hBw := hb.size
    by_cases hge : 128 ≤ m
    · obtain ⟨c, hc⟩ : ∃ c : UInt8, c = (m % 128 + 128).toUInt8 := ⟨_, rfl⟩
      have hor : bits .or .u8 ((m : Int) % 256) 128 = ((c.toNat : Nat) : Int) := by rw [hc]; exact or128 m
      have hge' : (128 : Int) ≤ m := by omega
      have HC := Lib.hid hc
      clear hc
      go_wp2_with (at_builtin; refine wpList_append_own _ rfl _ _ 43 rfl w.heap.size 5 i0 (.int .u8 0) 1 1 Tryd.underlying43 hi hz0 hz1 hz2 rfl (by decide) _ _ _ rfl (hown.alloc _) ⟨wr.heap.size, 0, none⟩ 1 1 [.int .u8 (c.toNat : Int)] rfl rfl ?c1 ?c2 ?c3 ?c4 ?c5 ?_)
      case c1 =>
        intro j u hj
        match j, hj with
        | 0, hj => simp at hj; subst hj; simp [Addr.add]
      case c2 => intro u hu; simp at hu; subst hu; rfl
      case c3 => unfold maxLen; omega
      case c4 => omega
      case c5 => simp; omega
      intro v' w2 hown' hgrow _
      have hb2 : Below w.heap.size w w2 := (hb.alloc hBw _).grown hgrow (by simp; omega) (fun k hk => (hown.lt k hk).1)
      clear hown hgrow hor
      go_wp2
      go_roundw
      case rel =>
        refine ⟨done ++ [c], m / 128, by go_num, by omega, Lib.hid ?_, by simp; omega, ?_, hb2⟩
        · rw [hd.out, Lib.uvarint_big hge, HC.out]; simp
        · rw [Lib.byteCells_append, List.length_append]; exact hown'
      case measure => simp [intOf]; omega
    · have hge' : (m : Int) < 128 := by omega
      go_wp2_with (at_builtin; refine wpList_append_own _ rfl _ _ 43 rfl w.heap.size 5 i0 (.int .u8 0) 1 1 Tryd.underlying43 hi hz0 hz1 hz2 rfl (by decide) _ _ _ rfl (hown.alloc _) ⟨wr.heap.size, 0, none⟩ 1 1 [.int .u8 (m : Int)] rfl rfl ?d1 ?d2 ?d3 ?d4 ?d5 ?_)
      case d1 =>
        intro j u hj
        match j, hj with
        | 0, hj => simp at hj; subst hj; simp [Addr.add]
      case d2 => intro u hu; simp at hu; subst hu; rfl
      case d3 => unfold maxLen; omega
      case d4 => omega
      case d5 => simp; omega
      intro v' w2 hown' hgrow _
      have hb2 : Below w.heap.size w w2 := (hb.alloc hBw _).grown hgrow (by simp; omega) (fun k hk => (hown.lt k hk).1)
      clear hown hgrow
      have hown2 : w2.ownsRow w.heap.size 5 1 v' (Lib.uvarint n).length (Lib.byteCells (Lib.uvarint n)) := by
        rw [hd.out, Lib.uvarint_small (by omega), Lib.byteCells_append, List.length_append]
        have e : Lib.byteCells [m.toUInt8] = [Value.int .u8 (m : Int)] := by
          simp only [Lib.byteCells, List.map_cons, List.map_nil, Lib.toUInt8_toNat (show m < 256 by omega)]
        rw [e]
        exact hown'
      have HO := Lib.hid hown2
      clear hown' hown2
      go_wp2
      go_ret
      obtain ⟨A, c', rfl, hbs⟩ := bs_of_own HO.out
      exact ⟨⟨A, _, c', rfl, hbs⟩, hb2⟩
end Go.Proofs.YthfgnhgijgjggaaDoor
/- Contracts of package spec: MultihashBytes, CidBytes, Tidy. -/
namespace Go.Proofs.YthfgnhgijgjggaaDoor
open Go.RowKit

/-- A slice that turns to the string S, now and behind all that only makes memory. -/
def TurnsTo (S : ByteArray) (e : Ending) (w' : World) : Prop := ∃ A n c, e = .returned (.slice A n c) ∧ ∀ W, Below w'.heap.size w' W → (convert 43 9 (.slice A n c)).run Tryd.prog W = .ok (.string S) W

theorem spVarintS (n : Nat) (hn : n < 18446744073709551616) (S : ByteArray) (hS : S = ⟨(Lib.uvarint n).toArray⟩) (w : World) :
    Calls Tryd.prog 23 #[.int .u64 n] w fun e w' => TurnsTo S e w' ∧ Below w.heap.size w w' :=
  (spVarint n hn w).mono fun e w' ⟨⟨A, n, c, he, hbs⟩, hb⟩ => ⟨⟨A, n, c, he, fun W hW => by rw [hS]; exact (hbs.below hW).str (dst := 9) Tryd.underlying43 Tryd.underlying5 Tryd.underlying9⟩, hb⟩

theorem ba_cat' (a b : List UInt8) : (⟨a.toArray⟩ : ByteArray) ++ ⟨b.toArray⟩ = ⟨(a ++ b).toArray⟩ := by
  apply ByteArray.ext
  rw [ByteArray.data_append]; simp
theorem ba_eta (s : ByteArray) : s = ⟨s.data.toList.toArray⟩ := (ba_mk s).symm

end Go.Proofs.YthfgnhgijgjggaaDoor
/- Contracts: laws.cdOne, laws.cdGood. FnCdBytes' walk. -/
namespace Go.Proofs.YthfgnhgijgjggaaDoor
open Go.RowKit

def oneCid : CidD := ⟨1, 85, 0, [97]⟩
theorem one_tidy : oneCid.tidy := .inr ⟨rfl, by decide, by decide⟩
theorem uvarint0 : Lib.uvarint 0 = [0] := Lib.uvarint_small (by omega)
theorem uvarint85 : Lib.uvarint 85 = [85] := Lib.uvarint_small (by omega)
theorem one_enc : cidEnc oneCid = [1, 85, 0, 1, 97] := by
  show 1 :: (Lib.uvarint 85 ++ (Lib.uvarint 0 ++ (Lib.uvarint 1 ++ [97]))) = _
  rw [uvarint85, uvarint0, uvarint1]; rfl
theorem one_rd : cidRd [1, 85, 0, 1, 97] = some (oneCid, 5) := by
  have := cidRd_enc0 oneCid one_tidy (by decide)
  rw [one_enc] at this
  exact this

set_option maxRecDepth 100000 in
set_option maxHeartbeats 2000000 in
theorem cdOne_any (w : World) (hu : CdS w) :
    Calls Tryd.prog 24 #[] w fun e w' => e = .returned (.bool true) ∧ Below w.heap.size w w' := by
  have C1 := fun W (h : Below w.heap.size w W) => Lib.hid (cdBytesI 1 85 0 ⟨#[97]⟩ ⟨#[1, 85, 0, 1, 97]⟩ true W (fun w1 hb => by
    have := cidIn_ok oneCid one_tidy ⟨#[97]⟩ rfl (by decide) w1 ((hu.below h).below hb).toUvS
    rw [one_enc] at this
    exact this))
  have C2 := fun W (h : Below w.heap.size w W) => Lib.hid (cdReadI_ok ⟨#[1, 85, 0, 1, 97]⟩ W (by decide) (hu.below h) oneCid 5 one_rd)
  have heq := fun W => eqCid_same oneCid W
  rw [show cidVal oneCid = .agg #[.int .u64 1, .int .u64 85, .int .u64 0, .string ⟨#[97]⟩] from rfl] at heq C2
  rw [show ((5 : Nat) : Int) = 5 from rfl] at C2
  have h0 : Below w.heap.size w (w.alloc (.cells #[.int .u64 1, .int .u64 85, .int .u64 0, .string ⟨#[97]⟩] 26)) := (Below.refl _ _).alloc (Nat.le_refl _) _
  have r0 := heap_alloc_new w (.cells #[.int .u64 1, .int .u64 85, .int .u64 0, .string ⟨#[97]⟩] 26)
  have R0 := Lib.hid r0
  clear r0
  go_enter Tryd.func24, Tryd.ntmps24
  go_wp2_with fail
  refine (C1 _ h0).out.mono ?_
  rintro e w1 ⟨rfl, hb1⟩
  have h1 := below_next h0 hb1
  have r1 := row_below hb1 (block_of_row R0.out) R0.out
  have R1 := Lib.hid r1
  clear r1 hb1
  go_wp2_with fail
  refine (C2 _ h1).out.mono ?_
  rintro e w2 ⟨rfl, hb2⟩
  have h2 := below_next h1 hb2
  have r2 := row_below hb2 (block_of_row R1.out) R1.out
  have k0 := fun o => cell_of_row' (cur := [_, _, _, _]) (row_alloc r2 o) 0
  have k1 := fun o => cell_of_row' (cur := [_, _, _, _]) (row_alloc r2 o) 1
  have k2 := fun o => cell_of_row' (cur := [_, _, _, _]) (row_alloc r2 o) 2
  have k3 := fun o => cell_of_row' (cur := [_, _, _, _]) (row_alloc r2 o) 3
  clear r2 hb2 R1 R0 C1 C2
  go_wp2
  go_ret
  exact ⟨rfl, h2.alloc h2.size _⟩
end Go.Proofs.YthfgnhgijgjggaaDoor
/- FnCdBytes' walk: an identifier's bytes are as the specification has them, and there are none of what is no identifier. -/
namespace Go.Proofs.YthfgnhgijgjggaaDoor
open Go.RowKit

/-- A variable of type impl.Cid that holds an identifier. -/
def InRow (w : World) (g : Nat) (a b c : Int) (d : ByteArray) : Prop := w.heap[g]? = some (.cells #[.int .u64 a, .int .u64 b, .int .u64 c, .string d] 26 (0, 0))
theorem InRow.cells {w : World} {g : Nat} {a b c : Int} {d : ByteArray} (h : InRow w g a b c d) : w.cell? ⟨g, 0, none⟩ = some (.int .u64 a) ∧ w.cell? ⟨g, 1, none⟩ = some (.int .u64 b) ∧ w.cell? ⟨g, 2, none⟩ = some (.int .u64 c) ∧ w.cell? ⟨g, 3, none⟩ = some (.string d) :=
  ⟨cell_of_row' (cur := [_, _, _, _]) h 0, cell_of_row' (cur := [_, _, _, _]) h 1, cell_of_row' (cur := [_, _, _, _]) h 2, cell_of_row' (cur := [_, _, _, _]) h 3⟩
theorem InRow.below {w w' : World} {g : Nat} {a b c : Int} {d : ByteArray} (h : InRow w g a b c d) (hb : Below w.heap.size w w') : InRow w' g a b c d := row_below hb (block_of_row h) h
theorem InRow.new (w : World) (a b c : Int) (d : ByteArray) : InRow (w.alloc (cidO a b c d)) w.heap.size a b c d := heap_alloc_new w _

/-- An identifier as the law's argument. -/
structure CidArg (x : CidD) (d : ByteArray) : Prop where
  dig : x.dig = d.data.toList

end Go.Proofs.YthfgnhgijgjggaaDoor
/- Contracts: laws.cdGood. FnCdSame's walk: two identifiers have the same bytes just if they are equal. -/
namespace Go.Proofs.YthfgnhgijgjggaaDoor
open Go.RowKit

/-- laws.cdGood. -/
def CidD.good (x : CidD) (d : ByteArray) : Prop := d.size ≤ 4096 ∧ x.tidy

set_option maxRecDepth 100000 in
set_option maxHeartbeats 1000000 in
theorem cdGood_yes (x : CidD) (d : ByteArray) (hx : x.dig = d.data.toList) (hg : x.good d) (w : World) :
    Calls Tryd.prog 20 #[.agg #[.int .u64 x.ver, .int .u64 x.codec, .int .u64 x.code, .string d]] w fun e w' => e = .returned (.bool true) ∧ Below w.heap.size w w' := by
  obtain ⟨h1, ht⟩ := hg
  have hA : Below w.heap.size w (w.alloc (cidO x.ver x.codec x.code d)) := (Below.refl _ _).alloc (Nat.le_refl _) _
  have T := fun W => Lib.hid (spTidy_yes x d hx ht W)
  have h1' : decide (d.size ≤ 4096) = true := decide_eq_true h1
  clear hx ht
  generalize (x.ver : Int) = c0 at *
  generalize (x.codec : Int) = c1 at *
  generalize (x.code : Int) = c2 at *
  go_enter Tryd.func20, Tryd.ntmps20
  go_wp2_with fail
  refine (T _).out.mono ?_
  rintro e w1 ⟨rfl, hb1⟩
  go_wp2
  go_ret
  exact ⟨rfl, below_next hA hb1⟩

set_option maxRecDepth 100000 in
set_option maxHeartbeats 1000000 in
theorem cdGood_no (x : CidD) (d : ByteArray) (hx : x.dig = d.data.toList) (hg : ¬ x.good d) (w : World) :
    Calls Tryd.prog 20 #[.agg #[.int .u64 x.ver, .int .u64 x.codec, .int .u64 x.code, .string d]] w fun e w' => e = .returned (.bool false) ∧ Below w.heap.size w w' := by
  have hA : Below w.heap.size w (w.alloc (cidO x.ver x.codec x.code d)) := (Below.refl _ _).alloc (Nat.le_refl _) _
  by_cases h1 : d.size ≤ 4096
  · have ht : ¬ x.tidy := fun ht => hg ⟨h1, ht⟩
    have T := fun W => Lib.hid (spTidy_no x d hx ht W)
    have h1' : decide (d.size ≤ 4096) = true := decide_eq_true h1
    clear hx ht hg
    generalize (x.ver : Int) = c0 at *
    generalize (x.codec : Int) = c1 at *
    generalize (x.code : Int) = c2 at *
    go_enter Tryd.func20, Tryd.ntmps20
    go_wp2_with fail
    refine (T _).out.mono ?_
    rintro e w1 ⟨rfl, hb1⟩
    go_wp2
    go_ret
    exact ⟨rfl, below_next hA hb1⟩
  · have h1' : decide (d.size ≤ 4096) = false := decide_eq_false h1
    clear hx hg
    generalize (x.ver : Int) = c0 at *
    generalize (x.codec : Int) = c1 at *
    generalize (x.code : Int) = c2 at *
    go_enter Tryd.func20, Tryd.ntmps20
    go_wp2
    go_ret
    exact ⟨rfl, hA⟩

theorem eqCid_args (x y : CidD) (d f : ByteArray) (hx : x.dig = d.data.toList) (hy : y.dig = f.data.toList) (W : World) :
    (x = y → (binOp .eql 26 (.agg #[.int .u64 x.ver, .int .u64 x.codec, .int .u64 x.code, .string d]) (.agg #[.int .u64 y.ver, .int .u64 y.codec, .int .u64 y.code, .string f])).run Tryd.prog W = .ok (.bool true) W) ∧
    (x ≠ y → (binOp .eql 26 (.agg #[.int .u64 x.ver, .int .u64 x.codec, .int .u64 x.code, .string d]) (.agg #[.int .u64 y.ver, .int .u64 y.codec, .int .u64 y.code, .string f])).run Tryd.prog W = .ok (.bool false) W) := by
  have e1 : cidVal x = .agg #[.int .u64 x.ver, .int .u64 x.codec, .int .u64 x.code, .string d] := by unfold cidVal; rw [hx, ba_mk]
  have e2 : cidVal y = .agg #[.int .u64 y.ver, .int .u64 y.codec, .int .u64 y.code, .string f] := by unfold cidVal; rw [hy, ba_mk]
  rw [← e1, ← e2]
  exact ⟨fun h => by rw [h]; exact eqCid_same y W, fun h => eqCid_other x y h W⟩

end Go.Proofs.YthfgnhgijgjggaaDoor
/- FnSeHead's walk: three ways. -/
namespace Go.Proofs.YthfgnhgijgjggaaDoor
open Go.RowKit

set_option maxRecDepth 100000 in
set_option maxHeartbeats 4000000 in
theorem seLaw_left (s : ByteArray) (z : Bool) (most : Nat) (w : World) (h2 : s.size ≤ 16384) (h3 : most ≤ 33554432)
    (hB : Calls Tryd.prog 31 #[.string s, .bool z, .int .u64 most] w fun e w' => BhLeft e ∧ Below w.heap.size w w') :
    Calls Tryd.prog 8 #[.string s, .bool z, .int .u64 most] w fun e w' => e = .returned (.bool true) ∧ Below w.heap.size w w' := by
  have HB := Lib.hid hB
  have t1 : ((2147483647 : Int) < s.size) = False := by simp; omega
  have t2 : ((16384 : Int) < s.size) = False := by simp; omega
  have t3 : ((33554432 : Int) < most) = False := by simp; omega
  clear hB h2 h3
  go_enter Tryd.func8, Tryd.ntmps8
  go_wp2_with fail
  refine HB.out.mono ?_
  rintro e w1 ⟨rfl, hb1⟩
  have hrn := heap_alloc_new w1 (.cells #[.int .u64 0, .int .u64 0, .int .u64 0, .string ⟨#[]⟩, .int .u64 0, .int .i64 0, .int .u8 0, .bool true] 55)
  have j7 := cell_of_row' (cur := [_, _, _, _, _, _, _, _]) hrn 7
  clear hrn HB
  go_wp2
  go_ret
  exact ⟨rfl, hb1.alloc hb1.size _⟩

set_option maxRecDepth 100000 in
set_option maxHeartbeats 4000000 in
theorem seLaw_bad (k : Nat) (hk : k = 1 ∨ k = 2) (s : ByteArray) (z : Bool) (most : Nat) (w : World) (h2 : s.size ≤ 16384) (h3 : most ≤ 33554432)
    (hB : Calls Tryd.prog 31 #[.string s, .bool z, .int .u64 most] w fun e w' => BhBad k e ∧ Below w.heap.size w w')
    (hS : ∀ W, Below w.heap.size w W → Calls Tryd.prog 32 #[.string s, .bool z, .int .u64 most] W fun e w' => (∃ n : Int, e = .returned (.tuple #[noCid, .int .u64 0, .int .i64 n, .int .u8 k])) ∧ Below W.heap.size W w')
    (hO : ∀ W, Below w.heap.size w W → Calls Tryd.prog 26 #[] W fun e w' => e = .returned (.bool true) ∧ Below W.heap.size W w') :
    Calls Tryd.prog 8 #[.string s, .bool z, .int .u64 most] w fun e w' => e = .returned (.bool true) ∧ Below w.heap.size w w' := by
  have HB := Lib.hid hB
  have HS := Lib.hid hS
  have HO := Lib.hid hO
  have t1 : ((2147483647 : Int) < s.size) = False := by simp; omega
  have t2 : ((16384 : Int) < s.size) = False := by simp; omega
  have t3 : ((33554432 : Int) < most) = False := by simp; omega
  have t4 : ((k : Int) != 0) = true := by rw [bne_iff_ne]; omega
  clear hB h2 h3 hS hO hk
  go_enter Tryd.func8, Tryd.ntmps8
  go_wp2_with fail
  refine HB.out.mono ?_
  rintro e w1 ⟨⟨n, rfl⟩, hb1⟩
  have hrn := heap_alloc_new w1 (.cells #[.int .u64 0, .int .u64 0, .int .u64 0, .string ⟨#[]⟩, .int .u64 0, .int .i64 n, .int .u8 k, .bool false] 55)
  have j7 := cell_of_row' (cur := [_, _, _, _, _, _, _, _]) hrn 7
  have hb2 : Below w.heap.size w (w1.alloc (.cells #[.int .u64 0, .int .u64 0, .int .u64 0, .string ⟨#[]⟩, .int .u64 0, .int .i64 n, .int .u8 k, .bool false] 55)) := hb1.alloc hb1.size _
  have HR := Lib.hid hrn
  have HC := Lib.hid (HS.out _ hb2)
  clear hrn HB HS hb1
  go_wp2_with fail
  refine HC.out.mono ?_
  rintro e w2 ⟨⟨n2, rfl⟩, hb3⟩
  have hb4 := below_next hb2 hb3
  have hr2 := row_below hb3 (block_of_row HR.out) HR.out
  have k6 := fun o => cell_of_row' (cur := [_, _, _, _, _, _, _, _]) (row_alloc hr2 o) 6
  have hb5 : Below w.heap.size w (w2.alloc outZ) := hb4.alloc hb4.size _
  have HO2 := Lib.hid (HO.out _ hb5)
  have HB5 := Lib.hid hb5
  clear hb4 hb3 hr2 HR HC HO hb2 hb5 j7
  go_wp2_with fail
  refine HO2.out.mono ?_
  rintro e w3 ⟨rfl, hb6⟩
  have hb7 := below_next HB5.out hb6
  clear HO2 hb6
  go_wp2
  go_ret
  exact ⟨rfl, hb7⟩

set_option maxRecDepth 100000 in
set_option maxHeartbeats 4000000 in
theorem seLaw_ok (v0 v1 v2 X J : Int) (v3 : ByteArray) (s : ByteArray) (z : Bool) (most : Nat) (w : World) (h2 : s.size ≤ 16384) (h3 : most ≤ 33554432)
    (heq : ∀ W, (binOp .eql 26 (.agg #[.int .u64 v0, .int .u64 v1, .int .u64 v2, .string v3]) (.agg #[.int .u64 v0, .int .u64 v1, .int .u64 v2, .string v3])).run Tryd.prog W = .ok (.bool true) W)
    (hB : Calls Tryd.prog 31 #[.string s, .bool z, .int .u64 most] w fun e w' => e = .returned (.agg #[.int .u64 v0, .int .u64 v1, .int .u64 v2, .string v3, .int .u64 X, .int .i64 J, .int .u8 0, .bool false]) ∧ Below w.heap.size w w')
    (hS : ∀ W, Below w.heap.size w W → Calls Tryd.prog 32 #[.string s, .bool z, .int .u64 most] W fun e w' => e = .returned (.tuple #[.agg #[.int .u64 v0, .int .u64 v1, .int .u64 v2, .string v3], .int .u64 X, .int .i64 J, .int .u8 0]) ∧ Below W.heap.size W w')
    (hO : ∀ W, Below w.heap.size w W → Calls Tryd.prog 26 #[] W fun e w' => e = .returned (.bool true) ∧ Below W.heap.size W w') :
    Calls Tryd.prog 8 #[.string s, .bool z, .int .u64 most] w fun e w' => e = .returned (.bool true) ∧ Below w.heap.size w w' := by
  have HB := Lib.hid hB
  have HS := Lib.hid hS
  have HO := Lib.hid hO
  have t1 : ((2147483647 : Int) < s.size) = False := by simp; omega
  have t2 : ((16384 : Int) < s.size) = False := by simp; omega
  have t3 : ((33554432 : Int) < most) = False := by simp; omega
  clear hB h2 h3 hS hO
  go_enter Tryd.func8, Tryd.ntmps8
  go_wp2_with fail
  refine HB.out.mono ?_
  rintro e w1 ⟨rfl, hb1⟩
  have hrn := heap_alloc_new w1 (.cells #[.int .u64 v0, .int .u64 v1, .int .u64 v2, .string v3, .int .u64 X, .int .i64 J, .int .u8 0, .bool false] 55)
  have j7 := cell_of_row' (cur := [_, _, _, _, _, _, _, _]) hrn 7
  have hb2 : Below w.heap.size w (w1.alloc (.cells #[.int .u64 v0, .int .u64 v1, .int .u64 v2, .string v3, .int .u64 X, .int .i64 J, .int .u8 0, .bool false] 55)) := hb1.alloc hb1.size _
  have HR := Lib.hid hrn
  have HC := Lib.hid (HS.out _ hb2)
  clear hrn HB HS hb1
  go_wp2_with fail
  refine HC.out.mono ?_
  rintro e w2 ⟨rfl, hb3⟩
  have hb4 := below_next hb2 hb3
  have hr2 := row_below hb3 (block_of_row HR.out) HR.out
  obtain ⟨W3, hW3⟩ : ∃ W3, W3 = w2.alloc (.cells #[.int .u64 v0, .int .u64 v1, .int .u64 v2, .string v3] 26) := ⟨_, rfl⟩
  have hr3 : W3.heap[w1.heap.size]? = _ := hW3 ▸ row_alloc hr2 _
  have hrc : W3.heap[w2.heap.size]? = _ := hW3 ▸ heap_alloc_new w2 _
  have k0 := cell_of_row' (cur := [_, _, _, _, _, _, _, _]) hr3 0
  have k1 := cell_of_row' (cur := [_, _, _, _, _, _, _, _]) hr3 1
  have k2 := cell_of_row' (cur := [_, _, _, _, _, _, _, _]) hr3 2
  have k3 := cell_of_row' (cur := [_, _, _, _, _, _, _, _]) hr3 3
  have k4 := cell_of_row' (cur := [_, _, _, _, _, _, _, _]) hr3 4
  have k5 := cell_of_row' (cur := [_, _, _, _, _, _, _, _]) hr3 5
  have k6 := cell_of_row' (cur := [_, _, _, _, _, _, _, _]) hr3 6
  have c0 := cell_of_row' (cur := [_, _, _, _]) hrc 0
  have c1 := cell_of_row' (cur := [_, _, _, _]) hrc 1
  have c2 := cell_of_row' (cur := [_, _, _, _]) hrc 2
  have c3 := cell_of_row' (cur := [_, _, _, _]) hrc 3
  have hb5 : Below w.heap.size w W3 := hW3 ▸ hb4.alloc hb4.size _
  have HO2 := Lib.hid (HO.out _ hb5)
  have HB5 := Lib.hid hb5
  rw [hW3] at k0 k1 k2 k3 k4 k5 k6 c0 c1 c2 c3 HO2 HB5
  clear hb4 hb3 hr2 HR HC HO hb2 hb5 j7 hr3 hrc hW3
  go_wp2_with fail
  refine HO2.out.mono ?_
  rintro e w3 ⟨rfl, hb6⟩
  have hb7 := below_next HB5.out hb6
  clear HO2 hb6
  go_wp2
  go_ret
  exact ⟨rfl, hb7⟩
end Go.Proofs.YthfgnhgijgjggaaDoor
/- FnSeHead's walk: all cases. -/
namespace Go.Proofs.YthfgnhgijgjggaaDoor
open Go.RowKit

theorem SeErrs.mono {B C : Nat} {w : World} {e0 e1 e2 e3 : Addr} (h : SeErrs B w e0 e1 e2 e3) (hB : B ≤ C) : SeErrs C w e0 e1 e2 e3 := ⟨h.eof.mono hB, h.unex.mono hB, h.over.mono hB, h.notMin.mono hB, h.n1, h.n2, h.n3⟩

/-- An identifier that is read of the beginning of bytes is read of what is let through of them. -/
theorem cidRd_cut {l : List UInt8} {c : CidD} {k : Nat} (h : cidRd l = some (c, k)) (x : Nat) (hk : k ≤ x) : cidRd (l.take x) = some (c, k) := by
  obtain ⟨h1, h2, h3, h4⟩ := cidRd_take h
  have hl : (cidEnc c).length = k := by rw [← h2, List.length_take]; omega
  have e : l.take x = cidEnc c ++ (l.take x).drop k := by
    rw [← h2]
    have := List.take_append_drop k (l.take x)
    rw [List.take_take, Nat.min_eq_left hk] at this
    exact this.symm
  rw [e, cidRd_enc c _ h3 h4, hl]
/-- .. and the other way round. -/
theorem cidRd_cut_none {l : List UInt8} (h : cidRd l = none) (x : Nat) : cidRd (l.take x) = none := by
  cases hh : cidRd (l.take x) with
  | none => rfl
  | some ck =>
    obtain ⟨c, k⟩ := ck
    obtain ⟨h1, h2, h3, h4⟩ := cidRd_take hh
    rw [List.length_take] at h1
    rw [List.take_take, Nat.min_eq_left (by omega)] at h2
    have e : l = cidEnc c ++ l.drop k := by rw [← h2, List.take_append_drop]
    rw [e, cidRd_enc c _ h3 h4] at h
    cases h

theorem law_SeHead_in (s : ByteArray) (z : Bool) (most : Nat) (w : World) (hcd : CdS w) (e0 e1 e2 e3 e4 : Addr) (he : SeErrs w.heap.size w e0 e1 e2 e3) (he4 : ErrAt w.heap.size w 6 e4) (hn4 : e4 ≠ e0) (h2 : s.size ≤ 16384) (h3 : most ≤ 33554432) :
    Calls Tryd.prog 8 #[.string s, .bool z, .int .u64 most] w fun e w' => e = .returned (.bool true) ∧ Below w.heap.size w w' := by
  have hO : ∀ W, Below w.heap.size w W → Calls Tryd.prog 26 #[] W fun e w' => e = .returned (.bool true) ∧ Below W.heap.size W w' := fun W h =>
    ldOne_any W e0 e1 _ _ _ _ ((he.uv.keep (S := fun _ => False) h.keep (fun _ h => h.elim)).mono h.size)
  -- what holds of the world in which the header is read
  have hE : ∀ (W w2 : World) (p : Nat), Below w.heap.size w W → W.heap.size < p → Below W.heap.size W w2 → SeErrs p w2 e0 e1 e2 e3 ∧ ErrAt p w2 6 e4 ∧ ∀ W', Keep (fun k => p ≤ k) w2 W' → CdS W' := by
    intro W w2 p hW hp h2
    have hb := hW.trans (h2.mono hW.size)
    have hs := hW.size
    refine ⟨(he.keep (S := fun _ => False) hb.keep (fun _ h => h.elim)).mono (by omega), (he4.keep (S := fun _ => False) hb.keep (fun _ h => h.elim)).mono (by omega), fun W' hk => ?_⟩
    exact hcd.below (hb.trans (hk.below (fun k hk h => by omega) hb.size))
  have hE1 : ∀ (w2 : World) (p : Nat) (e : SeErrs p w2 e0 e1 e2 e3), SeErrs p (w2.alloc cidZ) e0 e1 e2 e3 := fun w2 p e => e.keep (S := fun _ => False) ((Below.refl _ w2).alloc (Nat.le_refl _) _).keep (fun _ h => h.elim)
  have hR1 : ∀ (w2 : World) (p : Nat) (v : Value) (l : List UInt8) (i : Nat), Rdr w2 p v l i → Rdr (w2.alloc cidZ) p v l i := fun w2 p v l i e => e.keep (S := fun _ => False) ((Below.refl _ w2).alloc (Nat.le_refl _) _).keep (fun _ h => h.elim)
  have hpw : ∀ (w2 : World) (p : Nat) (v : Value) (l : List UInt8) (i : Nat), Rdr w2 p v l i → p < w2.heap.size := fun w2 p v l i e => by obtain ⟨r, h⟩ := e.row; exact block_of_row h
  have hsl : s.data.toList.length = s.size := ba_len s
  by_cases h0 : s.size = 0
  · have hnil : s.data.toList = [] := List.eq_nil_of_length_eq_zero (by rw [hsl]; exact h0)
    refine seLaw_bad 1 (.inl rfl) s z most w h2 h3 (rbh_empty s w (by omega) z most h0) (fun W hW => seHead_bad 1 s (by omega) z most W fun p v w2 hr hp hb => ?_) hO
    obtain ⟨q1, q2, q3⟩ := hE W w2 p hW hp hb
    refine node_err 1 p v w2 z most h3 _ (hpw _ _ _ _ _ hr) ((ldSize_empty p v _ 0 _ (hR1 _ _ _ _ _ hr) e0 e1 e2 e3 (hE1 _ _ q1) (by rw [hnil]; rfl) z most).mono fun e w' ⟨a1, a2, a3⟩ => ?_)
    exact ⟨_, a1, errK_end (hE1 _ _ q1) (a3.mono fun k _ h => by omega), a2, a3⟩
  · have h0' : 0 < s.size := by omega
    rcases uvR_cases (uvDec s.data.toList) with ⟨x, m, hd⟩ | hno
    · have hml := (uvDec_ok hd).2.1
      rw [hsl] at hml
      by_cases hbig : most < x
      · refine seLaw_bad 2 (.inr rfl) s z most w h2 h3 (rbh_big s w (by omega) z most h0' x m hd hbig) (fun W hW => seHead_bad 2 s (by omega) z most W fun p v w2 hr hp hb => ?_) hO
        obtain ⟨q1, q2, q3⟩ := hE W w2 p hW hp hb
        refine node_err 2 p v w2 z most h3 _ (hpw _ _ _ _ _ hr) ((ldSize_big p v _ 0 _ (hR1 _ _ _ _ _ hr) e0 e1 e2 e3 e4 (hE1 _ _ q1) (q2.keep (S := fun _ => False) ((Below.refl _ w2).alloc (Nat.le_refl _) _).keep (fun _ h => h.elim)) hn4 x m hd z most hbig).mono fun e w' ⟨E, a1, a2, a3, a4⟩ => ?_)
        exact ⟨E, a1, errK_other (hE1 _ _ q1) (a4.mono fun k _ h => by omega) a2, a3, a4⟩
      · by_cases hz : z = true ∧ x = 0
        · obtain ⟨rfl, rfl⟩ := hz
          refine seLaw_bad 1 (.inl rfl) s true most w h2 h3 (rbh_end s w (by omega) true most h0' 0 m hd rfl rfl) (fun W hW => seHead_bad 1 s (by omega) true most W fun p v w2 hr hp hb => ?_) hO
          obtain ⟨q1, q2, q3⟩ := hE W w2 p hW hp hb
          refine node_err 1 p v w2 true most h3 _ (hpw _ _ _ _ _ hr) ((ldSize_end p v _ 0 _ (hR1 _ _ _ _ _ hr) e0 e1 _ _ _ _ (hE1 _ _ q1).uv m hd most).mono fun e w' ⟨a1, a2, a3⟩ => ?_)
          exact ⟨_, a1, errK_end (hE1 _ _ q1) (a3.mono fun k _ h => by omega), ⟨_, a2⟩, a3⟩
        · have hz' : z = true → x ≠ 0 := fun h1 h2 => hz ⟨h1, h2⟩
          by_cases hms : m = s.size
          · exact seLaw_left s z most w h2 h3 (rbh_leftEnd s w (by omega) z most h0' x m hd (by omega) hz' hms)
          · have hml2 : m < s.size := by omega
            have hL0 : 0 < x → ((s.data.toList.drop (0 + m)).take x).length ≠ 0 := fun hx => by rw [List.length_take, List.length_drop, hsl]; omega
            cases hc : cidRd (s.data.toList.drop m) with
            | none =>
              refine seLaw_bad 2 (.inr rfl) s z most w h2 h3 (rbh_noCid s w (by omega) z most h0' x m hd (by omega) hz' hml2 hc) (fun W hW => seHead_bad 2 s (by omega) z most W fun p v w2 hr hp hb => ?_) hO
              obtain ⟨q1, q2, q3⟩ := hE W w2 p hW hp hb
              by_cases hx0 : x = 0
              · subst hx0
                have hzf : z = false := by cases z; rfl; exact absurd rfl (hz' rfl)
                subst hzf
                exact node_zero p v _ 0 w2 hr e0 e1 e2 e3 q1 q3 m hd most h3
              · exact node_no p v _ 0 w2 hr e0 e1 e2 e3 q1 q3 x m hd z most h3 (by omega) (by omega) _ rfl (hL0 (by omega)) (by rw [Nat.zero_add]; exact cidRd_cut_none hc x)
            | some ck =>
              obtain ⟨c, k⟩ := ck
              by_cases hk : x < k
              · exact seLaw_left s z most w h2 h3 (rbh_leftCid s w (by omega) z most h0' x m hd (by omega) hz' hml2 c k hc hk)
              · obtain ⟨t1, t2, t3, t4⟩ := cidRd_take hc
                have hk2 : 2 ≤ k := by
                  have := (cidEnc_length_le c t3 t4).1
                  rw [← t2, List.length_take] at this
                  omega
                rw [List.length_drop, hsl] at t1
                have hcut : cidRd ((s.data.toList.drop (0 + m)).take x) = some (c, k) := by rw [Nat.zero_add]; exact cidRd_cut hc x (by omega)
                refine seLaw_ok c.ver c.codec c.code ((x : Int) - k) ((m : Int) + k) ⟨c.dig.toArray⟩ s z most w h2 h3 (fun W => eqCid_same c W) (rbh_ok s w (by omega) z most h0' x m hd (by omega) hz' hml2 c k hc (by omega) (by omega)) (fun W hW => ?_) hO
                have hcs : CidStr ⟨(((s.data.toList.drop (0 + m)).take x).take k).toArray⟩ c := ⟨by
                  show ((s.data.toList.drop (0 + m)).take x).take k = _
                  rw [List.take_take, Nat.min_eq_left (by omega), Nat.zero_add]; exact t2, t3, by
                  have h5 : c.dig.length ≤ (cidEnc c).length := by unfold cidEnc mhEnc; split <;> simp <;> omega
                  rw [← t2, List.length_take] at h5; omega⟩
                have := seHead_ok s (by omega) z most W _ c hcs ((x : Int) - k) (0 + m + k) (hcd.below hW) (by omega) fun p v w2 hr hp hb => by
                  obtain ⟨q1, q2, q3⟩ := hE W w2 p hW hp hb
                  exact node_ok p v _ 0 w2 hr e0 e1 e2 e3 q1 q3 x m hd z most h3 (by omega) (by omega) _ rfl (hL0 (by omega)) c k hcut
                rw [show ((0 + m + k : Nat) : Int) = (m : Int) + k by omega] at this
                exact this
    · refine seLaw_bad 2 (.inr rfl) s z most w h2 h3 (rbh_no s w (by omega) z most h0' hno) (fun W hW => seHead_bad 2 s (by omega) z most W fun p v w2 hr hp hb => ?_) hO
      obtain ⟨q1, q2, q3⟩ := hE W w2 p hW hp hb
      refine node_err 2 p v w2 z most h3 _ (hpw _ _ _ _ _ hr) ((ldSize_no p v _ 0 _ (hR1 _ _ _ _ _ hr) e0 e1 e2 e3 (hE1 _ _ q1) (fun h => by rw [List.drop_zero] at h; rw [h] at hsl; simp at hsl; omega) hno z most).mono fun e w' ⟨E, a1, a2, a3, a4⟩ => ?_)
      exact ⟨E, a1, errK_other (hE1 _ _ q1) (a4.mono fun k _ h => by omega) a2, a3, a4⟩

set_option maxRecDepth 100000 in
set_option maxHeartbeats 4000000 in
theorem law_SeHead (s : ByteArray) (z : Bool) (most : Nat) (w : World) (hcd : CdS w) (e0 e1 e2 e3 e4 : Addr) (he : SeErrs w.heap.size w e0 e1 e2 e3) (he4 : ErrAt w.heap.size w 6 e4) (hn4 : e4 ≠ e0) :
    Calls Tryd.prog 8 #[.string s, .bool z, .int .u64 most] w fun e w' => e = .returned (.bool true) ∧ Below w.heap.size w w' := by
  by_cases h1 : s.size ≤ 2147483647
  · by_cases h2 : s.size ≤ 16384
    · by_cases h3 : most ≤ 33554432
      · exact law_SeHead_in s z most w hcd e0 e1 e2 e3 e4 he he4 hn4 h2 h3
      · have h4 : (33554432 : Int) < (most : Int) := by omega
        clear h3 he he4 hcd
        go_enter Tryd.func8, Tryd.ntmps8
        go_wp2
        go_ret
        exact ⟨rfl, Below.refl _ _⟩
    · have h4 : (16384 : Int) < (s.size : Int) := by omega
      clear h2 he he4 hcd
      go_enter Tryd.func8, Tryd.ntmps8
      go_wp2
      go_ret
      exact ⟨rfl, Below.refl _ _⟩
  · have h4 : (2147483647 : Int) < (s.size : Int) := by omega
    clear h1 he he4 hcd
    go_enter Tryd.func8, Tryd.ntmps8
    go_wp2
    go_ret
    exact ⟨rfl, Below.refl _ _⟩
end Go.Proofs.YthfgnhgijgjggaaDoor
