/- Contract: util.LdWrite into a bytes.Buffer. -/
import Derived.Test.YthfgnhgijgjggaaDoorLwC
import Derived.Deep.AppendLies
namespace Go.Proofs.YthfgnhgijgjggaaDoor
open Go.RowKit

/-- The bytes of strings, one behind the other. -/
def jn (ss : List ByteArray) : List UInt8 := (ss.map (fun s => s.data.toList)).flatten
theorem jn_nil : jn [] = [] := rfl
theorem jn_take (ss : List ByteArray) (k : Nat) (s : ByteArray) (h : ss[k]? = some s) : jn (ss.take (k + 1)) = jn (ss.take k) ++ s.data.toList := by
  unfold jn
  rw [List.take_add_one, h]
  simp
theorem jn_len (ss : List ByteArray) (m : Nat) (h : ∀ s ∈ ss, s.size ≤ m) : (jn ss).length ≤ ss.length * m := by
  induction ss with
  | nil => simp [jn]
  | cons s ss ih =>
    have h1 := ih (fun x hx => h x (by simp [hx]))
    have h2 := h s (by simp)
    have e : jn (s :: ss) = s.data.toList ++ jn ss := rfl
    rw [e, List.length_append, List.length_cons, Nat.succ_mul]
    have h3 : s.data.toList.length = s.size := ba_len s
    omega

theorem uvarint_len3 {n : Nat} (h : n < 2097152) : (Lib.uvarint n).length ≤ 3 := by
  by_cases h1 : n < 128
  · rw [Lib.uvarint_small h1]; simp
  · rw [Lib.uvarint_big (by omega), List.length_cons]
    by_cases h2 : n / 128 < 128
    · rw [Lib.uvarint_small h2]; simp
    · rw [Lib.uvarint_big (by omega), List.length_cons, Lib.uvarint_small (by omega)]; simp

theorem nil_bufWrite (a : Addr) (w : World) : (nilAhead 359 110 (.pointer (some a)) "Write").run Tryd.prog w = .ok (some false) w := by kernel_rfl
theorem method_bufWrite (a : Addr) (w : World) : (method 359 110 (.pointer (some a)) "Write").run Tryd.prog w = .ok (146, .pointer (some a)) w := by kernel_rfl

abbrev bufV (b : Nat) : Value := .iface 110 (.pointer (some ⟨b, 0, none⟩))

theorem cells_src {w : World} {g : Nat} {l : List UInt8} (h : ∀ i (hi : i < l.length), w.cell? ⟨g, 0 + i, none⟩ = some (.int .u8 (l[i].toNat))) : ∀ j v, (Lib.byteCells l)[j]? = some v → w.cell? ((⟨g, 0, none⟩ : Addr).add j) = some v := by
  intro j v hv
  have hj : j < l.length := by
    rcases Nat.lt_or_ge j l.length with h | h
    · exact h
    · rw [List.getElem?_eq_none (by rw [Lib.byteCells_length]; exact h)] at hv; cases hv
  have ead : (⟨g, 0, none⟩ : Addr).add j = ⟨g, 0 + j, none⟩ := by by_cases h : j = 0 <;> simp [Addr.add, h]
  rw [ead, h j hj]
  simp only [Lib.byteCells, List.getElem?_map, List.getElem?_eq_getElem hj, Option.map_some, Option.some.injEq] at hv
  rw [← hv]

set_option maxRecDepth 100000 in
set_option maxHeartbeats 8000000 in
theorem ldWrite_any (b lo : Nat) (v : Value) (ss : List ByteArray) (w : World) (hnil : BufNil w b) (hp : Parts w lo v ss) (hlo : b < lo) (hss : ∀ s ∈ ss, s.size ≤ 16384) (hn : ss.length ≤ 50) :
    Calls Tryd.prog 53 #[bufV b, v] w fun e w' => e = .returned .nilIface ∧ (∃ N, b < N ∧ BufRow w' N b (Lib.byteCells (Lib.uvarint (jn ss).length ++ jn ss))) ∧ Keep (fun k => k = b) w w' := by
  obtain ⟨A, c, rfl, hc, hcells⟩ := hp
  obtain ⟨n, hN⟩ : ∃ n, n = ss.length := ⟨_, rfl⟩
  have hlen := jn_len ss 16384 hss
  have hlens : ∀ k, (jn (ss.take k)).length ≤ 819200 := fun k => by
    have := jn_len (ss.take k) 16384 (fun s hs => hss s (List.mem_of_mem_take hs))
    have h2 : (ss.take k).length ≤ 50 := by rw [List.length_take]; omega
    have h3 : (ss.take k).length * 16384 ≤ 50 * 16384 := Nat.mul_le_mul_right _ h2
    omega
  have hbw : b < w.heap.size := by obtain ⟨lr, h⟩ := hnil; exact block_of_row h
  rw [← hN] at hc hn
  have HC := Lib.hid hcells
  have HN := Lib.hid hN
  have HS := Lib.hid hss
  have HLS := Lib.hid hlens
  have HLS2 := Lib.hid hlens
  have HNIL := Lib.hid hnil
  rw [← hN]
  clear hcells hc hN hss hlen hlens hnil
  have part : ∀ k, k < n → ∃ g s, A = some ⟨g, 0, none⟩ ∧ lo ≤ g ∧ g < w.heap.size ∧ ss[k]? = some s ∧ s.size ≤ 16384 ∧ ∃ b' c', w.cell? ⟨g, 0 + k, none⟩ = some (.slice (some ⟨b', 0, none⟩) s.size c') ∧ s.size ≤ c' ∧ lo ≤ b' ∧ b' < w.heap.size ∧ ∀ i (h : i < s.data.toList.length), w.cell? ⟨b', 0 + i, none⟩ = some (.int .u8 (s.data.toList[i].toNat)) := by
    intro k hk
    obtain ⟨g, e, h1, h2, h3⟩ := HC.out (by rw [← HN.out]; omega)
    have hks : k < ss.length := by rw [← HN.out]; exact hk
    obtain ⟨x, hx, b', c', e', h4, h5, h6, -, h7⟩ := h3 k _ (List.getElem?_eq_getElem hks)
    exact ⟨g, ss[k], e, h1, h2, List.getElem?_eq_getElem hks, HS.out _ (List.getElem_mem hks), b', c', by rw [hx, e'], h4, h5, h6, h7⟩
  have HP := Lib.hid part
  clear part
  go_enter Tryd.func53, Tryd.ntmps53
  go_wp2
  go_loop [5, 16] (fun x i => ∃ (k : Nat), k ≤ n ∧ i = .int .i64 k ∧ x = .int .u64 ((jn (ss.take k)).length : Nat)) (fun _ i => n - (intOf i).toNat)
  case atStart => exact ⟨0, Nat.zero_le _, rfl, rfl⟩
  case round =>
    obtain ⟨k, hk, rfl, rfl⟩ := hrel
    have hb1 := HLS.out k
    by_cases hlt : k < n
    · obtain ⟨g, s, rfl, hg1, hg2, hsk, hsz, b', c', hcell, hc', -, -, -⟩ := HP.out k hlt
      rw [Nat.zero_add] at hcell
      have HE := Lib.hid (jn_take ss k s hsk)
      clear hsk
      go_wp2
      go_round
      case rel => exact ⟨k + 1, by omega, by go_num, by rw [HE.out, List.length_append, ba_len]; go_num⟩
      case measure => simp [intOf]; omega
    · obtain rfl : k = n := by omega
      have hall : ss.take k = ss := List.take_of_length_le (by rw [HN.out]; exact Nat.le_refl _)
      rw [hall] at hb1 ⊢
      clear hall
      obtain ⟨T, hT⟩ : ∃ T, T = (jn ss).length := ⟨_, rfl⟩
      rw [← hT] at hb1 ⊢
      have hU := uvarint_len3 (n := T) (by omega)
      have hU0 := Lib.uvarint_pos T
      obtain ⟨w1, hmk0, hbl1, hs1, hrow⟩ := make_bytes (P := Tryd.prog) Tryd.underlying43 info_u8 w 8 (by omega)
      have hmk : (Instr.makeSlice 43 (.int .i64 8) (.int .i64 8)).run Tryd.prog w = .ok (.slice (some ⟨w.heap.size, 0, none⟩) 8 8) w1 := hmk0
      have HPU := Lib.hid (putUvW_any w.heap.size 0 8 8 T (List.replicate 8 (.int .u8 0)) 5 w1 (by omega) hrow (by simp; omega) (by omega))
      obtain ⟨L, hL⟩ : ∃ L, L = (Lib.uvarint T).length := ⟨_, rfl⟩
      rw [← hL] at hU hU0 HPU
      have HLL := Lib.hid hL
      have HTT := Lib.hid hT
      have HS1 := Lib.hid hs1
      have HBL := Lib.hid hbl1
      have hmf : ∀ (fn : Fn) (first cap : Array Value) (w : World), (Instr.makeFunc fn first cap).run Tryd.prog w = .ok (.func fn first cap) w := fun _ _ _ _ => rfl
      have hna := fun w => nil_bufWrite ⟨b, 0, none⟩ w
      have hme := fun w => method_bufWrite ⟨b, 0, none⟩ w
      have hL0 : (0 : Int) ≤ (L : Int) := by omega
      have hL8 : (L : Int) ≤ 8 := by omega
      clear hmk0 hbl1 hs1 hrow hL hT
      go_wp2_with fail
      refine HPU.out.mono ?_
      rintro e w2 ⟨rfl, hr2, ht2⟩
      have hbl2 : Below w.heap.size w w2 := HBL.out.trans (ht2.below (Nat.le_refl _))
      have hs2 : w2.heap.size = w.heap.size + 1 := by rw [ht2.size, HS1.out]
      have hnil2 : BufNil w2.drew b := by obtain ⟨lr, h⟩ := HNIL.out; exact ⟨lr, (hbl2.block b hbw).trans h⟩
      have hsrc : ∀ j v, (Lib.byteCells (Lib.uvarint T))[j]? = some v → w2.drew.cell? ((⟨w.heap.size, 0, none⟩ : Addr).add j) = some v := by
        intro j v hv
        have hjl : j < L := by
          rcases Nat.lt_or_ge j L with h | h
          · exact h
          · rw [List.getElem?_eq_none (by rw [Lib.byteCells_length, ← HLL.out]; exact h)] at hv; cases hv
        have hc := World.news_of_block (w := w2) hr2.out j v ?_
        · exact hc
        · rw [show (splice (List.replicate 8 (Value.int IntKind.u8 0)) 0 (Lib.byteCells (Lib.uvarint T))).toArray.toList = splice (List.replicate 8 (Value.int IntKind.u8 0)) 0 (Lib.byteCells (Lib.uvarint T)) from rfl, splice_get _ _ _ (by rw [Lib.byteCells_length, ← HLL.out]; simp; omega), if_pos (by rw [Lib.byteCells_length, ← HLL.out]; omega)]
          simpa using hv
      have HW := Lib.hid (bufWrite_nil b (Lib.byteCells (Lib.uvarint T)) ⟨w.heap.size, 0, none⟩ L 8 w2.drew hnil2 (by omega) (by omega) (by rw [Lib.byteCells_length, ← HLL.out]) (by show w.heap.size ≠ b; omega) hsrc (Lib.byteCells_one _))
      have HS2 := Lib.hid hs2
      have HBL2 := Lib.hid hbl2
      clear hr2 ht2 hbl2 hs2 hnil2 hsrc hmk HPU
      go_wp2_with fail
      go_region_with (go_at_call 146; refine HW.out.mono ?_; rintro e w3 ⟨rfl, hbr, hk3⟩)
      have hN1 : w2.drew.heap.size = w.heap.size + 1 := HS2.out
      have hkw3 : Keep (fun q => q = b) w w3 := (HBL2.out.keep.trans (keep_drew _ _)).trans hk3
      have hsz3 : w2.drew.heap.size ≤ w3.heap.size := hk3.size
      rw [hN1] at hbr hsz3
      have HBR := Lib.hid hbr
      have HKW := Lib.hid hkw3
      have hjn0 : jn (ss.take 0) = [] := rfl
      clear HW hk3 hbr hkw3 hN1 HS2 HBL2 HLS hlt HS1 HBL hmf hL0 hL8 hU hU0 HLL
      go_wp2
      go_loopw [46] (fun i wr => ∃ (m : Nat), m ≤ k ∧ i = .int .i64 m ∧ Hid (BufRow wr (w.heap.size + 1) b (Lib.byteCells (Lib.uvarint T ++ jn (ss.take m)))) ∧ Hid (Keep (fun q => q = b ∨ w.heap.size + 1 ≤ q) w3 wr)) (fun i _ => k - (intOf i).toNat)
      case atStart => exact ⟨0, Nat.zero_le _, rfl, Lib.hid (by rw [hjn0, List.append_nil]; exact HBR.out), Lib.hid (Keep.refl _ _)⟩
      case round =>
        obtain ⟨m, hm, rfl, hbm, hkm⟩ := hrel
        by_cases hlt : m < k
        · obtain ⟨g, s, rfl, hg1, hg2, hsk, hsz, b', c', hcell, hc', hb1', hb2', hcs⟩ := HP.out m hlt
          rw [Nat.zero_add] at hcell
          have hcw : wr.cell? ⟨g, m, none⟩ = some (.slice (some ⟨b', 0, none⟩) s.size c') := hkm.out.cell (HKW.out.cell hcell (by show ¬ g = b; omega)) (by show ¬ (g = b ∨ w.heap.size + 1 ≤ g); omega)
          have hsw := cells_src (w := wr) (g := b') (l := s.data.toList) (fun i hi => hkm.out.cell (HKW.out.cell (hcs i hi) (by show ¬ b' = b; omega)) (by show ¬ (b' = b ∨ w.heap.size + 1 ≤ b'); omega))
          have hbl : (Lib.byteCells (Lib.uvarint T ++ jn (ss.take m))).length + s.size ≤ 140737488355328 ∧ 0 < (Lib.byteCells (Lib.uvarint T ++ jn (ss.take m))).length := by
            have h1 := HLS2.out m
            have h2 := uvarint_len3 (n := T) (by omega)
            have h3 := Lib.uvarint_pos T
            rw [Lib.byteCells_length, List.length_append]
            omega
          have HW := Lib.hid (bufWrite_row (w.heap.size + 1) b (Lib.byteCells (Lib.uvarint T ++ jn (ss.take m))) (Lib.byteCells s.data.toList) ⟨b', 0, none⟩ s.size c' wr hbm.out (by have := hkm.out.size; omega) (by omega) hbl.2 (Lib.byteCells_one _) (by rw [Lib.byteCells_length, ba_len]) (by show b' ≠ b; omega) (by show b' < w.heap.size + 1; omega) hsw (Lib.byteCells_one _) hbl.1)
          have HE := Lib.hid (jn_take ss m s hsk)
          clear hcell hcs hsw hbl hsk
          go_wp2_with (go_at_call 146; refine HW.out.mono ?_; rintro e w5 ⟨rfl, hbr, hk5⟩)
          go_roundw
          case rel => exact ⟨m + 1, by omega, by go_num, Lib.hid (by rw [HE.out, ← List.append_assoc, Lib.byteCells_append]; exact hbr), Lib.hid (hkm.out.trans hk5)⟩
          case measure => simp [intOf]; omega
        · obtain rfl : m = k := by omega
          have hall : ss.take m = ss := List.take_of_length_le (by rw [HN.out]; exact Nat.le_refl _)
          rw [hall] at hbm
          clear hall
          go_wp2
          go_ret
          rw [← HTT.out]
          exact ⟨rfl, ⟨w.heap.size + 1, by omega, hbm.out⟩, HKW.out.trans2 hkm.out (fun i hi h => by omega)⟩
end Go.Proofs.YthfgnhgijgjggaaDoor
