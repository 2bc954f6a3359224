/- Contracts: a bytes.Buffer whose row's place is told: grow, Write. -/
import Derived.Test.YthfgnhgijgjggaaDoorLwA
import Derived.Test.YthfgnhgijgjggaaDoorMhC
import Derived.Test.YthfgnhgijgjggaaDoorRdr
import Derived.Test.YthfgnhgijgjggaaDoorBld
import Derived.Deep.RegionWith
namespace Go.Proofs.YthfgnhgijgjggaaDoor
open Go.RowKit

/-- A buffer in block b to which nothing has been written. -/
def BufNil (w : World) (b : Nat) : Prop := ∃ lr : Int, w.heap[b]? = some (.cells #[.slice none 0 0, .int .i64 0, .int .i8 lr] 108 (0, 0))

/-- A buffer in block b that holds the bytes bs, in a row from block N on; n cells more stand behind them. -/
def BufAt (w : World) (N b : Nat) (bs : List Value) (n : Nat) : Prop :=
  ∃ (g cap : Nat) (cur : Array Value) (lr : Int), w.heap[b]? = some (.cells #[.slice (some ⟨g, 0, none⟩) (bs.length + n) cap, .int .i64 0, .int .i8 lr] 108 (0, 0)) ∧ N ≤ g ∧ g ≠ b ∧
    w.heap[g]? = some (.cells cur 5 (0, 0)) ∧ bs.length + n ≤ cap ∧ cap ≤ maxLen ∧ cur.size = cap ∧ cur.toList.take bs.length = bs
abbrev BufRow (w : World) (N b : Nat) (bs : List Value) : Prop := BufAt w N b bs 0

theorem bufSet3 {w : World} {b : Nat} {x y z : Value} {t : TypeId} (h : w.heap[b]? = some (.cells #[x, y, z] t (0, 0))) (v : Value) : (w.setCell ⟨b, 0, none⟩ v).heap[b]? = some (.cells #[v, y, z] t (0, 0)) := by
  have := Lib.heap_setCell_same (i := 0) h v
  simpa using this
theorem bufSet3b {w : World} {b : Nat} {x y z : Value} {t : TypeId} (h : w.heap[b]? = some (.cells #[x, y, z] t (0, 0))) (v : Value) : (w.setCell ⟨b, 1, none⟩ v).heap[b]? = some (.cells #[x, v, z] t (0, 0)) := by
  have := Lib.heap_setCell_same (i := 1) h v
  simpa using this
theorem bufSet3c {w : World} {b : Nat} {x y z : Value} {t : TypeId} (h : w.heap[b]? = some (.cells #[x, y, z] t (0, 0))) (v : Value) : (w.setCell ⟨b, 2, none⟩ v).heap[b]? = some (.cells #[x, y, v] t (0, 0)) := by
  have := Lib.heap_setCell_same (i := 2) h v
  simpa using this

set_option maxRecDepth 100000 in
set_option maxHeartbeats 4000000 in
theorem bufGrow_nil (b n : Nat) (lr : Int) (w : World) (hbk : w.heap[b]? = some (.cells #[.slice none 0 0, .int .i64 0, .int .i8 lr] 108 (0, 0))) (hn : 1 ≤ n) (h64 : n ≤ 64) :
    Calls Tryd.prog 149 #[.pointer (some ⟨b, 0, none⟩), .int .i64 n] w fun e w' => e = .returned (.int .i64 0) ∧ BufAt w' w.heap.size b [] n ∧ Keep (fun k => k = b) w w' := by
  obtain ⟨i0, hi, hz0, hz1, hz2⟩ := info_u8p
  obtain ⟨M, hM⟩ : ∃ M, M = madeCells (Value.int .u8 0).cells ((64 : Int).toNat * i0.size) := ⟨_, rfl⟩
  have hMs : M.size = 64 := by rw [hM, size_madeCells, hz1]; rfl
  have hmk : ∀ W : World, (Instr.makeSlice 43 (.int .i64 (n : Int)) (.int .i64 64)).run Tryd.prog W = .ok (.slice (some ⟨W.heap.size, 0, none⟩) n 64) (W.alloc (.cells M 5)) := fun W => by
    have h := run_makeSlice (P := Tryd.prog) W 43 5 i0 (.int .u8 0) Tryd.underlying43 hi hz0 .i64 .i64 (n : Int) 64 (by omega) (by omega) (by rw [hz1]; decide) (by rw [hz2]; decide) (by decide)
    rw [← hM] at h
    simpa using h
  clear hM hi hz0 hz1 hz2
  have hIs : Lib.IsBuffer 108 5 0 b [] w := ⟨Nat.zero_le _, _, _, hbk, World.ownsRow_nil _ _ _ _, by simp [Value.ownBlock]⟩
  have hnil : ∀ W, (binOp .eql 43 (.slice none 0 0) (.slice none 0 0)).run Tryd.prog W = .ok (.bool true) W := fun W => Lib.run_eql_slice_nil_nil W _ _ Tryd.underlying43
  have HL := Lib.hid (Tryd.Buffer_Len 0 b [] w hIs)
  have hbw := block_of_row hbk
  have HB := Lib.hid hbk
  clear hIs hbk
  go_enter Tryd.func149, Tryd.ntmps149
  go_wp2_with fail
  refine HL.out.mono ?_
  rintro e W0 ⟨rfl, k, hW0⟩
  have hbk0 : W0.heap[b]? = some (.cells #[.slice none 0 0, .int .i64 0, .int .i8 lr] 108 (0, 0)) := by rw [hW0]; exact HB.out
  have hsz : W0.heap.size = w.heap.size := by rw [hW0]; rfl
  have hk0 : Keep (fun k => k = b) w W0 := by rw [hW0]; exact keep_drewN _ _ _
  have c0 : W0.cell? ⟨b, 0, none⟩ = some (.slice none 0 0) := by rw [Lib.cell_of_heap hbk0]; rfl
  have c1 : W0.cell? ⟨b, 1, none⟩ = some (.int .i64 0) := by rw [Lib.cell_of_heap hbk0]; rfl
  have f0 : W0.frozen? ⟨b, 0, none⟩ = false := Lib.frozen_of_heap hbk0 0
  have hbW0 := Lib.lt_of_heap hbk0
  have c0a : ∀ o, (W0.alloc o).cell? ⟨b, 0, none⟩ = some (.slice none 0 0) := fun o => (World.cell?_of_block (a := ⟨b, 0, none⟩) (Below.heap_alloc W0 o b hbW0)).trans c0
  have f0a : ∀ o, (W0.alloc o).frozen? ⟨b, 0, none⟩ = false := fun o => (World.frozen?_of_block (a := ⟨b, 0, none⟩) (Below.heap_alloc W0 o b hbW0)).trans f0
  have HSZ := Lib.hid hsz
  have HB0 := Lib.hid hbk0
  have HT := Lib.hid (Tryd.Buffer_tryGrow_none b none 0 0 n W0 c0 (Nat.le_refl _) (Nat.zero_le _) (by omega))
  clear hW0 hsz hbk0
  go_wp2_with (go_at_call 148; refine HT.out.mono ?_; rintro e w' ⟨rfl, rfl⟩)
  go_ret
  have hset := bufSet3 HB0.out (.slice (some ⟨w'.heap.size, 0, none⟩) n 64)
  have hssz : (w'.setCell ⟨b, 0, none⟩ (.slice (some ⟨w'.heap.size, 0, none⟩) n 64)).heap.size = w'.heap.size := by simp [World.setCell]
  refine ⟨rfl, ⟨w'.heap.size, 64, M, lr, ?_, by rw [HSZ.out]; exact Nat.le_refl _, by omega, ?_, by simpa using h64, by decide, hMs, by simp⟩, ?_⟩
  · have := (Below.heap_alloc (w'.setCell ⟨b, 0, none⟩ (.slice (some ⟨w'.heap.size, 0, none⟩) n 64)) (.cells M 5) b (by rw [hssz]; exact hbW0)).trans hset
    simpa using this
  · have := heap_alloc_new (w'.setCell ⟨b, 0, none⟩ (.slice (some ⟨w'.heap.size, 0, none⟩) n 64)) (.cells M 5)
    rw [hssz] at this
    exact this
  · exact (hk0.setCell rfl _ _).alloc _

set_option maxRecDepth 100000 in
set_option maxHeartbeats 8000000 in
theorem bufGrow_row (b g l cap n : Nat) (lr : Int) (cur : Array Value) (bs : List Value) (w : World)
    (hbk : w.heap[b]? = some (.cells #[.slice (some ⟨g, 0, none⟩) l cap, .int .i64 0, .int .i8 lr] 108 (0, 0))) (hl : bs.length = l) (hl0 : 0 < l)
    (hg : w.heap[g]? = some (.cells cur 5 (0, 0))) (hlc : l ≤ cap) (hcm : cap ≤ maxLen) (hcs : cur.size = cap) (htake : cur.toList.take l = bs) (hgb : g ≠ b)
    (h1 : ∀ v ∈ bs, v.oneCell' = true) (hn : 1 ≤ n) (hroom : cap - l < n) (hlim : l + n ≤ 140737488355328) :
    Calls Tryd.prog 149 #[.pointer (some ⟨b, 0, none⟩), .int .i64 n] w fun e w' => e = .returned (.int .i64 l) ∧ BufAt w' w.heap.size b bs n ∧ Keep (fun k => k = b) w w' := by
  have hIs : Lib.IsBuffer 108 5 0 b bs w := ⟨Nat.zero_le _, _, _, hbk, ⟨by rw [hl, Nat.mul_one], .inr ⟨g, cap, cur, by rw [hl], Nat.zero_le _, hg, by omega, hcm, by omega, by rw [hl, Nat.mul_one]; exact htake⟩⟩, by simp [Value.ownBlock]; exact hgb⟩
  have hnil : ∀ W, (binOp .eql 43 (.slice (some ⟨g, 0, none⟩) l cap) (.slice none 0 0)).run Tryd.prog W = .ok (.bool false) W := fun W => Lib.run_eql_slice_some_nil W _ _ _ Tryd.underlying43
  have HL := Lib.hid (Tryd.Buffer_Len 0 b bs w hIs)
  rw [hl] at HL
  have hbw := block_of_row hbk
  have HB := Lib.hid hbk
  have HG := Lib.hid hg
  have hcm' := hcm
  unfold maxLen at hcm'
  have hc2 : cap ≤ 140737488355328 := by omega
  have h1' : ∀ v ∈ cur.toList.take l, v.oneCell' = true := by rw [htake]; exact h1
  have HT1 := Lib.hid h1'
  have HCS := Lib.hid hcs
  have HTK := Lib.hid htake
  have HLL := Lib.hid hl
  have hwn : IntKind.i64.wrap (n : Int) = n := by rw [IntKind.wrap_i64]; omega
  clear hIs hbk hg h1' hcs htake h1 hl
  go_enter Tryd.func149, Tryd.ntmps149
  go_wp2_with fail
  refine HL.out.mono ?_
  rintro e W0 ⟨rfl, k, hW0⟩
  have hbk0 : W0.heap[b]? = some (.cells #[.slice (some ⟨g, 0, none⟩) l cap, .int .i64 0, .int .i8 lr] 108 (0, 0)) := by rw [hW0]; exact HB.out
  have hg0 : W0.heap[g]? = some (.cells cur 5 (0, 0)) := by rw [hW0]; exact HG.out
  have hsz : W0.heap.size = w.heap.size := by rw [hW0]; rfl
  have hk0 : Keep (fun k => k = b) w W0 := by rw [hW0]; exact keep_drewN _ _ _
  have c0 : W0.cell? ⟨b, 0, none⟩ = some (.slice (some ⟨g, 0, none⟩) l cap) := by rw [Lib.cell_of_heap hbk0]; rfl
  have c1 : W0.cell? ⟨b, 1, none⟩ = some (.int .i64 0) := by rw [Lib.cell_of_heap hbk0]; rfl
  have f0 : W0.frozen? ⟨b, 0, none⟩ = false := Lib.frozen_of_heap hbk0 0
  have f1 : W0.frozen? ⟨b, 1, none⟩ = false := Lib.frozen_of_heap hbk0 1
  have hbW := Lib.lt_of_heap hbk0
  have HSZ := Lib.hid hsz
  have HB0 := Lib.hid hbk0
  have HG0 := Lib.hid hg0
  have HT := Lib.hid (Tryd.Buffer_tryGrow_none b (some ⟨g, 0, none⟩) l cap n W0 c0 hlc hcm hroom)
  clear hW0 hsz hbk0 hg0 HB HG hcm
  go_wp2_with (go_at_call 148; refine HT.out.mono ?_; rintro e w' ⟨rfl, rfl⟩)
  have HS := Lib.hid (Tryd.bytes_growSlice_row g l cap n cur w'.drew HG0.out HCS.out hlc hn hlim hc2 HT1.out)
  go_region_with (
      go_at_call 151
      refine HS.out.mono ?_
      rintro e w2 ⟨cap2, cells, rfl, hN, hcsz, htk, hcap2, hcm2, hbel⟩
      have hbk2 : w2.heap[b]? = some (.cells #[.slice (some ⟨g, 0, none⟩) l cap, .int .i64 0, .int .i8 lr] 108 (0, 0)) := (hbel.block b hbW).trans HB0.out
      have d0 : w2.cell? ⟨b, 0, none⟩ = some (.slice (some ⟨g, 0, none⟩) l cap) := by rw [Lib.cell_of_heap hbk2]; rfl
      have d1 : w2.cell? ⟨b, 1, none⟩ = some (.int .i64 0) := by rw [Lib.cell_of_heap hbk2]; rfl
      have e0 : w2.frozen? ⟨b, 0, none⟩ = false := Lib.frozen_of_heap hbk2 0
      have e1 : w2.frozen? ⟨b, 1, none⟩ = false := Lib.frozen_of_heap hbk2 1
      have HB2 := Lib.hid hbk2
      have HN2 := Lib.hid hN
      have HTK2 := Lib.hid htk
      have HCS2 := Lib.hid hcsz
      have hcm3 : cap2 ≤ 9223372036854775807 := hcm2
      clear hbk2 hN htk hcsz)
  all_goals (
    go_wp2
    go_ret
    have e3 := bufSet3 (bufSet3b (bufSet3 HB2.out (.slice (some ⟨w'.heap.size, 0, none⟩) l cap2)) (.int .i64 0)) (.slice (some ⟨w'.heap.size, 0, none⟩) (l + n) cap2)
    have hne : w'.heap.size ≠ b := by omega
    refine ⟨rfl, ⟨w'.heap.size, cap2, cells, lr, ?_, by rw [HSZ.out]; exact Nat.le_refl _, hne, ?_, by rw [HLL.out]; exact hcap2, hcm2, HCS2.out, ?_⟩, ?_⟩
    · rw [HLL.out]; exact e3
    · rw [Below.heap_setCell _ _ _ _ hne, Below.heap_setCell _ _ _ _ hne, Below.heap_setCell _ _ _ _ hne]; exact HN2.out
    · rw [HLL.out]; exact HTK2.out.trans HTK.out
    · exact ((((hk0.trans (keep_drew _ _)).trans hbel.keep).setCell rfl _ _).setCell rfl _ _).setCell rfl _ _)

/-- '.. = copy(buf[m:], p)' laid over a row of which the first m cells are told. -/
theorem take_splice (L cs bs : List Value) (m : Nat) (hb : L.take m = bs) (hm : bs.length = m) : (L.take m ++ cs ++ L.drop (m + cs.length)).take (m + cs.length) = bs ++ cs := by
  rw [hb, List.take_left' (by rw [List.length_append, hm])]

theorem run_copy_keep {P : Program} (w : World) (dT sT ty elem : TypeId) (hu : P.underlying dT = some (.slice elem)) (hsz : (P.info? elem).map (·.size) = some 1) (dp : Option Addr) (dLen dCap : Nat) (ad : Addr) (n c g off : Nat) (cur : Array Value) (t : TypeId)
    (hg : w.heap[g]? = some (.cells cur t (0, 0))) (cs : List Value) (hn : cs.length = n) (hdl : n ≤ dLen) (hpos : 0 < n → dp = some ⟨g, off, none⟩) (hsrc : ∀ j v, cs[j]? = some v → w.cell? (ad.add j) = some v) (hfit : off + n ≤ cur.size) (h1 : ∀ v ∈ cs, v.oneCell' = true) :
    ∃ w4, (Builtin.copy_ #[dT, sT] ty #[.slice dp dLen dCap, .slice (some ad) n c]).run P w = .ok (goInt n) w4 ∧ w4.heap[g]? = some (.cells (cur.toList.take off ++ cs ++ cur.toList.drop (off + n)).toArray t (0, 0)) ∧ Keep (fun k => k = g) w w4 := by
  by_cases h0 : n = 0
  · subst h0
    obtain rfl : cs = [] := List.eq_nil_of_length_eq_zero hn
    refine ⟨w, run_copy_none w dT sT ty elem dp (some ad) dLen dCap 0 c hu hsz (by simp), ?_, Keep.refl _ _⟩
    rw [hg]; simp
  · obtain rfl := hpos (by omega)
    subst hn
    have h := run_copy_row (P := P) w dT sT ty elem g off dLen dCap ad cs.length c cur t cs hu hsz hg (Nat.min_eq_left hdl).symm hsrc hfit h1
    exact ⟨_, h, setRow_heap w g cur _ t _ hg, (Keep.refl (fun k => k = g) w).setRow (p := g) rfl _⟩

set_option maxRecDepth 100000 in
set_option maxHeartbeats 8000000 in
theorem bufWrite_row (N b : Nat) (bs cs : List Value) (ad : Addr) (n c : Nat) (w : World) (h : BufRow w N b bs) (hN : N ≤ w.heap.size) (hbN : b < N) (hb0 : 0 < bs.length) (h1 : ∀ v ∈ bs, v.oneCell' = true)
    (hn : cs.length = n) (hab : ad.block ≠ b) (haN : ad.block < N) (hsrc : ∀ j v, cs[j]? = some v → w.cell? (ad.add j) = some v) (h1c : ∀ v ∈ cs, v.oneCell' = true) (hlim : bs.length + n ≤ 140737488355328) :
    Calls Tryd.prog 146 #[.pointer (some ⟨b, 0, none⟩), .slice (some ad) n c] w fun e w' => e = .returned (.tuple #[.int .i64 n, .nilIface]) ∧ BufRow w' N b (bs ++ cs) ∧ Keep (fun k => k = b ∨ N ≤ k) w w' := by
  obtain ⟨g, cap, cur, lr, hbk, hgN, hgb, hg, hlc, hcm, hcs, htk⟩ := h
  obtain ⟨l, hl⟩ : ∃ l, l = bs.length := ⟨_, rfl⟩
  rw [Nat.add_zero, ← hl] at hbk hlc
  rw [← hl] at htk hb0 hlim
  have hcm' := hcm
  unfold maxLen at hcm'
  have hbw := block_of_row hbk
  have hbk1 := bufSet3c hbk (.int .i8 0)
  have hk1 : Keep (fun k => k = b ∨ N ≤ k) w (w.setCell ⟨b, 2, none⟩ (.int .i8 0)) := (Keep.refl _ _).setCell (Or.inl rfl) _ _
  have hg1 : (w.setCell ⟨b, 2, none⟩ (.int .i8 0)).heap[g]? = some (.cells cur 5 (0, 0)) := (Below.heap_setCell _ _ _ _ hgb).trans hg
  have c2 : w.cell? ⟨b, 2, none⟩ = some (.int .i8 lr) := by rw [Lib.cell_of_heap hbk]; rfl
  have f2 : w.frozen? ⟨b, 2, none⟩ = false := Lib.frozen_of_heap hbk 2
  have hws1 : (w.setCell ⟨b, 2, none⟩ (.int .i8 0)).heap.size = w.heap.size := by simp [World.setCell]
  obtain ⟨w1, hw1⟩ : ∃ w1, w1 = w.setCell ⟨b, 2, none⟩ (.int .i8 0) := ⟨_, rfl⟩
  rw [← hw1] at hbk1 hk1 hg1 hws1
  have c0 : w1.cell? ⟨b, 0, none⟩ = some (.slice (some ⟨g, 0, none⟩) l cap) := by rw [Lib.cell_of_heap hbk1]; rfl
  have f0 : w1.frozen? ⟨b, 0, none⟩ = false := Lib.frozen_of_heap hbk1 0
  by_cases hroom : n ≤ cap - l
  · have HT := Lib.hid (Tryd.Buffer_tryGrow_room b (some ⟨g, 0, none⟩) l cap n w1 c0 f0 hlc hcm hroom)
    have hbk3 := bufSet3 hbk1 (.slice (some ⟨g, 0, none⟩) (l + n) cap)
    have hk3 : Keep (fun k => k = b ∨ N ≤ k) w (w1.setCell ⟨b, 0, none⟩ (.slice (some ⟨g, 0, none⟩) (l + n) cap)) := hk1.setCell (Or.inl rfl) _ _
    have hg3 : (w1.setCell ⟨b, 0, none⟩ (.slice (some ⟨g, 0, none⟩) (l + n) cap)).heap[g]? = some (.cells cur 5 (0, 0)) := (Below.heap_setCell _ _ _ _ hgb).trans hg1
    obtain ⟨w3, hw3⟩ : ∃ w3, w3 = w1.setCell ⟨b, 0, none⟩ (.slice (some ⟨g, 0, none⟩) (l + n) cap) := ⟨_, rfl⟩
    rw [← hw3] at HT hbk3 hk3 hg3
    have d0 : w3.cell? ⟨b, 0, none⟩ = some (.slice (some ⟨g, 0, none⟩) (l + n) cap) := by rw [Lib.cell_of_heap hbk3]; rfl
    have hsrc3 : ∀ j v, cs[j]? = some v → w3.cell? (ad.add j) = some v := fun j v hj => hk3.cell (hsrc j v hj) (by rw [Lib.block_add]; omega)
    rw [hw1] at HT
    have hsl := fun W => run_from (P := Tryd.prog) Tryd.underlying43 info_u8 (some ⟨g, 0, none⟩) (l + n) cap l (by omega) W
    have hw3b := block_of_row hbk3
    obtain ⟨w4, hcp, hg4, hk4⟩ := run_copy_keep (P := Tryd.prog) w3 43 43 3 5 Tryd.underlying43 hsz1 (cutA (some ⟨g, 0, none⟩) cap l) n (cap - l) ad n c g l cur 5 hg3 cs hn (Nat.le_refl _) (fun hp => by rw [cutA_own _ _ _ _ (by omega), Nat.zero_add]) hsrc3 (by omega) h1c
    have hbk4 := hk4.row hbk3 (by omega)
    have hk5 := hk3.trans (hk4.mono fun _ _ e => Or.inr (by omega))
    have HF : Hid (BufRow w4 N b (bs ++ cs) ∧ Keep (fun k => k = b ∨ N ≤ k) w w4) := by
      refine Lib.hid ⟨⟨g, cap, _, 0, ?_, hgN, hgb, hg4, ?_, hcm, ?_, ?_⟩, hk5⟩
      · rw [List.length_append, hn, ← hl]; exact hbk4
      · rw [List.length_append, hn, ← hl]; omega
      · rw [← Array.length_toList]; simp; omega
      · rw [List.length_append, hn, ← hl]
        have := take_splice cur.toList cs bs l htk hl.symm
        rw [hn] at this
        simpa using this
    clear hsrc hsrc3 h1c hg3 hbk3 hk3 hn hl htk hcs hw3 hw1 hg hg1 hbk hbk1 hk1 c0 f0 hws1 hbk4 hk5 hg4 hk4 h1 hgN hcm
    go_enter Tryd.func146, Tryd.ntmps146
    go_wp2_with (go_at_call 148; with_reducible refine HT.out.mono ?_; rintro e w' ⟨rfl, rfl⟩)
    go_ret2
    exact ⟨rfl, HF.out.1, HF.out.2⟩
  · have hn1 : 1 ≤ n := by omega
    have HT := Lib.hid (Tryd.Buffer_tryGrow_none b (some ⟨g, 0, none⟩) l cap n w1 c0 hlc hcm (by omega))
    have HGR := Lib.hid (bufGrow_row b g l cap n 0 cur bs w1 hbk1 hl.symm hb0 hg1 hlc hcm hcs htk hgb h1 hn1 (by omega) hlim)
    have hsrc1 : ∀ j v, cs[j]? = some v → w1.cell? (ad.add j) = some v := fun j v hj => hk1.cell (hsrc j v hj) (by rw [Lib.block_add]; omega)
    have HS1 := Lib.hid hsrc1
    have HK1 := Lib.hid hk1
    have HWS := Lib.hid hws1
    have HN := Lib.hid hn
    have HL := Lib.hid hl
    have H1C := Lib.hid h1c
    rw [hw1] at HT
    clear hsrc hsrc1 hk1 hn hl h1c h1 hg hg1 hbk hbk1 htk hcs c0 f0 hlc hcm hcm' hroom hgN hgb hws1
    go_enter Tryd.func146, Tryd.ntmps146
    go_wp2_with (go_at_call 148; with_reducible refine HT.out.mono ?_; rintro e w' ⟨rfl, rfl⟩)
    rw [← hw1]
    clear hw1
    refine HGR.out.mono ?_
    rintro e w3 ⟨rfl, hat, hkg⟩
    obtain ⟨g, cap, cur, lr, hbk3, hgN, hgb, hg3, hlc, hcm, hcs, htk⟩ := hat
    rw [← HL.out] at hbk3 hlc htk
    have hn := HN.out
    have hl := HL.out
    have h1c := H1C.out
    have hk3 : Keep (fun k => k = b ∨ N ≤ k) w w3 := HK1.out.trans (hkg.mono fun _ _ e => Or.inl e)
    have hsrc3 : ∀ j v, cs[j]? = some v → w3.cell? (ad.add j) = some v := fun j v hj => hkg.cell (HS1.out j v hj) (by rw [Lib.block_add]; exact hab)
    have hgN2 : N ≤ g := by have := HWS.out; omega
    have d0 : w3.cell? ⟨b, 0, none⟩ = some (.slice (some ⟨g, 0, none⟩) (l + n) cap) := by rw [Lib.cell_of_heap hbk3]; rfl
    have hcm' := hcm
    unfold maxLen at hcm'
    have hsl := fun W => run_from (P := Tryd.prog) Tryd.underlying43 info_u8 (some ⟨g, 0, none⟩) (l + n) cap l (by omega) W
    have hw3b := block_of_row hbk3
    obtain ⟨w4, hcp, hg4, hk4⟩ := run_copy_keep (P := Tryd.prog) w3 43 43 3 5 Tryd.underlying43 hsz1 (cutA (some ⟨g, 0, none⟩) cap l) n (cap - l) ad n c g l cur 5 hg3 cs hn (Nat.le_refl _) (fun hp => by rw [cutA_own _ _ _ _ (by omega), Nat.zero_add]) hsrc3 (by omega) h1c
    have hbk4 := hk4.row hbk3 (by omega)
    have hk5 := hk3.trans (hk4.mono fun _ _ e => Or.inr (by omega))
    have HF : Hid (BufRow w4 N b (bs ++ cs) ∧ Keep (fun k => k = b ∨ N ≤ k) w w4) := by
      refine Lib.hid ⟨⟨g, cap, _, lr, ?_, hgN2, hgb, hg4, ?_, hcm, ?_, ?_⟩, hk5⟩
      · rw [List.length_append, hn, ← hl]; exact hbk4
      · rw [List.length_append, hn, ← hl]; omega
      · rw [← Array.length_toList]; simp; omega
      · rw [List.length_append, hn, ← hl]
        have := take_splice cur.toList cs bs l htk hl.symm
        rw [hn] at this
        simpa using this
    clear hsrc3 h1c hg3 hbk3 hk3 hn hl htk hcs hbk4 hk5 hg4 hk4 hgN hcm hkg
    go_wp2
    go_ret2
    exact ⟨rfl, HF.out.1, HF.out.2⟩
end Go.Proofs.YthfgnhgijgjggaaDoor
