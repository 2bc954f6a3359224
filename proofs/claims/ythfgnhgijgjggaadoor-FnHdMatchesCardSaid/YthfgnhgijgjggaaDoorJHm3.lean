/- Contracts, joined (LwB LwC LwD RdrB RdC RdD). -/
import Derived.Test.YthfgnhgijgjggaaDoorJHm1
import Derived.Test.YthfgnhgijgjggaaDoorJHm2
import Derived.Deep.RegionWith
import Derived.Deep.AppendLies
import Derived.BigQuiet
import Derived.LoopTactic
/- Contracts: a bytes.Buffer whose row's place is told: grow, Write. -/
namespace Go.Proofs.YthfgnhgijgjggaaDoor
open Go.RowKit

/-- A buffer in block b to which nothing has been written. -/
def BufNil (w : World) (b : Nat) : Prop := ∃ lr : Int, w.heap[b]? = some (.cells #[.slice none 0 0, .int .i64 0, .int .i8 lr] 108 (0, 0))

/-- A buffer in block b that holds the bytes bs, in a row from block N on; n cells more stand behind them. -/
def BufAt (w : World) (N b : Nat) (bs : List Value) (n : Nat) : Prop :=
  ∃ (g cap : Nat) (cur : Array Value) (lr : Int), w.heap[b]? = some (.cells #[.slice (some ⟨g, 0, none⟩) (bs.length + n) cap, .int .i64 0, .int .i8 lr] 108 (0, 0)) ∧ N ≤ g ∧ g ≠ b ∧
    w.heap[g]? = some (.cells cur 5 (0, 0)) ∧ bs.length + n ≤ cap ∧ cap ≤ maxLen ∧ cur.size = cap ∧ cur.toList.take bs.length = bs
abbrev BufRow (w : World) (N b : Nat) (bs : List Value) : Prop := BufAt w N b bs 0

theorem bufSet3 {w : World} {b : Nat} {x y z : Value} {t : TypeId} (h : w.heap[b]? = some (.cells #[x, y, z] t (0, 0))) (v : Value) : (w.setCell ⟨b, 0, none⟩ v).heap[b]? = some (.cells #[v, y, z] t (0, 0)) := by
  have := Lib.heap_setCell_same (i := 0) h v
  simpa using this
theorem bufSet3b {w : World} {b : Nat} {x y z : Value} {t : TypeId} (h : w.heap[b]? = some (.cells #[x, y, z] t (0, 0))) (v : Value) : (w.setCell ⟨b, 1, none⟩ v).heap[b]? = some (.cells #[x, v, z] t (0, 0)) := by
  have := Lib.heap_setCell_same (i := 1) h v
  simpa using this
theorem bufSet3c {w : World} {b : Nat} {x y z : Value} {t : TypeId} (h : w.heap[b]? = some (.cells #[x, y, z] t (0, 0))) (v : Value) : (w.setCell ⟨b, 2, none⟩ v).heap[b]? = some (.cells #[x, y, v] t (0, 0)) := by
  have := Lib.heap_setCell_same (i := 2) h v
  simpa using this

set_option maxRecDepth 100000 in
set_option maxHeartbeats 4000000 in
theorem bufGrow_nil (b n : Nat) (lr : Int) (w : World) (hbk : w.heap[b]? = some (.cells #[.slice none 0 0, .int .i64 0, .int .i8 lr] 108 (0, 0))) (hn : 1 ≤ n) (h64 : n ≤ 64) :
    Calls Tryd.prog 149 #[.pointer (some ⟨b, 0, none⟩), .int .i64 n] w fun e w' => e = .returned (.int .i64 0) ∧ BufAt w' w.heap.size b [] n ∧ Keep (fun k => k = b) w w' := by
  obtain ⟨i0, hi, hz0, hz1, hz2⟩ := info_u8p
  obtain ⟨M, hM⟩ : ∃ M, M = madeCells (Value.int .u8 0).cells ((64 : Int).toNat * i0.size) := ⟨_, rfl⟩
  have hMs : M.size = 64 := by rw [hM, size_madeCells, hz1]; rfl
  have hmk : ∀ W : World, (Instr.makeSlice 43 (.int .i64 (n : Int)) (.int .i64 64)).run Tryd.prog W = .ok (.slice (some ⟨W.heap.size, 0, none⟩) n 64) (W.alloc (.cells M 5)) := fun W => by
    have h := run_makeSlice (P := Tryd.prog) W 43 5 i0 (.int .u8 0) Tryd.underlying43 hi hz0 .i64 .i64 (n : Int) 64 (by omega) (by omega) (by rw [hz1]; decide) (by rw [hz2]; decide) (by decide)
    rw [← hM] at h
    simpa using h
  clear hM hi hz0 hz1 hz2
  have hIs : Lib.IsBuffer 108 5 0 b [] w := ⟨Nat.zero_le _, _, _, hbk, World.ownsRow_nil _ _ _ _, by simp [Value.ownBlock]⟩
  have hnil : ∀ W, (binOp .eql 43 (.slice none 0 0) (.slice none 0 0)).run Tryd.prog W = .ok (.bool true) W := fun W => Lib.run_eql_slice_nil_nil W _ _ Tryd.underlying43
  have HL := Lib.hid (Tryd.Buffer_Len 0 b [] w hIs)
  have hbw := block_of_row hbk
  have HB := Lib.hid hbk
  clear hIs hbk
  go_enter Tryd.func149, Tryd.ntmps149
  go_wp2_with fail
  refine HL.out.mono ?_
  rintro e W0 ⟨rfl, k, hW0⟩
  have hbk0 : W0.heap[b]? = some (.cells #[.slice none 0 0, .int .i64 0, .int .i8 lr] 108 (0, 0)) := by rw [hW0]; exact HB.out
  have hsz : W0.heap.size = w.heap.size := by rw [hW0]; rfl
  have hk0 : Keep (fun k => k = b) w W0 := by rw [hW0]; exact keep_drewN _ _ _
  have c0 : W0.cell? ⟨b, 0, none⟩ = some (.slice none 0 0) := by rw [Lib.cell_of_heap hbk0]; rfl
  have c1 : W0.cell? ⟨b, 1, none⟩ = some (.int .i64 0) := by rw [Lib.cell_of_heap hbk0]; rfl
  have f0 : W0.frozen? ⟨b, 0, none⟩ = false := Lib.frozen_of_heap hbk0 0
  have hbW0 := Lib.lt_of_heap hbk0
  have c0a : ∀ o, (W0.alloc o).cell? ⟨b, 0, none⟩ = some (.slice none 0 0) := fun o => (World.cell?_of_block (a := ⟨b, 0, none⟩) (Below.heap_alloc W0 o b hbW0)).trans c0
  have f0a : ∀ o, (W0.alloc o).frozen? ⟨b, 0, none⟩ = false := fun o => (World.frozen?_of_block (a := ⟨b, 0, none⟩) (Below.heap_alloc W0 o b hbW0)).trans f0
  have HSZ := Lib.hid hsz
  have HB0 := Lib.hid hbk0
  have HT := Lib.hid (Tryd.Buffer_tryGrow_none b none 0 0 n W0 c0 (Nat.le_refl _) (Nat.zero_le _) (by omega))
  clear hW0 hsz hbk0
  go_wp2_with (go_at_call 148; refine HT.out.mono ?_; rintro e w' ⟨rfl, rfl⟩)
  go_ret
  have hset := bufSet3 HB0.out (.slice (some ⟨w'.heap.size, 0, none⟩) n 64)
  have hssz : (w'.setCell ⟨b, 0, none⟩ (.slice (some ⟨w'.heap.size, 0, none⟩) n 64)).heap.size = w'.heap.size := by simp [World.setCell]
  refine ⟨rfl, ⟨w'.heap.size, 64, M, lr, ?_, by rw [HSZ.out]; exact Nat.le_refl _, by omega, ?_, by simpa using h64, by decide, hMs, by simp⟩, ?_⟩
  · have := (Below.heap_alloc (w'.setCell ⟨b, 0, none⟩ (.slice (some ⟨w'.heap.size, 0, none⟩) n 64)) (.cells M 5) b (by rw [hssz]; exact hbW0)).trans hset
    simpa using this
  · have := heap_alloc_new (w'.setCell ⟨b, 0, none⟩ (.slice (some ⟨w'.heap.size, 0, none⟩) n 64)) (.cells M 5)
    rw [hssz] at this
    exact this
  · exact (hk0.setCell rfl _ _).alloc _

set_option maxRecDepth 100000 in
set_option maxHeartbeats 8000000 in
theorem bufGrow_row (b g l cap n : Nat) (lr : Int) (cur : Array Value) (bs : List Value) (w : World)
    (hbk : w.heap[b]? = some (.cells #[.slice (some ⟨g, 0, none⟩) l cap, .int .i64 0, .int .i8 lr] 108 (0, 0))) (hl : bs.length = l) (hl0 : 0 < l)
    (hg : w.heap[g]? = some (.cells cur 5 (0, 0))) (hlc : l ≤ cap) (hcm : cap ≤ maxLen) (hcs : cur.size = cap) (htake : cur.toList.take l = bs) (hgb : g ≠ b)
    (h1 : ∀ v ∈ bs, v.oneCell' = true) (hn : 1 ≤ n) (hroom : cap - l < n) (hlim : l + n ≤ 140737488355328) :
    Calls Tryd.prog 149 #[.pointer (some ⟨b, 0, none⟩), .int .i64 n] w fun e w' => e = .returned (.int .i64 l) ∧ BufAt w' w.heap.size b bs n ∧ Keep (fun k => k = b) w w' := by
  have hIs : Lib.IsBuffer 108 5 0 b bs w := ⟨Nat.zero_le _, _, _, hbk, ⟨by rw [hl, Nat.mul_one], .inr ⟨g, cap, cur, by rw [hl], Nat.zero_le _, hg, by omega, hcm, by omega, by rw [hl, Nat.mul_one]; exact htake⟩⟩, by simp [Value.ownBlock]; exact hgb⟩
  have hnil : ∀ W, (binOp .eql 43 (.slice (some ⟨g, 0, none⟩) l cap) (.slice none 0 0)).run Tryd.prog W = .ok (.bool false) W := fun W => Lib.run_eql_slice_some_nil W _ _ _ Tryd.underlying43
  have HL := Lib.hid (Tryd.Buffer_Len 0 b bs w hIs)
  rw [hl] at HL
  have hbw := block_of_row hbk
  have HB := Lib.hid hbk
  have HG := Lib.hid hg
  have hcm' := hcm
  unfold maxLen at hcm'
  have hc2 : cap ≤ 140737488355328 := by omega
  have h1' : ∀ v ∈ cur.toList.take l, v.oneCell' = true := by rw [htake]; exact h1
  have HT1 := Lib.hid h1'
  have HCS := Lib.hid hcs
  have HTK := Lib.hid htake
  have HLL := Lib.hid hl
  have hwn : IntKind.i64.wrap (n : Int) = n := by rw [IntKind.wrap_i64]; omega
  clear hIs hbk hg h1' hcs htake h1 hl
  go_enter Tryd.func149, Tryd.ntmps149
  go_wp2_with fail
  refine HL.out.mono ?_
  rintro e W0 ⟨rfl, k, hW0⟩
  have hbk0 : W0.heap[b]? = some (.cells #[.slice (some ⟨g, 0, none⟩) l cap, .int .i64 0, .int .i8 lr] 108 (0, 0)) := by rw [hW0]; exact HB.out
  have hg0 : W0.heap[g]? = some (.cells cur 5 (0, 0)) := by rw [hW0]; exact HG.out
  have hsz : W0.heap.size = w.heap.size := by rw [hW0]; rfl
  have hk0 : Keep (fun k => k = b) w W0 := by rw [hW0]; exact keep_drewN _ _ _
  have c0 : W0.cell? ⟨b, 0, none⟩ = some (.slice (some ⟨g, 0, none⟩) l cap) := by rw [Lib.cell_of_heap hbk0]; rfl
  have c1 : W0.cell? ⟨b, 1, none⟩ = some (.int .i64 0) := by rw [Lib.cell_of_heap hbk0]; rfl
  have f0 : W0.frozen? ⟨b, 0, none⟩ = false := Lib.frozen_of_heap hbk0 0
  have f1 : W0.frozen? ⟨b, 1, none⟩ = false := Lib.frozen_of_heap hbk0 1
  have hbW := Lib.lt_of_heap hbk0
  have HSZ := Lib.hid hsz
  have HB0 := Lib.hid hbk0
  have HG0 := Lib.hid hg0
  have HT := Lib.hid (Tryd.Buffer_tryGrow_none b (some ⟨g, 0, none⟩) l cap n W0 c0 hlc hcm hroom)
  clear hW0 hsz hbk0 hg0 HB HG hcm
  go_wp2_with (go_at_call 148; refine HT.out.mono ?_; rintro e w' ⟨rfl, rfl⟩)
  have HS := Lib.hid (Tryd.bytes_growSlice_row g l cap n cur w'.drew HG0.out HCS.out hlc hn hlim hc2 HT1.out)
  go_region_with (
      go_at_call 151
      refine HS.out.mono ?_
      rintro e w2 ⟨cap2, cells, rfl, hN, hcsz, htk, hcap2, hcm2, hbel⟩
      have hbk2 : w2.heap[b]? = some (.cells #[.slice (some ⟨g, 0, none⟩) l cap, .int .i64 0, .int .i8 lr] 108 (0, 0)) := (hbel.block b hbW).trans HB0.out
      have d0 : w2.cell? ⟨b, 0, none⟩ = some (.slice (some ⟨g, 0, none⟩) l cap) := by rw [Lib.cell_of_heap hbk2]; rfl
      have d1 : w2.cell? ⟨b, 1, none⟩ = some (.int .i64 0) := by rw [Lib.cell_of_heap hbk2]; rfl
      have e0 : w2.frozen? ⟨b, 0, none⟩ = false := Lib.frozen_of_heap hbk2 0
      have e1 : w2.frozen? ⟨b, 1, none⟩ = false := Lib.frozen_of_heap hbk2 1
      have HB2 := Lib.hid hbk2
      have HN2 := Lib.hid hN
      have HTK2 := Lib.hid htk
      have HCS2 := Lib.hid hcsz
      have hcm3 : cap2 ≤ 9223372036854775807 := hcm2
      clear hbk2 hN htk hcsz)
  all_goals (
    go_wp2
    go_ret
    have e3 := bufSet3 (bufSet3b (bufSet3 HB2.out (.slice (some ⟨w'.heap.size, 0, none⟩) l cap2)) (.int .i64 0)) (.slice (some ⟨w'.heap.size, 0, none⟩) (l + n) cap2)
    have hne : w'.heap.size ≠ b := by omega
    refine ⟨rfl, ⟨w'.heap.size, cap2, cells, lr, ?_, by rw [HSZ.out]; exact Nat.le_refl _, hne, ?_, by rw [HLL.out]; exact hcap2, hcm2, HCS2.out, ?_⟩, ?_⟩
    · rw [HLL.out]; exact e3
    · rw [Below.heap_setCell _ _ _ _ hne, Below.heap_setCell _ _ _ _ hne, Below.heap_setCell _ _ _ _ hne]; exact HN2.out
    · rw [HLL.out]; exact HTK2.out.trans HTK.out
    · exact ((((hk0.trans (keep_drew _ _)).trans hbel.keep).setCell rfl _ _).setCell rfl _ _).setCell rfl _ _)

/-- '.. = copy(buf[m:], p)' laid over a row of which the first m cells are told. -/
theorem take_splice (L cs bs : List Value) (m : Nat) (hb : L.take m = bs) (hm : bs.length = m) : (L.take m ++ cs ++ L.drop (m + cs.length)).take (m + cs.length) = bs ++ cs := by
  rw [hb, List.take_left' (by rw [List.length_append, hm])]

theorem run_copy_keep {P : Program} (w : World) (dT sT ty elem : TypeId) (hu : P.underlying dT = some (.slice elem)) (hsz : (P.info? elem).map (·.size) = some 1) (dp : Option Addr) (dLen dCap : Nat) (ad : Addr) (n c g off : Nat) (cur : Array Value) (t : TypeId)
    (hg : w.heap[g]? = some (.cells cur t (0, 0))) (cs : List Value) (hn : cs.length = n) (hdl : n ≤ dLen) (hpos : 0 < n → dp = some ⟨g, off, none⟩) (hsrc : ∀ j v, cs[j]? = some v → w.cell? (ad.add j) = some v) (hfit : off + n ≤ cur.size) (h1 : ∀ v ∈ cs, v.oneCell' = true) :
    ∃ w4, (Builtin.copy_ #[dT, sT] ty #[.slice dp dLen dCap, .slice (some ad) n c]).run P w = .ok (goInt n) w4 ∧ w4.heap[g]? = some (.cells (cur.toList.take off ++ cs ++ cur.toList.drop (off + n)).toArray t (0, 0)) ∧ Keep (fun k => k = g) w w4 := by
  by_cases h0 : n = 0
  · subst h0
    obtain rfl : cs = [] := List.eq_nil_of_length_eq_zero hn
    refine ⟨w, run_copy_none w dT sT ty elem dp (some ad) dLen dCap 0 c hu hsz (by simp), ?_, Keep.refl _ _⟩
    rw [hg]; simp
  · obtain rfl := hpos (by omega)
    subst hn
    have h := run_copy_row (P := P) w dT sT ty elem g off dLen dCap ad cs.length c cur t cs hu hsz hg (Nat.min_eq_left hdl).symm hsrc hfit h1
    exact ⟨_, h, setRow_heap w g cur _ t _ hg, (Keep.refl (fun k => k = g) w).setRow (p := g) rfl _⟩

set_option maxRecDepth 100000 in
set_option maxHeartbeats 8000000 in
theorem bufWrite_row (N b : Nat) (bs cs : List Value) (ad : Addr) (n c : Nat) (w : World) (h : BufRow w N b bs) (hN : N ≤ w.heap.size) (hbN : b < N) (hb0 : 0 < bs.length) (h1 : ∀ v ∈ bs, v.oneCell' = true)
    (hn : cs.length = n) (hab : ad.block ≠ b) (haN : ad.block < N) (hsrc : ∀ j v, cs[j]? = some v → w.cell? (ad.add j) = some v) (h1c : ∀ v ∈ cs, v.oneCell' = true) (hlim : bs.length + n ≤ 140737488355328) :
    Calls Tryd.prog 146 #[.pointer (some ⟨b, 0, none⟩), .slice (some ad) n c] w fun e w' => e = .returned (.tuple #[.int .i64 n, .nilIface]) ∧ BufRow w' N b (bs ++ cs) ∧ Keep (fun k => k = b ∨ N ≤ k) w w' := by
  obtain ⟨g, cap, cur, lr, hbk, hgN, hgb, hg, hlc, hcm, hcs, htk⟩ := h
  obtain ⟨l, hl⟩ : ∃ l, l = bs.length := ⟨_, rfl⟩
  rw [Nat.add_zero, ← hl] at hbk hlc
  rw [← hl] at htk hb0 hlim
  have hcm' := hcm
  unfold maxLen at hcm'
  have hbw := block_of_row hbk
  have hbk1 := bufSet3c hbk (.int .i8 0)
  have hk1 : Keep (fun k => k = b ∨ N ≤ k) w (w.setCell ⟨b, 2, none⟩ (.int .i8 0)) := (Keep.refl _ _).setCell (Or.inl rfl) _ _
  have hg1 : (w.setCell ⟨b, 2, none⟩ (.int .i8 0)).heap[g]? = some (.cells cur 5 (0, 0)) := (Below.heap_setCell _ _ _ _ hgb).trans hg
  have c2 : w.cell? ⟨b, 2, none⟩ = some (.int .i8 lr) := by rw [Lib.cell_of_heap hbk]; rfl
  have f2 : w.frozen? ⟨b, 2, none⟩ = false := Lib.frozen_of_heap hbk 2
  have hws1 : (w.setCell ⟨b, 2, none⟩ (.int .i8 0)).heap.size = w.heap.size := by simp [World.setCell]
  obtain ⟨w1, hw1⟩ : ∃ w1, w1 = w.setCell ⟨b, 2, none⟩ (.int .i8 0) := ⟨_, rfl⟩
  rw [← hw1] at hbk1 hk1 hg1 hws1
  have c0 : w1.cell? ⟨b, 0, none⟩ = some (.slice (some ⟨g, 0, none⟩) l cap) := by rw [Lib.cell_of_heap hbk1]; rfl
  have f0 : w1.frozen? ⟨b, 0, none⟩ = false := Lib.frozen_of_heap hbk1 0
  by_cases hroom : n ≤ cap - l
  · have HT := Lib.hid (Tryd.Buffer_tryGrow_room b (some ⟨g, 0, none⟩) l cap n w1 c0 f0 hlc hcm hroom)
    have hbk3 := bufSet3 hbk1 (.slice (some ⟨g, 0, none⟩) (l + n) cap)
    have hk3 : Keep (fun k => k = b ∨ N ≤ k) w (w1.setCell ⟨b, 0, none⟩ (.slice (some ⟨g, 0, none⟩) (l + n) cap)) := hk1.setCell (Or.inl rfl) _ _
    have hg3 : (w1.setCell ⟨b, 0, none⟩ (.slice (some ⟨g, 0, none⟩) (l + n) cap)).heap[g]? = some (.cells cur 5 (0, 0)) := (Below.heap_setCell _ _ _ _ hgb).trans hg1
    obtain ⟨w3, hw3⟩ : ∃ w3, w3 = w1.setCell ⟨b, 0, none⟩ (.slice (some ⟨g, 0, none⟩) (l + n) cap) := ⟨_, rfl⟩
    rw [← hw3] at HT hbk3 hk3 hg3
    have d0 : w3.cell? ⟨b, 0, none⟩ = some (.slice (some ⟨g, 0, none⟩) (l + n) cap) := by rw [Lib.cell_of_heap hbk3]; rfl
    have hsrc3 : ∀ j v, cs[j]? = some v → w3.cell? (ad.add j) = some v := fun j v hj => hk3.cell (hsrc j v hj) (by rw [Lib.block_add]; omega)
    rw [hw1] at HT
    have hsl := fun W => run_from (P := Tryd.prog) Tryd.underlying43 info_u8 (some ⟨g, 0, none⟩) (l + n) cap l (by omega) W
    have hw3b := block_of_row hbk3
    obtain ⟨w4, hcp, hg4, hk4⟩ := run_copy_keep (P := Tryd.prog) w3 43 43 3 5 Tryd.underlying43 hsz1 (cutA (some ⟨g, 0, none⟩) cap l) n (cap - l) ad n c g l cur 5 hg3 cs hn (Nat.le_refl _) (fun hp => by rw [cutA_own _ _ _ _ (by omega), Nat.zero_add]) hsrc3 (by omega) h1c
    have hbk4 := hk4.row hbk3 (by omega)
    have hk5 := hk3.trans (hk4.mono fun _ _ e => Or.inr (by omega))
    have HF : Hid (BufRow w4 N b (bs ++ cs) ∧ Keep (fun k => k = b ∨ N ≤ k) w w4) := by
      refine Lib.hid ⟨⟨g, cap, _, 0, ?_, hgN, hgb, hg4, ?_, hcm, ?_, ?_⟩, hk5⟩
      · rw [List.length_append, hn, ← hl]; exact hbk4
      · rw [List.length_append, hn, ← hl]; omega
      · rw [← Array.length_toList]; simp; omega
      · rw [List.length_append, hn, ← hl]
        have := take_splice cur.toList cs bs l htk hl.symm
        rw [hn] at this
        simpa using this
    clear hsrc hsrc3 h1c hg3 hbk3 hk3 hn hl htk hcs hw3 hw1 hg hg1 hbk hbk1 hk1 c0 f0 hws1 hbk4 hk5 hg4 hk4 h1 hgN hcm
    go_enter Tryd.func146, Tryd.ntmps146
    go_wp2_with (go_at_call 148; with_reducible refine HT.out.mono ?_; rintro e w' ⟨rfl, rfl⟩)
    go_ret2
    exact ⟨rfl, HF.out.1, HF.out.2⟩
  · have hn1 : 1 ≤ n := by omega
    have HT := Lib.hid (Tryd.Buffer_tryGrow_none b (some ⟨g, 0, none⟩) l cap n w1 c0 hlc hcm (by omega))
    have HGR := Lib.hid (bufGrow_row b g l cap n 0 cur bs w1 hbk1 hl.symm hb0 hg1 hlc hcm hcs htk hgb h1 hn1 (by omega) hlim)
    have hsrc1 : ∀ j v, cs[j]? = some v → w1.cell? (ad.add j) = some v := fun j v hj => hk1.cell (hsrc j v hj) (by rw [Lib.block_add]; omega)
    have HS1 := Lib.hid hsrc1
    have HK1 := Lib.hid hk1
    have HWS := Lib.hid hws1
    have HN := Lib.hid hn
    have HL := Lib.hid hl
    have H1C := Lib.hid h1c
    rw [hw1] at HT
    clear hsrc hsrc1 hk1 hn hl h1c h1 hg hg1 hbk hbk1 htk hcs c0 f0 hlc hcm hcm' hroom hgN hgb hws1
    go_enter Tryd.func146, Tryd.ntmps146
    go_wp2_with (go_at_call 148; with_reducible refine HT.out.mono ?_; rintro e w' ⟨rfl, rfl⟩)
    rw [← hw1]
    clear hw1
    refine HGR.out.mono ?_
    rintro e w3 ⟨rfl, hat, hkg⟩
    obtain ⟨g, cap, cur, lr, hbk3, hgN, hgb, hg3, hlc, hcm, hcs, htk⟩ := hat
    rw [← HL.out] at hbk3 hlc htk
    have hn := HN.out
    have hl := HL.out
    have h1c := H1C.out
    have hk3 : Keep (fun k => k = b ∨ N ≤ k) w w3 := HK1.out.trans (hkg.mono fun _ _ e => Or.inl e)
    have hsrc3 : ∀ j v, cs[j]? = some v → w3.cell? (ad.add j) = some v := fun j v hj => hkg.cell (HS1.out j v hj) (by rw [Lib.block_add]; exact hab)
    have hgN2 : N ≤ g := by have := HWS.out; omega
    have d0 : w3.cell? ⟨b, 0, none⟩ = some (.slice (some ⟨g, 0, none⟩) (l + n) cap) := by rw [Lib.cell_of_heap hbk3]; rfl
    have hcm' := hcm
    unfold maxLen at hcm'
    have hsl := fun W => run_from (P := Tryd.prog) Tryd.underlying43 info_u8 (some ⟨g, 0, none⟩) (l + n) cap l (by omega) W
    have hw3b := block_of_row hbk3
    obtain ⟨w4, hcp, hg4, hk4⟩ := run_copy_keep (P := Tryd.prog) w3 43 43 3 5 Tryd.underlying43 hsz1 (cutA (some ⟨g, 0, none⟩) cap l) n (cap - l) ad n c g l cur 5 hg3 cs hn (Nat.le_refl _) (fun hp => by rw [cutA_own _ _ _ _ (by omega), Nat.zero_add]) hsrc3 (by omega) h1c
    have hbk4 := hk4.row hbk3 (by omega)
    have hk5 := hk3.trans (hk4.mono fun _ _ e => Or.inr (by omega))
    have HF : Hid (BufRow w4 N b (bs ++ cs) ∧ Keep (fun k => k = b ∨ N ≤ k) w w4) := by
      refine Lib.hid ⟨⟨g, cap, _, lr, ?_, hgN2, hgb, hg4, ?_, hcm, ?_, ?_⟩, hk5⟩
      · rw [List.length_append, hn, ← hl]; exact hbk4
      · rw [List.length_append, hn, ← hl]; omega
      · rw [← Array.length_toList]; simp; omega
      · rw [List.length_append, hn, ← hl]
        have := take_splice cur.toList cs bs l htk hl.symm
        rw [hn] at this
        simpa using this
    clear hsrc3 h1c hg3 hbk3 hk3 hn hl htk hcs hbk4 hk5 hg4 hk4 hgN hcm hkg
    go_wp2
    go_ret2
    exact ⟨rfl, HF.out.1, HF.out.2⟩
end Go.Proofs.YthfgnhgijgjggaaDoor
/- Contract: the first Write to a bytes.Buffer. -/
namespace Go.Proofs.YthfgnhgijgjggaaDoor
open Go.RowKit

set_option maxRecDepth 100000 in
set_option maxHeartbeats 8000000 in
theorem bufWrite_nil (b : Nat) (cs : List Value) (ad : Addr) (n c : Nat) (w : World) (h : BufNil w b) (hn0 : 1 ≤ n) (h64 : n ≤ 64)
    (hn : cs.length = n) (hab : ad.block ≠ b) (hsrc : ∀ j v, cs[j]? = some v → w.cell? (ad.add j) = some v) (h1c : ∀ v ∈ cs, v.oneCell' = true) :
    Calls Tryd.prog 146 #[.pointer (some ⟨b, 0, none⟩), .slice (some ad) n c] w fun e w' => e = .returned (.tuple #[.int .i64 n, .nilIface]) ∧ BufRow w' w.heap.size b cs ∧ Keep (fun k => k = b) w w' := by
  obtain ⟨lr, hbk⟩ := h
  have hbw := block_of_row hbk
  have hbk1 := bufSet3c hbk (.int .i8 0)
  have hk1 : Keep (fun k => k = b) w (w.setCell ⟨b, 2, none⟩ (.int .i8 0)) := Keep.setCell (S := fun k => k = b) (Keep.refl _ _) rfl _ _
  have c2 : w.cell? ⟨b, 2, none⟩ = some (.int .i8 lr) := by rw [Lib.cell_of_heap hbk]; rfl
  have f2 : w.frozen? ⟨b, 2, none⟩ = false := Lib.frozen_of_heap hbk 2
  have hws1 : (w.setCell ⟨b, 2, none⟩ (.int .i8 0)).heap.size = w.heap.size := by simp [World.setCell]
  obtain ⟨w1, hw1⟩ : ∃ w1, w1 = w.setCell ⟨b, 2, none⟩ (.int .i8 0) := ⟨_, rfl⟩
  rw [← hw1] at hbk1 hk1 hws1
  have c0 : w1.cell? ⟨b, 0, none⟩ = some (.slice none 0 0) := by rw [Lib.cell_of_heap hbk1]; rfl
  have HT := Lib.hid (Tryd.Buffer_tryGrow_none b none 0 0 n w1 c0 (Nat.le_refl _) (Nat.zero_le _) (by omega))
  have HGR := Lib.hid (bufGrow_nil b n 0 w1 hbk1 hn0 h64)
  have hsrc1 : ∀ j v, cs[j]? = some v → w1.cell? (ad.add j) = some v := fun j v hj => hk1.cell (hsrc j v hj) (by rw [Lib.block_add]; exact hab)
  have HS1 := Lib.hid hsrc1
  have HK1 := Lib.hid hk1
  have HWS := Lib.hid hws1
  have HN := Lib.hid hn
  have H1C := Lib.hid h1c
  rw [hw1] at HT
  clear hsrc hsrc1 hk1 hn h1c hbk hbk1 c0 hws1
  go_enter Tryd.func146, Tryd.ntmps146
  go_wp2_with (go_at_call 148; with_reducible refine HT.out.mono ?_; rintro e w' ⟨rfl, rfl⟩)
  rw [← hw1]
  clear hw1
  refine HGR.out.mono ?_
  rintro e w3 ⟨rfl, hat, hkg⟩
  obtain ⟨g, cap, cur, lr, hbk3, hgN, hgb, hg3, hlc, hcm, hcs, htk⟩ := hat
  have hn := HN.out
  have h1c := H1C.out
  have hk3 : Keep (fun k => k = b) w w3 := HK1.out.trans hkg
  have hsrc3 : ∀ j v, cs[j]? = some v → w3.cell? (ad.add j) = some v := fun j v hj => hkg.cell (HS1.out j v hj) (by rw [Lib.block_add]; exact hab)
  have hgN2 : w.heap.size ≤ g := by have := HWS.out; omega
  rw [List.length_nil, Nat.zero_add] at hbk3 hlc
  have d0 : w3.cell? ⟨b, 0, none⟩ = some (.slice (some ⟨g, 0, none⟩) n cap) := by rw [Lib.cell_of_heap hbk3]; rfl
  have hcm' := hcm
  unfold maxLen at hcm'
  have hsl : ∀ W, (Instr.slice 43 (.slice (some ⟨g, 0, none⟩) n cap) (some (.int .i64 0)) none none).run Tryd.prog W = .ok (.slice (cutA (some ⟨g, 0, none⟩) cap 0) n cap) W := fun W => run_from (P := Tryd.prog) Tryd.underlying43 info_u8 (some ⟨g, 0, none⟩) n cap 0 (by omega) W
  obtain ⟨w4, hcp, hg4, hk4⟩ := run_copy_keep (P := Tryd.prog) w3 43 43 3 5 Tryd.underlying43 hsz1 (cutA (some ⟨g, 0, none⟩) cap 0) n cap ad n c g 0 cur 5 hg3 cs hn (Nat.le_refl _) (fun hp => by rw [cutA_own _ _ _ _ (by omega)]) hsrc3 (by omega) h1c
  have hbk4 := hk4.row hbk3 (by omega)
  have hk5 : Keep (fun k => k = b) w w4 := hk3.trans2 hk4 (fun i hi e => by omega)
  have HF : Hid (BufRow w4 w.heap.size b cs ∧ Keep (fun k => k = b) w w4) := by
    refine Lib.hid ⟨⟨g, cap, _, lr, ?_, hgN2, hgb, hg4, ?_, hcm, ?_, ?_⟩, hk5⟩
    · rw [hn]; exact hbk4
    · rw [hn]; omega
    · rw [← Array.length_toList]; simp; omega
    · rw [hn]; simp [← hn]
  clear hsrc3 h1c hg3 hbk3 hk3 hn htk hcs hbk4 hk5 hg4 hk4 hgN hcm hkg
  go_wp2
  go_ret2
  exact ⟨rfl, HF.out.1, HF.out.2⟩
end Go.Proofs.YthfgnhgijgjggaaDoor
/- Contract: util.LdWrite into a bytes.Buffer. -/
namespace Go.Proofs.YthfgnhgijgjggaaDoor
open Go.RowKit

/-- The bytes of strings, one behind the other. -/
def jn (ss : List ByteArray) : List UInt8 := (ss.map (fun s => s.data.toList)).flatten
theorem jn_nil : jn [] = [] := rfl
theorem jn_take (ss : List ByteArray) (k : Nat) (s : ByteArray) (h : ss[k]? = some s) : jn (ss.take (k + 1)) = jn (ss.take k) ++ s.data.toList := by
  unfold jn
  rw [List.take_add_one, h]
  simp
theorem jn_len (ss : List ByteArray) (m : Nat) (h : ∀ s ∈ ss, s.size ≤ m) : (jn ss).length ≤ ss.length * m := by
  induction ss with
  | nil => simp [jn]
  | cons s ss ih =>
    have h1 := ih (fun x hx => h x (by simp [hx]))
    have h2 := h s (by simp)
    have e : jn (s :: ss) = s.data.toList ++ jn ss := rfl
    rw [e, List.length_append, List.length_cons, Nat.succ_mul]
    have h3 : s.data.toList.length = s.size := ba_len s
    omega

theorem uvarint_len3 {n : Nat} (h : n < 2097152) : (Lib.uvarint n).length ≤ 3 := by
  by_cases h1 : n < 128
  · rw [Lib.uvarint_small h1]; simp
  · rw [Lib.uvarint_big (by omega), List.length_cons]
    by_cases h2 : n / 128 < 128
    · rw [Lib.uvarint_small h2]; simp
    · rw [Lib.uvarint_big (by omega), List.length_cons, Lib.uvarint_small (by omega)]; simp

theorem nil_bufWrite (a : Addr) (w : World) : (nilAhead 359 110 (.pointer (some a)) "Write").run Tryd.prog w = .ok (some false) w := by kernel_rfl
theorem method_bufWrite (a : Addr) (w : World) : (method 359 110 (.pointer (some a)) "Write").run Tryd.prog w = .ok (146, .pointer (some a)) w := by kernel_rfl

abbrev bufV (b : Nat) : Value := .iface 110 (.pointer (some ⟨b, 0, none⟩))

theorem cells_src {w : World} {g : Nat} {l : List UInt8} (h : ∀ i (hi : i < l.length), w.cell? ⟨g, 0 + i, none⟩ = some (.int .u8 (l[i].toNat))) : ∀ j v, (Lib.byteCells l)[j]? = some v → w.cell? ((⟨g, 0, none⟩ : Addr).add j) = some v := by
  intro j v hv
  have hj : j < l.length := by
    rcases Nat.lt_or_ge j l.length with h | h
    · exact h
    · rw [List.getElem?_eq_none (by rw [Lib.byteCells_length]; exact h)] at hv; cases hv
  have ead : (⟨g, 0, none⟩ : Addr).add j = ⟨g, 0 + j, none⟩ := by by_cases h : j = 0 <;> simp [Addr.add, h]
  rw [ead, h j hj]
  simp only [Lib.byteCells, List.getElem?_map, List.getElem?_eq_getElem hj, Option.map_some, Option.some.injEq] at hv
  rw [← hv]

set_option maxRecDepth 100000 in
set_option maxHeartbeats 8000000 in
theorem ldWrite_any (b lo : Nat) (v : Value) (ss : List ByteArray) (w : World) (hnil : BufNil w b) (hp : Parts w lo v ss) (hlo : b < lo) (hss : ∀ s ∈ ss, s.size ≤ 16384) (hn : ss.length ≤ 50) :
    Calls Tryd.prog 53 #[bufV b, v] w fun e w' => e = .returned .nilIface ∧ (∃ N, b < N ∧ BufRow w' N b (Lib.byteCells (Lib.uvarint (jn ss).length ++ jn ss))) ∧ Keep (fun k => k = b) w w' := by
  obtain ⟨A, c, rfl, hc, hcells⟩ := hp
  obtain ⟨n, hN⟩ : ∃ n, n = ss.length := ⟨_, rfl⟩
  have hlen := jn_len ss 16384 hss
  have hlens : ∀ k, (jn (ss.take k)).length ≤ 819200 := fun k => by
    have := jn_len (ss.take k) 16384 (fun s hs => hss s (List.mem_of_mem_take hs))
    have h2 : (ss.take k).length ≤ 50 := by rw [List.length_take]; omega
    have h3 : (ss.take k).length * 16384 ≤ 50 * 16384 := Nat.mul_le_mul_right _ h2
    omega
  have hbw : b < w.heap.size := by obtain ⟨lr, h⟩ := hnil; exact block_of_row h
  rw [← hN] at hc hn
  have HC := Lib.hid hcells
  have HN := Lib.hid hN
  have HS := Lib.hid hss
  have HLS := Lib.hid hlens
  have HLS2 := Lib.hid hlens
  have HNIL := Lib.hid hnil
  rw [← hN]
  clear hcells hc hN hss hlen hlens hnil
  have part : ∀ k, k < n → ∃ g s, A = some ⟨g, 0, none⟩ ∧ lo ≤ g ∧ g < w.heap.size ∧ ss[k]? = some s ∧ s.size ≤ 16384 ∧ ∃ b' c', w.cell? ⟨g, 0 + k, none⟩ = some (.slice (some ⟨b', 0, none⟩) s.size c') ∧ s.size ≤ c' ∧ lo ≤ b' ∧ b' < w.heap.size ∧ ∀ i (h : i < s.data.toList.length), w.cell? ⟨b', 0 + i, none⟩ = some (.int .u8 (s.data.toList[i].toNat)) := by
    intro k hk
    obtain ⟨g, e, h1, h2, h3⟩ := HC.out (by rw [← HN.out]; omega)
    have hks : k < ss.length := by rw [← HN.out]; exact hk
    obtain ⟨x, hx, b', c', e', h4, h5, h6, -, h7⟩ := h3 k _ (List.getElem?_eq_getElem hks)
    exact ⟨g, ss[k], e, h1, h2, List.getElem?_eq_getElem hks, HS.out _ (List.getElem_mem hks), b', c', by rw [hx, e'], h4, h5, h6, h7⟩
  have HP := Lib.hid part
  clear part
  go_enter Tryd.func53, Tryd.ntmps53
  go_wp2
  go_loop [5, 16] (fun x i => ∃ (k : Nat), k ≤ n ∧ i = .int .i64 k ∧ x = .int .u64 ((jn (ss.take k)).length : Nat)) (fun _ i => n - (intOf i).toNat)
  case atStart => exact ⟨0, Nat.zero_le _, rfl, rfl⟩
  case round =>
    obtain ⟨k, hk, rfl, rfl⟩ := hrel
    have hb1 := HLS.out k
    by_cases hlt : k < n
    · obtain ⟨g, s, rfl, hg1, hg2, hsk, hsz, b', c', hcell, hc', -, -, -⟩ := HP.out k hlt
      rw [Nat.zero_add] at hcell
      have HE := Lib.hid (jn_take ss k s hsk)
      clear hsk
      go_wp2
      go_round
      case rel => exact ⟨k + 1, by omega, by go_num, by rw [HE.out, List.length_append, ba_len]; go_num⟩
      case measure => simp [intOf]; omega
    · obtain rfl : k = n := by omega
      have hall : ss.take k = ss := List.take_of_length_le (by rw [HN.out]; exact Nat.le_refl _)
      rw [hall] at hb1 ⊢
      clear hall
      obtain ⟨T, hT⟩ : ∃ T, T = (jn ss).length := ⟨_, rfl⟩
      rw [← hT] at hb1 ⊢
      have hU := uvarint_len3 (n := T) (by omega)
      have hU0 := Lib.uvarint_pos T
      obtain ⟨w1, hmk0, hbl1, hs1, hrow⟩ := make_bytes (P := Tryd.prog) Tryd.underlying43 info_u8 w 8 (by omega)
      have hmk : (Instr.makeSlice 43 (.int .i64 8) (.int .i64 8)).run Tryd.prog w = .ok (.slice (some ⟨w.heap.size, 0, none⟩) 8 8) w1 := hmk0
      have HPU := Lib.hid (putUvW_any w.heap.size 0 8 8 T (List.replicate 8 (.int .u8 0)) 5 w1 (by omega) hrow (by simp; omega) (by omega))
      obtain ⟨L, hL⟩ : ∃ L, L = (Lib.uvarint T).length := ⟨_, rfl⟩
      rw [← hL] at hU hU0 HPU
      have HLL := Lib.hid hL
      have HTT := Lib.hid hT
      have HS1 := Lib.hid hs1
      have HBL := Lib.hid hbl1
      have hmf : ∀ (fn : Fn) (first cap : Array Value) (w : World), (Instr.makeFunc fn first cap).run Tryd.prog w = .ok (.func fn first cap) w := fun _ _ _ _ => rfl
      have hna := fun w => nil_bufWrite ⟨b, 0, none⟩ w
      have hme := fun w => method_bufWrite ⟨b, 0, none⟩ w
      have hL0 : (0 : Int) ≤ (L : Int) := by omega
      have hL8 : (L : Int) ≤ 8 := by omega
      clear hmk0 hbl1 hs1 hrow hL hT
      go_wp2_with fail
      refine HPU.out.mono ?_
      rintro e w2 ⟨rfl, hr2, ht2⟩
      have hbl2 : Below w.heap.size w w2 := HBL.out.trans (ht2.below (Nat.le_refl _))
      have hs2 : w2.heap.size = w.heap.size + 1 := by rw [ht2.size, HS1.out]
      have hnil2 : BufNil w2.drew b := by obtain ⟨lr, h⟩ := HNIL.out; exact ⟨lr, (hbl2.block b hbw).trans h⟩
      have hsrc : ∀ j v, (Lib.byteCells (Lib.uvarint T))[j]? = some v → w2.drew.cell? ((⟨w.heap.size, 0, none⟩ : Addr).add j) = some v := by
        intro j v hv
        have hjl : j < L := by
          rcases Nat.lt_or_ge j L with h | h
          · exact h
          · rw [List.getElem?_eq_none (by rw [Lib.byteCells_length, ← HLL.out]; exact h)] at hv; cases hv
        have hc := World.news_of_block (w := w2) hr2.out j v ?_
        · exact hc
        · rw [show (splice (List.replicate 8 (Value.int IntKind.u8 0)) 0 (Lib.byteCells (Lib.uvarint T))).toArray.toList = splice (List.replicate 8 (Value.int IntKind.u8 0)) 0 (Lib.byteCells (Lib.uvarint T)) from rfl, splice_get _ _ _ (by rw [Lib.byteCells_length, ← HLL.out]; simp; omega), if_pos (by rw [Lib.byteCells_length, ← HLL.out]; omega)]
          simpa using hv
      have HW := Lib.hid (bufWrite_nil b (Lib.byteCells (Lib.uvarint T)) ⟨w.heap.size, 0, none⟩ L 8 w2.drew hnil2 (by omega) (by omega) (by rw [Lib.byteCells_length, ← HLL.out]) (by show w.heap.size ≠ b; omega) hsrc (Lib.byteCells_one _))
      have HS2 := Lib.hid hs2
      have HBL2 := Lib.hid hbl2
      clear hr2 ht2 hbl2 hs2 hnil2 hsrc hmk HPU
      go_wp2_with fail
      go_region_with (go_at_call 146; refine HW.out.mono ?_; rintro e w3 ⟨rfl, hbr, hk3⟩)
      have hN1 : w2.drew.heap.size = w.heap.size + 1 := HS2.out
      have hkw3 : Keep (fun q => q = b) w w3 := (HBL2.out.keep.trans (keep_drew _ _)).trans hk3
      have hsz3 : w2.drew.heap.size ≤ w3.heap.size := hk3.size
      rw [hN1] at hbr hsz3
      have HBR := Lib.hid hbr
      have HKW := Lib.hid hkw3
      have hjn0 : jn (ss.take 0) = [] := rfl
      clear HW hk3 hbr hkw3 hN1 HS2 HBL2 HLS hlt HS1 HBL hmf hL0 hL8 hU hU0 HLL
      go_wp2
      go_loopw [46] (fun i wr => ∃ (m : Nat), m ≤ k ∧ i = .int .i64 m ∧ Hid (BufRow wr (w.heap.size + 1) b (Lib.byteCells (Lib.uvarint T ++ jn (ss.take m)))) ∧ Hid (Keep (fun q => q = b ∨ w.heap.size + 1 ≤ q) w3 wr)) (fun i _ => k - (intOf i).toNat)
      case atStart => exact ⟨0, Nat.zero_le _, rfl, Lib.hid (by rw [hjn0, List.append_nil]; exact HBR.out), Lib.hid (Keep.refl _ _)⟩
      case round =>
        obtain ⟨m, hm, rfl, hbm, hkm⟩ := hrel
        by_cases hlt : m < k
        · obtain ⟨g, s, rfl, hg1, hg2, hsk, hsz, b', c', hcell, hc', hb1', hb2', hcs⟩ := HP.out m hlt
          rw [Nat.zero_add] at hcell
          have hcw : wr.cell? ⟨g, m, none⟩ = some (.slice (some ⟨b', 0, none⟩) s.size c') := hkm.out.cell (HKW.out.cell hcell (by show ¬ g = b; omega)) (by show ¬ (g = b ∨ w.heap.size + 1 ≤ g); omega)
          have hsw := cells_src (w := wr) (g := b') (l := s.data.toList) (fun i hi => hkm.out.cell (HKW.out.cell (hcs i hi) (by show ¬ b' = b; omega)) (by show ¬ (b' = b ∨ w.heap.size + 1 ≤ b'); omega))
          have hbl : (Lib.byteCells (Lib.uvarint T ++ jn (ss.take m))).length + s.size ≤ 140737488355328 ∧ 0 < (Lib.byteCells (Lib.uvarint T ++ jn (ss.take m))).length := by
            have h1 := HLS2.out m
            have h2 := uvarint_len3 (n := T) (by omega)
            have h3 := Lib.uvarint_pos T
            rw [Lib.byteCells_length, List.length_append]
            omega
          have HW := Lib.hid (bufWrite_row (w.heap.size + 1) b (Lib.byteCells (Lib.uvarint T ++ jn (ss.take m))) (Lib.byteCells s.data.toList) ⟨b', 0, none⟩ s.size c' wr hbm.out (by have := hkm.out.size; omega) (by omega) hbl.2 (Lib.byteCells_one _) (by rw [Lib.byteCells_length, ba_len]) (by show b' ≠ b; omega) (by show b' < w.heap.size + 1; omega) hsw (Lib.byteCells_one _) hbl.1)
          have HE := Lib.hid (jn_take ss m s hsk)
          clear hcell hcs hsw hbl hsk
          go_wp2_with (go_at_call 146; refine HW.out.mono ?_; rintro e w5 ⟨rfl, hbr, hk5⟩)
          go_roundw
          case rel => exact ⟨m + 1, by omega, by go_num, Lib.hid (by rw [HE.out, ← List.append_assoc, Lib.byteCells_append]; exact hbr), Lib.hid (hkm.out.trans hk5)⟩
          case measure => simp [intOf]; omega
        · obtain rfl : m = k := by omega
          have hall : ss.take m = ss := List.take_of_length_le (by rw [HN.out]; exact Nat.le_refl _)
          rw [hall] at hbm
          clear hall
          go_wp2
          go_ret
          rw [← HTT.out]
          exact ⟨rfl, ⟨w.heap.size + 1, by omega, hbm.out⟩, HKW.out.trans2 hkm.out (fun i hi h => by omega)⟩
end Go.Proofs.YthfgnhgijgjggaaDoor
/- Contracts of a reader over bytes, part 2: io.ReadAtLeast where the bytes end; io.ReadFull. -/
namespace Go.Proofs.YthfgnhgijgjggaaDoor
open Go.RowKit

set_option maxRecDepth 100000 in
set_option maxHeartbeats 1000000 in
theorem rdAtLeast_cut (p n c g K : Nat) (v : Value) (l : List UInt8) (i : Nat) (cur : List Value) (t : TypeId) (w : World) (hr : Rdr w p v l i) (hpg : p < g) (hg : w.heap[g]? = some (.cells cur.toArray t (0, 0))) (hn : cur.length = n) (hc : n ≤ c)
    (b1 : n ≤ 9223372036854775807) (hK : K = l.length - i) (hK0 : 0 < K) (hKn : K < n) (e0 e1 : Addr) (he : ErrAt p w 0 e0) (he1 : ErrAt p w 5 e1) :
    Calls Tryd.prog 107 #[rdV p, .slice (some ⟨g, 0, none⟩) n c, .int .i64 n] w fun e w' => e = .returned (.tuple #[.int .i64 K, errV e1]) ∧ Rdr w' p v l l.length ∧ Keep (fun k => k = p ∨ k = g) w w' := by
  have hL := hr.fits
  have hle := hr.le
  have HR := Lib.hid (rdRead_some p g 0 n c v l i cur t (some ⟨g, 0, none⟩) w.drew hr.drew (by omega) hpg hg (fun _ => rfl) (by omega))
  have hmin : min n (l.length - i) = K := by omega
  have hmin2 : i + K = l.length := by omega
  have HMIN := Lib.hid hmin
  have HMIN2 := Lib.hid hmin2
  have hsl := fun W => run_from (P := Tryd.prog) Tryd.underlying43 info_u8 (some ⟨g, 0, none⟩) n c 0 (by omega) W
  have hsl2 := fun W => run_from (P := Tryd.prog) Tryd.underlying43 info_u8 (some ⟨g, 0, none⟩) n c K (by omega) W
  rw [cutA_own _ _ _ _ (by omega), Nat.zero_add] at hsl2
  have hmf : ∀ (fn : Fn) (first cap : Array Value) (w : World), (Instr.makeFunc fn first cap).run Tryd.prog w = .ok (.func fn first cap) w := fun _ _ _ _ => rfl
  have hna := fun w => nil_rdRead ⟨p, 0, none⟩ w
  have hme := fun w => method_rdRead ⟨p, 0, none⟩ w
  have HE := Lib.hid he
  have HE1 := Lib.hid he1
  clear hr hg hn hmin hmin2 he he1 hL hle hK
  go_enter Tryd.func107, Tryd.ntmps107
  go_wp2
  refine wp_loop_rounds 3 ?_
  rw [rounds_succ]
  go_wp2_with fail
  go_region_with (go_at_call 141; refine HR.out.mono ?_; rw [HMIN.out, HMIN2.out]; rintro e w1 ⟨rfl, hr1, hg1, hk1⟩)
  have hk1' := (keep_drew (fun k => k = p ∨ k = g) w).trans hk1
  have q1 : ErrAt p w1 0 e0 := HE.out.keep hk1' (fun k h => by omega)
  have q2 : ErrAt p w1 5 e1 := HE1.out.keep hk1' (fun k h => by omega)
  have HR2 := Lib.hid (rdRead_end p (n - K) (c - K) v l l.length (some ⟨g, K, none⟩) w1.drew hr1.drew rfl e0 q1.drew)
  clear HR hg1 hk1
  go_wp2
  rw [rounds_succ]
  go_wp2_with fail
  go_region_with (go_at_call 141; refine HR2.out.mono ?_; rintro e w2 ⟨rfl, hk2⟩)
  have k1 : w2.cell? ⟨0, 0, none⟩ = _ := hk2.cell q1.drew.cell (fun h => h)
  have k2 : w2.cell? ⟨5, 0, none⟩ = _ := hk2.cell q2.drew.cell (fun h => h)
  have keq := run_eqErr_same e0
  go_wp2
  rw [rounds_succ]
  go_wp2
  go_ret2
  have hk3 : Keep (fun _ => False) w1 w2 := (keep_drew _ w1).trans hk2
  exact ⟨rfl, hr1.keep hk3 (fun _ h => h.elim), hk1'.trans (hk3.mono fun _ _ h => h.elim)⟩

set_option maxRecDepth 100000 in
set_option maxHeartbeats 1000000 in
theorem rdAtLeast_zero (p c : Nat) (A : Option Addr) (w : World) :
    Calls Tryd.prog 107 #[rdV p, .slice A 0 c, .int .i64 0] w fun e w' => e = .returned (.tuple #[.int .i64 0, .nilIface]) ∧ w' = w := by
  go_enter Tryd.func107, Tryd.ntmps107
  go_wp2
  refine wp_loop_rounds 1 ?_
  rw [rounds_succ]
  go_wp2
  go_ret2
  exact ⟨rfl, rfl⟩

/-- io.ReadFull where the bytes are there. -/
theorem rdFull_ok (p g n c : Nat) (v : Value) (l : List UInt8) (i : Nat) (cur : List Value) (t : TypeId) (w : World) (hr : Rdr w p v l i) (hpg : p < g)
    (hg : w.heap[g]? = some (.cells cur.toArray t (0, 0))) (hn : cur.length = n) (hi : i + n ≤ l.length) :
    Calls Tryd.prog 87 #[rdV p, .slice (some ⟨g, 0, none⟩) n c] w fun e w' => e = .returned (.tuple #[.int .i64 n, .nilIface]) ∧ Rdr w' p v l (i + n) ∧
      Hid (w'.heap[g]? = some (.cells (Lib.byteCells ((l.drop i).take n)).toArray t (0, 0))) ∧ Keep (fun k => k = p ∨ k = g) w w' := by
  rcases Nat.eq_zero_or_pos n with h0 | h0
  · subst h0
    have hcur : cur = [] := List.eq_nil_of_length_eq_zero hn
    subst hcur
    have HR := Lib.hid (rdAtLeast_zero p c (some ⟨g, 0, none⟩) w)
    have HR0 := Lib.hid hr
    have HG := Lib.hid hg
    clear hr hg hi hn
    go_enter Tryd.func87, Tryd.ntmps87
    go_wp2_with fail
    refine HR.out.mono ?_
    rintro e w1 ⟨rfl, rfl⟩
    go_wp2
    go_ret2
    exact ⟨rfl, HR0.out, HG, Keep.refl _ _⟩
  · have HR := Lib.hid (rdAtLeast_ok p g n c v l i cur t w hr hpg hg h0 hn hi)
    have hL := hr.fits
    have b1 : n ≤ 9223372036854775807 := by omega
    clear hr hg hi hn
    go_enter Tryd.func87, Tryd.ntmps87
    go_wp2_with fail
    refine HR.out.mono ?_
    rintro e w1 ⟨rfl, h1, h2, h3⟩
    go_wp2
    go_ret2
    exact ⟨rfl, h1, h2, h3⟩

/-- .. where they end: io.EOF where there is none, io.ErrUnexpectedEOF where there are too few. -/
theorem rdFull_short (p g n c K : Nat) (v : Value) (l : List UInt8) (i : Nat) (cur : List Value) (t : TypeId) (w : World) (hr : Rdr w p v l i) (hpg : p < g) (hg : w.heap[g]? = some (.cells cur.toArray t (0, 0))) (hn : cur.length = n) (hc : n ≤ c)
    (b1 : n ≤ 9223372036854775807) (hK : K = l.length - i) (hKn : K < n) (e0 e1 : Addr) (he : ErrAt p w 0 e0) (he1 : ErrAt p w 5 e1) :
    Calls Tryd.prog 87 #[rdV p, .slice (some ⟨g, 0, none⟩) n c] w fun e w' => e = .returned (.tuple #[.int .i64 K, errV (if K = 0 then e0 else e1)]) ∧ Rdr w' p v l l.length ∧ Keep (fun k => k = p ∨ k = g) w w' := by
  have hle := hr.le
  rcases Nat.eq_zero_or_pos K with h0 | h0
  · subst h0
    have hi : i = l.length := by omega
    subst hi
    have HR := Lib.hid (rdAtLeast_end p n c g v l _ w hr hKn b1 rfl e0 he)
    have HR0 := Lib.hid hr
    clear hr hg hn he he1 hK hle
    go_enter Tryd.func87, Tryd.ntmps87
    go_wp2_with fail
    refine HR.out.mono ?_
    rintro e w1 ⟨rfl, hk⟩
    go_wp2
    go_ret2
    exact ⟨rfl, HR0.out.keep hk (fun _ h => h.elim), hk.mono fun _ _ h => h.elim⟩
  · have HR := Lib.hid (rdAtLeast_cut p n c g K v l i cur t w hr hpg hg hn hc b1 hK h0 hKn e0 e1 he he1)
    rw [if_neg (by omega)]
    clear hr hg hn he he1 hK hle
    go_enter Tryd.func87, Tryd.ntmps87
    go_wp2_with fail
    refine HR.out.mono ?_
    rintro e w1 ⟨rfl, h1, h2⟩
    go_wp2
    go_ret2
    exact ⟨rfl, h1, h2⟩

/-- bytes.NewReader: a new block. -/
theorem newReader (v : Value) (l : List UInt8) (w : World) (hv : BS w v l) (hL : l.length ≤ 9223372036854775807) :
    Calls Tryd.prog 49 #[v] w fun e w' => e = .returned (.pointer (some ⟨w.heap.size, 0, none⟩)) ∧ Rdr w' w.heap.size v l 0 ∧ w'.heap.size = w.heap.size + 1 ∧ Below w.heap.size w w' := by
  have hb : BSo (fun k => w.heap.size ≤ k) w v l := by
    refine ⟨hv, fun h0 A n c a e1 e2 => ?_⟩
    obtain ⟨A', c', e3, _, hcl⟩ := hv
    obtain ⟨b, o, e4, hcl⟩ := hcl h0
    have h1 := block_of_cell (hcl 0 h0)
    rw [e1] at e3
    injection e3 with e3
    rw [← e3, e2] at e4
    injection e4 with e4
    rw [e4]
    exact Nat.not_le.2 h1
  obtain ⟨A, c, rfl, _, hcl⟩ := hv
  have HB := Lib.hid hb
  clear hcl hb
  go_enter Tryd.func49, Tryd.ntmps49
  go_wp2
  go_ret
  have hbel : Below w.heap.size w (w.alloc (.cells #[.slice A l.length c, .int .i64 0, .int .i64 (-1)] 163)) := (Below.refl _ _).alloc (Nat.le_refl _) _
  exact ⟨rfl, ⟨⟨-1, heap_alloc_new _ _⟩, HB.out.keep (S := fun k => w.heap.size ≤ k) hbel.keep, Nat.zero_le _, hL⟩, by simp, hbel⟩
end Go.Proofs.YthfgnhgijgjggaaDoor
/- Contracts: (*bytes.Reader).ReadByte. -/
namespace Go.Proofs.YthfgnhgijgjggaaDoor
open Go.RowKit

set_option maxRecDepth 100000 in
set_option maxHeartbeats 1000000 in
/-- A byte that is there is read. -/
theorem rdByte_some (p : Nat) (v : Value) (l : List UInt8) (i : Nat) (w : World) (hr : Rdr w p v l i) (hi : i < l.length) :
    Calls Tryd.prog 142 #[.pointer (some ⟨p, 0, none⟩)] w fun e w' => e = .returned (.tuple #[.int .u8 (l[i].toNat), .nilIface]) ∧ Rdr w' p v l (i + 1) ∧ Keep (fun k => k = p) w w' := by
  obtain ⟨⟨r, hrow⟩, hbs, hle, hfits⟩ := hr
  have HB := Lib.hid hbs
  obtain ⟨⟨A0, c0, rfl, hc0, hcl⟩, hout⟩ := hbs
  obtain ⟨b, o, rfl, hcl2⟩ := hcl (by omega)
  have hbp : ¬ p ≤ b := hout (by omega) _ _ _ _ rfl rfl
  have f2 : w.frozen? ⟨p, 2, none⟩ = false := frozen_of_row' (cur := [_, _, _]) hrow 2
  have h2 : w.cell? ⟨p, 2, none⟩ = some (.int .i64 r) := by rw [cell_of_row' (cur := [_, _, _]) hrow]; rfl
  have hcell := hcl2 i hi
  have k1 : Keep (fun k => k = p) w (w.setCell ⟨p, 2, none⟩ (.int .i64 (-1))) := Keep.setCell (S := fun k => k = p) (Keep.refl _ w) (show p = p from rfl) _ _
  have hrow2 := Lib.heap_setCell_same (i := 2) (w := w) hrow (.int .i64 (-1))
  obtain ⟨B, hB⟩ : ∃ B, B = l[i].toNat := ⟨_, rfl⟩
  rw [← hB] at hcell ⊢
  obtain ⟨N, hN⟩ : ∃ N, N = l.length := ⟨_, rfl⟩
  have HN := Lib.hid hN
  rw [← hN] at hi hfits
  clear hB hN hcl hcl2 hout hle hc0 hrow
  go_enter Tryd.func142, Tryd.ntmps142
  go_wp2
  generalize w.setCell ⟨p, 2, none⟩ (.int .i64 (-1)) = w2 at k1 hrow2 ⊢
  have hrow3 : w2.heap[p]? = some (.cells #[.slice (some ⟨b, o, none⟩) l.length c0, .int .i64 i, .int .i64 (-1)] 163 (0, 0)) := hrow2
  rw [← HN.out] at hrow3
  have h0 : w2.cell? ⟨p, 0, none⟩ = some (.slice (some ⟨b, o, none⟩) N c0) := by rw [cell_of_row' (cur := [_, _, _]) hrow3]; rfl
  have h1 : w2.cell? ⟨p, 1, none⟩ = some (.int .i64 i) := by rw [cell_of_row' (cur := [_, _, _]) hrow3]; rfl
  have f1 : w2.frozen? ⟨p, 1, none⟩ = false := frozen_of_row' (cur := [_, _, _]) hrow3 1
  have hc2 : w2.cell? ⟨b, o + i, none⟩ = some (.int .u8 B) := k1.cell hcell (by show ¬ b = p; omega)
  have HROW := Lib.hid hrow3
  clear hrow2 hrow3 f2 h2 hcell
  go_quiet (fail)
  go_wp2
  go_quiet (fail)
  go_wp2
  go_ret2
  refine ⟨rfl, ⟨⟨-1, ?_⟩, ?_, ?_, ?_⟩, ?_⟩
  · have h := Lib.heap_setCell_same (i := 1) HROW.out (.int .i64 ((i : Int) + 1))
    rw [← HN.out]
    exact h
  · exact HB.out.keep (Keep.setCell (S := fun k => p ≤ k) ((k1.mono fun _ _ h => by omega).drewN _) (Nat.le_refl p) _ _)
  · rw [← HN.out]; omega
  · rw [← HN.out]; exact hfits
  · exact Keep.setCell (S := fun k => k = p) (k1.drewN _) (show p = p from rfl) _ _

set_option maxRecDepth 100000 in
set_option maxHeartbeats 1000000 in
/-- Behind the last byte the end is told. -/
theorem rdByte_end (p : Nat) (v : Value) (l : List UInt8) (i : Nat) (w : World) (hr : Rdr w p v l i) (hi : i = l.length) (e0 : Addr) (he : ErrAt p w 0 e0) :
    Calls Tryd.prog 142 #[.pointer (some ⟨p, 0, none⟩)] w fun e w' => e = .returned (.tuple #[.int .u8 0, errV e0]) ∧ Rdr w' p v l i ∧ Keep (fun k => k = p) w w' := by
  obtain ⟨⟨r, hrow⟩, hbs, hle, hfits⟩ := hr
  have HB := Lib.hid hbs
  obtain ⟨⟨A0, c0, rfl, hc0, hcl⟩, hout⟩ := hbs
  have f2 : w.frozen? ⟨p, 2, none⟩ = false := frozen_of_row' (cur := [_, _, _]) hrow 2
  have h2 : w.cell? ⟨p, 2, none⟩ = some (.int .i64 r) := by rw [cell_of_row' (cur := [_, _, _]) hrow]; rfl
  have k1 : Keep (fun k => k = p) w (w.setCell ⟨p, 2, none⟩ (.int .i64 (-1))) := Keep.setCell (S := fun k => k = p) (Keep.refl _ w) (show p = p from rfl) _ _
  have hrow2 := Lib.heap_setCell_same (i := 2) (w := w) hrow (.int .i64 (-1))
  have he2 := (he.keep k1 (fun k hk => by omega)).cell
  clear hcl hout hc0 hrow he
  go_enter Tryd.func142, Tryd.ntmps142
  go_wp2
  generalize w.setCell ⟨p, 2, none⟩ (.int .i64 (-1)) = w2 at k1 hrow2 he2 ⊢
  have hrow3 : w2.heap[p]? = some (.cells #[.slice A0 l.length c0, .int .i64 i, .int .i64 (-1)] 163 (0, 0)) := hrow2
  have h0 : w2.cell? ⟨p, 0, none⟩ = some (.slice A0 l.length c0) := by rw [cell_of_row' (cur := [_, _, _]) hrow3]; rfl
  have h1 : w2.cell? ⟨p, 1, none⟩ = some (.int .i64 i) := by rw [cell_of_row' (cur := [_, _, _]) hrow3]; rfl
  have HROW := Lib.hid hrow3
  clear hrow2 hrow3 f2 h2
  go_quiet (fail)
  go_wp2
  go_quiet (fail)
  go_wp2
  go_ret2
  exact ⟨rfl, ⟨⟨-1, HROW.out⟩, HB.out.keep (S := fun k => p ≤ k) (((k1.mono fun _ _ h => by omega).drewN _).drewN _), by omega, hfits⟩, (k1.drewN _).drewN _⟩
end Go.Proofs.YthfgnhgijgjggaaDoor
/- Contracts: varint.ReadUvarint over a reader of bytes. -/
namespace Go.Proofs.YthfgnhgijgjggaaDoor
open Go.RowKit

theorem nil_rdByte (a : Addr) (w : World) : (nilAhead 359 99 (.pointer (some a)) "ReadByte").run Tryd.prog w = .ok (some false) w := by kernel_rfl
theorem method_rdByte (a : Addr) (w : World) : (method 359 99 (.pointer (some a)) "ReadByte").run Tryd.prog w = .ok (142, .pointer (some a)) w := by kernel_rfl

/-- How ReadUvarint answers. -/
def UvR.rd (E1 E2 E3 : Value) : UvR → Value
  | .ok x _ => .tuple #[.int .u64 x, .nilIface]
  | .over => .tuple #[.int .u64 0, E1]
  | .notMin => .tuple #[.int .u64 0, E2]
  | .under => .tuple #[.int .u64 0, E3]
def UvR.at_ (i : Nat) : UvR → Nat → Prop
  | .ok _ m, j => j = i + m
  | _, _ => True

/-- The errors that ReadUvarint gives, below B. -/
structure UvErrs (B : Nat) (w : World) (e0 e1 : Addr) (E2 E3 : Value) : Prop where
  eof : ErrAt B w 0 e0
  unex : ErrAt B w 5 e1
  over : w.cell? ⟨2, 0, none⟩ = some E2
  lt2 : 2 < B
  notMin : w.cell? ⟨3, 0, none⟩ = some E3
  lt3 : 3 < B
theorem UvErrs.keep {B : Nat} {S : Nat → Prop} {w w' : World} {e0 e1 : Addr} {E2 E3 : Value} (h : UvErrs B w e0 e1 E2 E3) (hk : Keep S w w') (hS : ∀ k, S k → B ≤ k) : UvErrs B w' e0 e1 E2 E3 :=
  ⟨h.eof.keep hk hS, h.unex.keep hk hS, hk.cell h.over (fun hh => absurd (hS _ hh) (Nat.not_le.2 h.lt2)), h.lt2, hk.cell h.notMin (fun hh => absurd (hS _ hh) (Nat.not_le.2 h.lt3)), h.lt3⟩
theorem UvErrs.mono {B C : Nat} {w : World} {e0 e1 : Addr} {E2 E3 : Value} (h : UvErrs B w e0 e1 E2 E3) (hB : B ≤ C) : UvErrs C w e0 e1 E2 E3 :=
  ⟨h.eof.mono hB, h.unex.mono hB, h.over, Nat.lt_of_lt_of_le h.lt2 hB, h.notMin, Nat.lt_of_lt_of_le h.lt3 hB⟩

set_option maxRecDepth 100000 in
set_option maxHeartbeats 4000000 in
theorem readUv (p : Nat) (v : Value) (l : List UInt8) (i : Nat) (w : World) (hr : Rdr w p v l i) (e0 e1 : Addr) (t2 t3 : TypeId) (p2 p3 : Value) (he : UvErrs p w e0 e1 (.iface t2 p2) (.iface t3 p3)) :
    Calls Tryd.prog 83 #[rdV p] w fun e w' =>
      e = .returned ((uvDec (l.drop i)).rd (.iface t2 p2) (.iface t3 p3) (if i = l.length then errV e0 else errV e1)) ∧ (∃ j, (uvDec (l.drop i)).at_ i j ∧ Rdr w' p v l j) ∧ Keep (fun k => k = p) w w' := by
  have hna := fun w => nil_rdByte ⟨p, 0, none⟩ w
  have hme := fun w => method_rdByte ⟨p, 0, none⟩ w
  have hmf : ∀ (fn : Fn) (first cap : Array Value) (w : World), (Instr.makeFunc fn first cap).run Tryd.prog w = .ok (.func fn first cap) w := fun _ _ _ _ => rfl
  have heq := fun w => run_eqErr_same e0 w
  obtain ⟨hi0, hf0⟩ : i ≤ l.length ∧ l.length ≤ 9223372036854775807 := ⟨hr.le, hr.fits⟩
  have HR0 := Lib.hid hr
  have HE0 := Lib.hid he
  clear hr he
  go_enter Tryd.func83, Tryd.ntmps83
  go_wp2
  go_loopw [4, 5] (fun x s wr => ∃ (k X : Nat), i + k ≤ l.length ∧ k ≤ 9 ∧ X < 2 ^ (7 * k) ∧ s = .int .u64 (7 * k : Nat) ∧ x = .int .u64 X ∧ Hid (uvDec (l.drop i) = uvGo k X (l.drop (i + k))) ∧ Hid (Rdr wr p v l (i + k)) ∧ Keep (fun k => k = p) w wr) (fun _ s _ => 70 - (intOf s).toNat)
  case atStart => exact ⟨0, 0, by omega, by omega, by decide, rfl, rfl, Lib.hid rfl, HR0, Keep.refl _ _⟩
  case round =>
    obtain ⟨k, X, hk, hk10, hX, rfl, rfl, hd, HR, hkw⟩ := hrel
    have HE := Lib.hid (HE0.out.keep hkw (fun k hk => by omega))
    by_cases hlt : i + k < l.length
    · have HB := Lib.hid (rdByte_some p v l (i + k) wr HR.out hlt)
      have hb : l[i + k].toNat < 256 := UInt8.toNat_lt _
      obtain ⟨B, hB⟩ : ∃ B, B = l[i + k].toNat := ⟨_, rfl⟩
      rw [← hB] at HB hb
      have HBB := Lib.hid hB
      clear hB
      have hstep : uvGo k X (l.drop (i + k)) = (if (k = 8 ∧ 128 ≤ B) ∨ 9 ≤ k then .over
          else if B < 128 then (if B = 0 ∧ 0 < k then .notMin else .ok (X + B * 2 ^ (7 * k)) (k + 1))
          else uvGo (k + 1) (X + (B % 128) * 2 ^ (7 * k)) (l.drop (i + k + 1))) := by
        rw [List.drop_eq_getElem_cons hlt, uvGo, ← HBB.out]
      clear HBB
      go_wp2_with fail
      refine HB.out.mono ?_
      rintro e w1 ⟨rfl, hr1, hk1⟩
      have hkw1 := hkw.trans hk1
      have HE1 := HE.out.keep hk1 (fun k hk => by omega)
      have hc2 := HE1.over
      have hc3 := HE1.notMin
      have HR1 := Lib.hid hr1
      clear hr1 hk1 HE1 HB
      by_cases h9 : k = 9
      · subst h9
        have hfin : Hid (uvDec (l.drop i) = .over) := Lib.hid (by rw [hd.out, hstep, if_pos (Or.inr (by omega))])
        clear hd hstep
        go_wp2
        go_quiet (fail)
        go_wp2
        go_ret2
        exact ⟨by rw [hfin.out]; rfl, ⟨_, by rw [hfin.out]; trivial, HR1.out.keep (keep_drewN (fun _ => False) _ _) (fun _ h => h.elim)⟩, hkw1.drewN _⟩
      by_cases hge : 128 ≤ B
      · by_cases h8 : k = 8
        · subst h8
          have hfin : Hid (uvDec (l.drop i) = .over) := Lib.hid (by rw [hd.out, hstep, if_pos (Or.inl ⟨rfl, hge⟩)])
          clear hd hstep
          go_wp2
          go_quiet (fail)
          go_wp2
          go_ret2
          exact ⟨by rw [hfin.out]; rfl, ⟨_, by rw [hfin.out]; trivial, HR1.out.keep (keep_drewN (fun _ => False) _ _) (fun _ h => h.elim)⟩, hkw1.drewN _⟩
        · have hfin : Hid (uvDec (l.drop i) = uvGo (k + 1) (X + (B % 128) * 2 ^ (7 * k)) (l.drop (i + k + 1))) := Lib.hid (by
            rw [hd.out, hstep, if_neg (by omega), if_neg (by omega)])
          clear hd hstep
          have hk8 : ((7 * k : Nat) : Int) < 56 := by omega
          have hor := Lib.hid (uv_or_and k X B (by omega) hX hb)
          have hlt2 := uv_step_lt k X (B % 128) hX (by omega)
          go_wp2
          exact ⟨⟨k + 1, X + B % 128 * 2 ^ (7 * k), by omega, by omega, hlt2, by go_num, by rw [hor.out], hfin, HR1, hkw1⟩, by simp [intOf]; omega⟩
      · by_cases hz : B = 0 ∧ 0 < k
        · obtain ⟨rfl, hz⟩ := hz
          have hfin : Hid (uvDec (l.drop i) = .notMin) := Lib.hid (by rw [hd.out, hstep, if_neg (by omega), if_pos (by omega), if_pos ⟨rfl, hz⟩])
          clear hd hstep
          have hk9' : ((7 * k : Nat) : Int) < 63 := by omega
          by_cases hk8 : k = 8
          · subst hk8
            go_wp2
            go_quiet (fail)
            go_wp2
            go_ret2
            exact ⟨by rw [hfin.out]; rfl, ⟨_, by rw [hfin.out]; trivial, HR1.out.keep (keep_drewN (fun _ => False) _ _) (fun _ h => h.elim)⟩, hkw1.drewN _⟩
          · have hk8' : (((7 * k : Nat) : Int) == 56) = false := by simp; omega
            go_wp2
            go_quiet (fail)
            go_wp2
            go_ret2
            exact ⟨by rw [hfin.out]; rfl, ⟨_, by rw [hfin.out]; trivial, HR1.out.keep (keep_drewN (fun _ => False) _ _) (fun _ h => h.elim)⟩, hkw1.drewN _⟩
        · have hfin : Hid (uvDec (l.drop i) = .ok (X + B * 2 ^ (7 * k)) (k + 1)) := Lib.hid (by rw [hd.out, hstep, if_neg (by omega), if_pos (by omega), if_neg hz])
          have hor := Lib.hid (uv_or k X B (by omega) hX (by omega))
          clear hd hstep
          have hk9' : ((7 * k : Nat) : Int) < 63 := by omega
          by_cases hB0 : B = 0
          · subst hB0
            have hk0 : k = 0 := by omega
            subst hk0
            have hfin' : Hid (uvDec (l.drop i) = .ok X 1) := Lib.hid (by rw [hfin.out]; simp)
            clear hor hfin
            have hor0 : Hid (bits .or .u64 (X : Int) 0 = (X : Nat)) := Lib.hid (by rw [u64_orv0 _ _ (by omega) (by omega) (by omega) (by omega) (by omega)]; omega)
            go_wp2
            go_ret2
            exact ⟨by rw [hfin'.out, hor0.out]; rfl, ⟨_, by rw [hfin'.out]; exact rfl, HR1.out⟩, hkw1⟩
          · have hB0' : ((B : Int) == 0) = false := by simp; omega
            by_cases hk8 : k = 8
            · subst hk8
              have hor8 : Hid (bits .or .u64 (X : Int) ((B : Int) * 72057594037927936) = ((X + B * 2 ^ (7 * 8) : Nat) : Int)) := Lib.hid (by
                rw [← hor.out, IntWalk.u64_in _ (by omega)]; rfl)
              clear hor
              go_wp2
              go_ret2
              exact ⟨by rw [hfin.out, hor8.out]; rfl, ⟨_, by rw [hfin.out]; exact rfl, HR1.out⟩, hkw1⟩
            · have hk8' : (((7 * k : Nat) : Int) == 56) = false := by simp; omega
              go_wp2
              go_ret2
              exact ⟨by rw [hfin.out, hor.out]; rfl, ⟨_, by rw [hfin.out]; exact rfl, HR1.out⟩, hkw1⟩
    · have hkn : i + k = l.length := by omega
      have hfin : Hid (uvDec (l.drop i) = .under) := Lib.hid (by rw [hd.out, hkn, List.drop_length]; rfl)
      have HB := Lib.hid (rdByte_end p v l (i + k) wr HR.out hkn e0 HE.out.eof)
      clear hd
      go_wp2_with fail
      refine HB.out.mono ?_
      rintro e w1 ⟨rfl, hr1, hk1⟩
      have hkw1 := hkw.trans hk1
      have HE1 := HE.out.keep hk1 (fun k hk => by omega)
      have hc1 := HE1.eof.cell
      have hc4 := HE1.unex.cell
      have HR1 := Lib.hid hr1
      clear hr1 hk1 HE1 HB
      by_cases hk0 : k = 0
      · subst hk0
        have hil : i = l.length := by omega
        clear hkn hlt hk
        go_wp2
        go_ret2
        exact ⟨rfl, ⟨_, trivial, HR1.out⟩, hkw1⟩
      · have hk0' : (((7 * k : Nat) : Int) == 0) = false := by simp; omega
        have hil : ¬ i = l.length := by omega
        go_wp2
        go_ret2
        exact ⟨by rw [hfin.out]; rfl, ⟨_, by rw [hfin.out]; trivial, HR1.out⟩, hkw1⟩
end Go.Proofs.YthfgnhgijgjggaaDoor
