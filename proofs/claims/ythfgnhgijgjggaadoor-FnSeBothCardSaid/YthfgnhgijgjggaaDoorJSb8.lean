/- Contracts, joined (LwB SeC SeD SeE SeF). -/
import Derived.Test.YthfgnhgijgjggaaDoorJSb2
import Derived.Test.YthfgnhgijgjggaaDoorJSb4
import Derived.Test.YthfgnhgijgjggaaDoorJSb5
import Derived.Test.YthfgnhgijgjggaaDoorJSb7
import Derived.Deep.RegionWith
import Derived.Deep.RegionLaw
import Derived.Deep.AppendLies
/- Contracts: a bytes.Buffer whose row's place is told: grow, Write. -/
namespace Go.Proofs.YthfgnhgijgjggaaDoor
open Go.RowKit

/-- A buffer in block b to which nothing has been written. -/
def BufNil (w : World) (b : Nat) : Prop := ∃ lr : Int, w.heap[b]? = some (.cells #[.slice none 0 0, .int .i64 0, .int .i8 lr] 108 (0, 0))

/-- A buffer in block b that holds the bytes bs, in a row from block N on; n cells more stand behind them. -/
def BufAt (w : World) (N b : Nat) (bs : List Value) (n : Nat) : Prop :=
  ∃ (g cap : Nat) (cur : Array Value) (lr : Int), w.heap[b]? = some (.cells #[.slice (some ⟨g, 0, none⟩) (bs.length + n) cap, .int .i64 0, .int .i8 lr] 108 (0, 0)) ∧ N ≤ g ∧ g ≠ b ∧
    w.heap[g]? = some (.cells cur 5 (0, 0)) ∧ bs.length + n ≤ cap ∧ cap ≤ maxLen ∧ cur.size = cap ∧ cur.toList.take bs.length = bs
abbrev BufRow (w : World) (N b : Nat) (bs : List Value) : Prop := BufAt w N b bs 0

theorem bufSet3 {w : World} {b : Nat} {x y z : Value} {t : TypeId} (h : w.heap[b]? = some (.cells #[x, y, z] t (0, 0))) (v : Value) : (w.setCell ⟨b, 0, none⟩ v).heap[b]? = some (.cells #[v, y, z] t (0, 0)) := by
  have := Lib.heap_setCell_same (i := 0) h v
  simpa using this
theorem bufSet3b {w : World} {b : Nat} {x y z : Value} {t : TypeId} (h : w.heap[b]? = some (.cells #[x, y, z] t (0, 0))) (v : Value) : (w.setCell ⟨b, 1, none⟩ v).heap[b]? = some (.cells #[x, v, z] t (0, 0)) := by
  have := Lib.heap_setCell_same (i := 1) h v
  simpa using this
theorem bufSet3c {w : World} {b : Nat} {x y z : Value} {t : TypeId} (h : w.heap[b]? = some (.cells #[x, y, z] t (0, 0))) (v : Value) : (w.setCell ⟨b, 2, none⟩ v).heap[b]? = some (.cells #[x, y, v] t (0, 0)) := by
  have := Lib.heap_setCell_same (i := 2) h v
  simpa using this

set_option maxRecDepth 100000 in
set_option maxHeartbeats 4000000 in
theorem bufGrow_nil (b n : Nat) (lr : Int) (w : World) (hbk : w.heap[b]? = some (.cells #[.slice none 0 0, .int .i64 0, .int .i8 lr] 108 (0, 0))) (hn : 1 ≤ n) (h64 : n ≤ 64) :
    Calls Tryd.prog 149 #[.pointer (some ⟨b, 0, none⟩), .int .i64 n] w fun e w' => e = .returned (.int .i64 0) ∧ BufAt w' w.heap.size b [] n ∧ Keep (fun k => k = b) w w' := by
  obtain ⟨i0, hi, hz0, hz1, hz2⟩ := info_u8p
  obtain ⟨M, hM⟩ : ∃ M, M = madeCells (Value.int .u8 0).cells ((64 : Int).toNat * i0.size) := ⟨_, rfl⟩
  have hMs : M.size = 64 := by rw [hM, size_madeCells, hz1]; rfl
  have hmk : ∀ W : World, (Instr.makeSlice 43 (.int .i64 (n : Int)) (.int .i64 64)).run Tryd.prog W = .ok (.slice (some ⟨W.heap.size, 0, none⟩) n 64) (W.alloc (.cells M 5)) := fun W => by
    have h := run_makeSlice (P := Tryd.prog) W 43 5 i0 (.int .u8 0) Tryd.underlying43 hi hz0 .i64 .i64 (n : Int) 64 (by omega) (by omega) (by rw [hz1]; decide) (by rw [hz2]; decide) (by decide)
    rw [← hM] at h
    simpa using h
  clear hM hi hz0 hz1 hz2
  have hIs : Lib.IsBuffer 108 5 0 b [] w := ⟨Nat.zero_le _, _, _, hbk, World.ownsRow_nil _ _ _ _, by simp [Value.ownBlock]⟩
  have hnil : ∀ W, (binOp .eql 43 (.slice none 0 0) (.slice none 0 0)).run Tryd.prog W = .ok (.bool true) W := fun W => Lib.run_eql_slice_nil_nil W _ _ Tryd.underlying43
  have HL := Lib.hid (Tryd.Buffer_Len 0 b [] w hIs)
  have hbw := block_of_row hbk
  have HB := Lib.hid hbk
  clear hIs hbk
  go_enter Tryd.func149, Tryd.ntmps149
  go_wp2_with fail
  refine HL.out.mono ?_
  rintro e W0 ⟨rfl, k, hW0⟩
  have hbk0 : W0.heap[b]? = some (.cells #[.slice none 0 0, .int .i64 0, .int .i8 lr] 108 (0, 0)) := by rw [hW0]; exact HB.out
  have hsz : W0.heap.size = w.heap.size := by rw [hW0]; rfl
  have hk0 : Keep (fun k => k = b) w W0 := by rw [hW0]; exact keep_drewN _ _ _
  have c0 : W0.cell? ⟨b, 0, none⟩ = some (.slice none 0 0) := by rw [Lib.cell_of_heap hbk0]; rfl
  have c1 : W0.cell? ⟨b, 1, none⟩ = some (.int .i64 0) := by rw [Lib.cell_of_heap hbk0]; rfl
  have f0 : W0.frozen? ⟨b, 0, none⟩ = false := Lib.frozen_of_heap hbk0 0
  have hbW0 := Lib.lt_of_heap hbk0
  have c0a : ∀ o, (W0.alloc o).cell? ⟨b, 0, none⟩ = some (.slice none 0 0) := fun o => (World.cell?_of_block (a := ⟨b, 0, none⟩) (Below.heap_alloc W0 o b hbW0)).trans c0
  have f0a : ∀ o, (W0.alloc o).frozen? ⟨b, 0, none⟩ = false := fun o => (World.frozen?_of_block (a := ⟨b, 0, none⟩) (Below.heap_alloc W0 o b hbW0)).trans f0
  have HSZ := Lib.hid hsz
  have HB0 := Lib.hid hbk0
  have HT := Lib.hid (Tryd.Buffer_tryGrow_none b none 0 0 n W0 c0 (Nat.le_refl _) (Nat.zero_le _) (by omega))
  clear hW0 hsz hbk0
  go_wp2_with (go_at_call 148; refine HT.out.mono ?_; rintro e w' ⟨rfl, rfl⟩)
  go_ret
  have hset := bufSet3 HB0.out (.slice (some ⟨w'.heap.size, 0, none⟩) n 64)
  have hssz : (w'.setCell ⟨b, 0, none⟩ (.slice (some ⟨w'.heap.size, 0, none⟩) n 64)).heap.size = w'.heap.size := by simp [World.setCell]
  refine ⟨rfl, ⟨w'.heap.size, 64, M, lr, ?_, by rw [HSZ.out]; exact Nat.le_refl _, by omega, ?_, by simpa using h64, by decide, hMs, by simp⟩, ?_⟩
  · have := (Below.heap_alloc (w'.setCell ⟨b, 0, none⟩ (.slice (some ⟨w'.heap.size, 0, none⟩) n 64)) (.cells M 5) b (by rw [hssz]; exact hbW0)).trans hset
    simpa using this
  · have := heap_alloc_new (w'.setCell ⟨b, 0, none⟩ (.slice (some ⟨w'.heap.size, 0, none⟩) n 64)) (.cells M 5)
    rw [hssz] at this
    exact this
  · exact (hk0.setCell rfl _ _).alloc _

set_option maxRecDepth 100000 in
set_option maxHeartbeats 8000000 in
theorem bufGrow_row (b g l cap n : Nat) (lr : Int) (cur : Array Value) (bs : List Value) (w : World)
    (hbk : w.heap[b]? = some (.cells #[.slice (some ⟨g, 0, none⟩) l cap, .int .i64 0, .int .i8 lr] 108 (0, 0))) (hl : bs.length = l) (hl0 : 0 < l)
    (hg : w.heap[g]? = some (.cells cur 5 (0, 0))) (hlc : l ≤ cap) (hcm : cap ≤ maxLen) (hcs : cur.size = cap) (htake : cur.toList.take l = bs) (hgb : g ≠ b)
    (h1 : ∀ v ∈ bs, v.oneCell' = true) (hn : 1 ≤ n) (hroom : cap - l < n) (hlim : l + n ≤ 140737488355328) :
    Calls Tryd.prog 149 #[.pointer (some ⟨b, 0, none⟩), .int .i64 n] w fun e w' => e = .returned (.int .i64 l) ∧ BufAt w' w.heap.size b bs n ∧ Keep (fun k => k = b) w w' := by
  have hIs : Lib.IsBuffer 108 5 0 b bs w := ⟨Nat.zero_le _, _, _, hbk, ⟨by rw [hl, Nat.mul_one], .inr ⟨g, cap, cur, by rw [hl], Nat.zero_le _, hg, by omega, hcm, by omega, by rw [hl, Nat.mul_one]; exact htake⟩⟩, by simp [Value.ownBlock]; exact hgb⟩
  have hnil : ∀ W, (binOp .eql 43 (.slice (some ⟨g, 0, none⟩) l cap) (.slice none 0 0)).run Tryd.prog W = .ok (.bool false) W := fun W => Lib.run_eql_slice_some_nil W _ _ _ Tryd.underlying43
  have HL := Lib.hid (Tryd.Buffer_Len 0 b bs w hIs)
  rw [hl] at HL
  have hbw := block_of_row hbk
  have HB := Lib.hid hbk
  have HG := Lib.hid hg
  have hcm' := hcm
  unfold maxLen at hcm'
  have hc2 : cap ≤ 140737488355328 := by omega
  have h1' : ∀ v ∈ cur.toList.take l, v.oneCell' = true := by rw [htake]; exact h1
  have HT1 := Lib.hid h1'
  have HCS := Lib.hid hcs
  have HTK := Lib.hid htake
  have HLL := Lib.hid hl
  have hwn : IntKind.i64.wrap (n : Int) = n := by rw [IntKind.wrap_i64]; omega
  clear hIs hbk hg h1' hcs htake h1 hl
  go_enter Tryd.func149, Tryd.ntmps149
  go_wp2_with fail
  refine HL.out.mono ?_
  rintro e W0 ⟨rfl, k, hW0⟩
  have hbk0 : W0.heap[b]? = some (.cells #[.slice (some ⟨g, 0, none⟩) l cap, .int .i64 0, .int .i8 lr] 108 (0, 0)) := by rw [hW0]; exact HB.out
  have hg0 : W0.heap[g]? = some (.cells cur 5 (0, 0)) := by rw [hW0]; exact HG.out
  have hsz : W0.heap.size = w.heap.size := by rw [hW0]; rfl
  have hk0 : Keep (fun k => k = b) w W0 := by rw [hW0]; exact keep_drewN _ _ _
  have c0 : W0.cell? ⟨b, 0, none⟩ = some (.slice (some ⟨g, 0, none⟩) l cap) := by rw [Lib.cell_of_heap hbk0]; rfl
  have c1 : W0.cell? ⟨b, 1, none⟩ = some (.int .i64 0) := by rw [Lib.cell_of_heap hbk0]; rfl
  have f0 : W0.frozen? ⟨b, 0, none⟩ = false := Lib.frozen_of_heap hbk0 0
  have f1 : W0.frozen? ⟨b, 1, none⟩ = false := Lib.frozen_of_heap hbk0 1
  have hbW := Lib.lt_of_heap hbk0
  have HSZ := Lib.hid hsz
  have HB0 := Lib.hid hbk0
  have HG0 := Lib.hid hg0
  have HT := Lib.hid (Tryd.Buffer_tryGrow_none b (some ⟨g, 0, none⟩) l cap n W0 c0 hlc hcm hroom)
  clear hW0 hsz hbk0 hg0 HB HG hcm
  go_wp2_with (go_at_call 148; refine HT.out.mono ?_; rintro e w' ⟨rfl, rfl⟩)
  have HS := Lib.hid (Tryd.bytes_growSlice_row g l cap n cur w'.drew HG0.out HCS.out hlc hn hlim hc2 HT1.out)
  go_region_with (
      go_at_call 151
      refine HS.out.mono ?_
      rintro e w2 ⟨cap2, cells, rfl, hN, hcsz, htk, hcap2, hcm2, hbel⟩
      have hbk2 : w2.heap[b]? = some (.cells #[.slice (some ⟨g, 0, none⟩) l cap, .int .i64 0, .int .i8 lr] 108 (0, 0)) := (hbel.block b hbW).trans HB0.out
      have d0 : w2.cell? ⟨b, 0, none⟩ = some (.slice (some ⟨g, 0, none⟩) l cap) := by rw [Lib.cell_of_heap hbk2]; rfl
      have d1 : w2.cell? ⟨b, 1, none⟩ = some (.int .i64 0) := by rw [Lib.cell_of_heap hbk2]; rfl
      have e0 : w2.frozen? ⟨b, 0, none⟩ = false := Lib.frozen_of_heap hbk2 0
      have e1 : w2.frozen? ⟨b, 1, none⟩ = false := Lib.frozen_of_heap hbk2 1
      have HB2 := Lib.hid hbk2
      have HN2 := Lib.hid hN
      have HTK2 := Lib.hid htk
      have HCS2 := Lib.hid hcsz
      have hcm3 : cap2 ≤ 9223372036854775807 := hcm2
      clear hbk2 hN htk hcsz)
  all_goals (
    go_wp2
    go_ret
    have e3 := bufSet3 (bufSet3b (bufSet3 HB2.out (.slice (some ⟨w'.heap.size, 0, none⟩) l cap2)) (.int .i64 0)) (.slice (some ⟨w'.heap.size, 0, none⟩) (l + n) cap2)
    have hne : w'.heap.size ≠ b := by omega
    refine ⟨rfl, ⟨w'.heap.size, cap2, cells, lr, ?_, by rw [HSZ.out]; exact Nat.le_refl _, hne, ?_, by rw [HLL.out]; exact hcap2, hcm2, HCS2.out, ?_⟩, ?_⟩
    · rw [HLL.out]; exact e3
    · rw [Below.heap_setCell _ _ _ _ hne, Below.heap_setCell _ _ _ _ hne, Below.heap_setCell _ _ _ _ hne]; exact HN2.out
    · rw [HLL.out]; exact HTK2.out.trans HTK.out
    · exact ((((hk0.trans (keep_drew _ _)).trans hbel.keep).setCell rfl _ _).setCell rfl _ _).setCell rfl _ _)

/-- '.. = copy(buf[m:], p)' laid over a row of which the first m cells are told. -/
theorem take_splice (L cs bs : List Value) (m : Nat) (hb : L.take m = bs) (hm : bs.length = m) : (L.take m ++ cs ++ L.drop (m + cs.length)).take (m + cs.length) = bs ++ cs := by
  rw [hb, List.take_left' (by rw [List.length_append, hm])]

theorem run_copy_keep {P : Program} (w : World) (dT sT ty elem : TypeId) (hu : P.underlying dT = some (.slice elem)) (hsz : (P.info? elem).map (·.size) = some 1) (dp : Option Addr) (dLen dCap : Nat) (ad : Addr) (n c g off : Nat) (cur : Array Value) (t : TypeId)
    (hg : w.heap[g]? = some (.cells cur t (0, 0))) (cs : List Value) (hn : cs.length = n) (hdl : n ≤ dLen) (hpos : 0 < n → dp = some ⟨g, off, none⟩) (hsrc : ∀ j v, cs[j]? = some v → w.cell? (ad.add j) = some v) (hfit : off + n ≤ cur.size) (h1 : ∀ v ∈ cs, v.oneCell' = true) :
    ∃ w4, (Builtin.copy_ #[dT, sT] ty #[.slice dp dLen dCap, .slice (some ad) n c]).run P w = .ok (goInt n) w4 ∧ w4.heap[g]? = some (.cells (cur.toList.take off ++ cs ++ cur.toList.drop (off + n)).toArray t (0, 0)) ∧ Keep (fun k => k = g) w w4 := by
  by_cases h0 : n = 0
  · subst h0
    obtain rfl : cs = [] := List.eq_nil_of_length_eq_zero hn
    refine ⟨w, run_copy_none w dT sT ty elem dp (some ad) dLen dCap 0 c hu hsz (by simp), ?_, Keep.refl _ _⟩
    rw [hg]; simp
  · obtain rfl := hpos (by omega)
    subst hn
    have h := run_copy_row (P := P) w dT sT ty elem g off dLen dCap ad cs.length c cur t cs hu hsz hg (Nat.min_eq_left hdl).symm hsrc hfit h1
    exact ⟨_, h, setRow_heap w g cur _ t _ hg, (Keep.refl (fun k => k = g) w).setRow (p := g) rfl _⟩

set_option maxRecDepth 100000 in
set_option maxHeartbeats 8000000 in
theorem bufWrite_row (N b : Nat) (bs cs : List Value) (ad : Addr) (n c : Nat) (w : World) (h : BufRow w N b bs) (hN : N ≤ w.heap.size) (hbN : b < N) (hb0 : 0 < bs.length) (h1 : ∀ v ∈ bs, v.oneCell' = true)
    (hn : cs.length = n) (hab : ad.block ≠ b) (haN : ad.block < N) (hsrc : ∀ j v, cs[j]? = some v → w.cell? (ad.add j) = some v) (h1c : ∀ v ∈ cs, v.oneCell' = true) (hlim : bs.length + n ≤ 140737488355328) :
    Calls Tryd.prog 146 #[.pointer (some ⟨b, 0, none⟩), .slice (some ad) n c] w fun e w' => e = .returned (.tuple #[.int .i64 n, .nilIface]) ∧ BufRow w' N b (bs ++ cs) ∧ Keep (fun k => k = b ∨ N ≤ k) w w' := by
  obtain ⟨g, cap, cur, lr, hbk, hgN, hgb, hg, hlc, hcm, hcs, htk⟩ := h
  obtain ⟨l, hl⟩ : ∃ l, l = bs.length := ⟨_, rfl⟩
  rw [Nat.add_zero, ← hl] at hbk hlc
  rw [← hl] at htk hb0 hlim
  have hcm' := hcm
  unfold maxLen at hcm'
  have hbw := block_of_row hbk
  have hbk1 := bufSet3c hbk (.int .i8 0)
  have hk1 : Keep (fun k => k = b ∨ N ≤ k) w (w.setCell ⟨b, 2, none⟩ (.int .i8 0)) := (Keep.refl _ _).setCell (Or.inl rfl) _ _
  have hg1 : (w.setCell ⟨b, 2, none⟩ (.int .i8 0)).heap[g]? = some (.cells cur 5 (0, 0)) := (Below.heap_setCell _ _ _ _ hgb).trans hg
  have c2 : w.cell? ⟨b, 2, none⟩ = some (.int .i8 lr) := by rw [Lib.cell_of_heap hbk]; rfl
  have f2 : w.frozen? ⟨b, 2, none⟩ = false := Lib.frozen_of_heap hbk 2
  have hws1 : (w.setCell ⟨b, 2, none⟩ (.int .i8 0)).heap.size = w.heap.size := by simp [World.setCell]
  obtain ⟨w1, hw1⟩ : ∃ w1, w1 = w.setCell ⟨b, 2, none⟩ (.int .i8 0) := ⟨_, rfl⟩
  rw [← hw1] at hbk1 hk1 hg1 hws1
  have c0 : w1.cell? ⟨b, 0, none⟩ = some (.slice (some ⟨g, 0, none⟩) l cap) := by rw [Lib.cell_of_heap hbk1]; rfl
  have f0 : w1.frozen? ⟨b, 0, none⟩ = false := Lib.frozen_of_heap hbk1 0
  by_cases hroom : n ≤ cap - l
  · have HT := Lib.hid (Tryd.Buffer_tryGrow_room b (some ⟨g, 0, none⟩) l cap n w1 c0 f0 hlc hcm hroom)
    have hbk3 := bufSet3 hbk1 (.slice (some ⟨g, 0, none⟩) (l + n) cap)
    have hk3 : Keep (fun k => k = b ∨ N ≤ k) w (w1.setCell ⟨b, 0, none⟩ (.slice (some ⟨g, 0, none⟩) (l + n) cap)) := hk1.setCell (Or.inl rfl) _ _
    have hg3 : (w1.setCell ⟨b, 0, none⟩ (.slice (some ⟨g, 0, none⟩) (l + n) cap)).heap[g]? = some (.cells cur 5 (0, 0)) := (Below.heap_setCell _ _ _ _ hgb).trans hg1
    obtain ⟨w3, hw3⟩ : ∃ w3, w3 = w1.setCell ⟨b, 0, none⟩ (.slice (some ⟨g, 0, none⟩) (l + n) cap) := ⟨_, rfl⟩
    rw [← hw3] at HT hbk3 hk3 hg3
    have d0 : w3.cell? ⟨b, 0, none⟩ = some (.slice (some ⟨g, 0, none⟩) (l + n) cap) := by rw [Lib.cell_of_heap hbk3]; rfl
    have hsrc3 : ∀ j v, cs[j]? = some v → w3.cell? (ad.add j) = some v := fun j v hj => hk3.cell (hsrc j v hj) (by rw [Lib.block_add]; omega)
    rw [hw1] at HT
    have hsl := fun W => run_from (P := Tryd.prog) Tryd.underlying43 info_u8 (some ⟨g, 0, none⟩) (l + n) cap l (by omega) W
    have hw3b := block_of_row hbk3
    obtain ⟨w4, hcp, hg4, hk4⟩ := run_copy_keep (P := Tryd.prog) w3 43 43 3 5 Tryd.underlying43 hsz1 (cutA (some ⟨g, 0, none⟩) cap l) n (cap - l) ad n c g l cur 5 hg3 cs hn (Nat.le_refl _) (fun hp => by rw [cutA_own _ _ _ _ (by omega), Nat.zero_add]) hsrc3 (by omega) h1c
    have hbk4 := hk4.row hbk3 (by omega)
    have hk5 := hk3.trans (hk4.mono fun _ _ e => Or.inr (by omega))
    have HF : Hid (BufRow w4 N b (bs ++ cs) ∧ Keep (fun k => k = b ∨ N ≤ k) w w4) := by
      refine Lib.hid ⟨⟨g, cap, _, 0, ?_, hgN, hgb, hg4, ?_, hcm, ?_, ?_⟩, hk5⟩
      · rw [List.length_append, hn, ← hl]; exact hbk4
      · rw [List.length_append, hn, ← hl]; omega
      · rw [← Array.length_toList]; simp; omega
      · rw [List.length_append, hn, ← hl]
        have := take_splice cur.toList cs bs l htk hl.symm
        rw [hn] at this
        simpa using this
    clear hsrc hsrc3 h1c hg3 hbk3 hk3 hn hl htk hcs hw3 hw1 hg hg1 hbk hbk1 hk1 c0 f0 hws1 hbk4 hk5 hg4 hk4 h1 hgN hcm
    go_enter Tryd.func146, Tryd.ntmps146
    go_wp2_with (go_at_call 148; with_reducible refine HT.out.mono ?_; rintro e w' ⟨rfl, rfl⟩)
    go_ret2
    exact ⟨rfl, HF.out.1, HF.out.2⟩
  · have hn1 : 1 ≤ n := by omega
    have HT := Lib.hid (Tryd.Buffer_tryGrow_none b (some ⟨g, 0, none⟩) l cap n w1 c0 hlc hcm (by omega))
    have HGR := Lib.hid (bufGrow_row b g l cap n 0 cur bs w1 hbk1 hl.symm hb0 hg1 hlc hcm hcs htk hgb h1 hn1 (by omega) hlim)
    have hsrc1 : ∀ j v, cs[j]? = some v → w1.cell? (ad.add j) = some v := fun j v hj => hk1.cell (hsrc j v hj) (by rw [Lib.block_add]; omega)
    have HS1 := Lib.hid hsrc1
    have HK1 := Lib.hid hk1
    have HWS := Lib.hid hws1
    have HN := Lib.hid hn
    have HL := Lib.hid hl
    have H1C := Lib.hid h1c
    rw [hw1] at HT
    clear hsrc hsrc1 hk1 hn hl h1c h1 hg hg1 hbk hbk1 htk hcs c0 f0 hlc hcm hcm' hroom hgN hgb hws1
    go_enter Tryd.func146, Tryd.ntmps146
    go_wp2_with (go_at_call 148; with_reducible refine HT.out.mono ?_; rintro e w' ⟨rfl, rfl⟩)
    rw [← hw1]
    clear hw1
    refine HGR.out.mono ?_
    rintro e w3 ⟨rfl, hat, hkg⟩
    obtain ⟨g, cap, cur, lr, hbk3, hgN, hgb, hg3, hlc, hcm, hcs, htk⟩ := hat
    rw [← HL.out] at hbk3 hlc htk
    have hn := HN.out
    have hl := HL.out
    have h1c := H1C.out
    have hk3 : Keep (fun k => k = b ∨ N ≤ k) w w3 := HK1.out.trans (hkg.mono fun _ _ e => Or.inl e)
    have hsrc3 : ∀ j v, cs[j]? = some v → w3.cell? (ad.add j) = some v := fun j v hj => hkg.cell (HS1.out j v hj) (by rw [Lib.block_add]; exact hab)
    have hgN2 : N ≤ g := by have := HWS.out; omega
    have d0 : w3.cell? ⟨b, 0, none⟩ = some (.slice (some ⟨g, 0, none⟩) (l + n) cap) := by rw [Lib.cell_of_heap hbk3]; rfl
    have hcm' := hcm
    unfold maxLen at hcm'
    have hsl := fun W => run_from (P := Tryd.prog) Tryd.underlying43 info_u8 (some ⟨g, 0, none⟩) (l + n) cap l (by omega) W
    have hw3b := block_of_row hbk3
    obtain ⟨w4, hcp, hg4, hk4⟩ := run_copy_keep (P := Tryd.prog) w3 43 43 3 5 Tryd.underlying43 hsz1 (cutA (some ⟨g, 0, none⟩) cap l) n (cap - l) ad n c g l cur 5 hg3 cs hn (Nat.le_refl _) (fun hp => by rw [cutA_own _ _ _ _ (by omega), Nat.zero_add]) hsrc3 (by omega) h1c
    have hbk4 := hk4.row hbk3 (by omega)
    have hk5 := hk3.trans (hk4.mono fun _ _ e => Or.inr (by omega))
    have HF : Hid (BufRow w4 N b (bs ++ cs) ∧ Keep (fun k => k = b ∨ N ≤ k) w w4) := by
      refine Lib.hid ⟨⟨g, cap, _, lr, ?_, hgN2, hgb, hg4, ?_, hcm, ?_, ?_⟩, hk5⟩
      · rw [List.length_append, hn, ← hl]; exact hbk4
      · rw [List.length_append, hn, ← hl]; omega
      · rw [← Array.length_toList]; simp; omega
      · rw [List.length_append, hn, ← hl]
        have := take_splice cur.toList cs bs l htk hl.symm
        rw [hn] at this
        simpa using this
    clear hsrc3 h1c hg3 hbk3 hk3 hn hl htk hcs hbk4 hk5 hg4 hk4 hgN hcm hkg
    go_wp2
    go_ret2
    exact ⟨rfl, HF.out.1, HF.out.2⟩
end Go.Proofs.YthfgnhgijgjggaaDoor
/- Contracts: cid's reader of bytes that keeps what it reads, over a limited reader: its making, ReadByte. -/
namespace Go.Proofs.YthfgnhgijgjggaaDoor
open Go.RowKit

/-- The reader in block r, over the limited one in block q, over the bytes' one in block p: what it has read lies in row g, that has 64 cells. -/
structure Tow (w : World) (r g q p : Nat) (v : Value) (l : List UInt8) (i N : Nat) (ds : List UInt8) : Prop where
  rdr : Rdr w p v l i
  lim : LimAt w q p N
  pq : p < q
  qg : q < g
  gr : g < r
  buf : w.heap[r]? = some (.cells #[.nilIface, limV q, .slice (some ⟨g, 0, none⟩) ds.length 64] 208 (0, 0))
  row : ∃ cur : List Value, w.heap[g]? = some (.cells cur.toArray 5 (0, 0)) ∧ cur.length = 64 ∧ cur.take ds.length = Lib.byteCells ds
abbrev bufRV (r : Nat) : Value := .iface 205 (.pointer (some ⟨r, 0, none⟩))
/-- The blocks that its reading turns. -/
abbrev TowS (r g q p : Nat) : Nat → Prop := fun k => k = p ∨ k = q ∨ k = g ∨ k = r

theorem Tow.keep {w w' : World} {r g q p : Nat} {v : Value} {l : List UInt8} {i N : Nat} {ds : List UInt8} (h : Tow w r g q p v l i N ds) {S : Nat → Prop} (hk : Keep S w w') (hS : ∀ k, S k → r < k) : Tow w' r g q p v l i N ds := by
  have hpq := h.pq; have hqg := h.qg; have hgr := h.gr
  obtain ⟨cur, hc, h2⟩ := h.row
  exact ⟨h.rdr.keep hk (fun k hk => by have := hS k hk; omega), h.lim.keep hk (fun h => by have := hS _ h; omega), hpq, hqg, hgr, hk.row h.buf (fun h => by have := hS _ h; omega), cur, hk.row hc (fun h => by have := hS _ h; omega), h2⟩
theorem Tow.drew {w : World} {r g q p : Nat} {v : Value} {l : List UInt8} {i N : Nat} {ds : List UInt8} (h : Tow w r g q p v l i N ds) : Tow w.drew r g q p v l i N ds := h.keep (S := fun _ => False) (keep_drew _ _) (fun _ h => h.elim)

set_option maxRecDepth 100000 in
set_option maxHeartbeats 2000000 in
theorem towEnd (r g q p : Nat) (v : Value) (l : List UInt8) (i N : Nat) (ds : List UInt8) (w : World) (h : Tow w r g q p v l i N ds) (hN2 : N ≤ 9223372036854775807) (hi : N = 0 ∨ i = l.length) (e0 : Addr) (he : ErrAt p w 0 e0) :
    Calls Tryd.prog 160 #[.pointer (some ⟨r, 0, none⟩)] w fun e w' => e = .returned (.tuple #[.int .u8 0, errV e0]) ∧ Tow w' r g q p v l i N ds ∧ Keep (TowS r g q p) w w' := by
  have hA : Below w.heap.size w (w.alloc (.cells #[.int .u8 0] 223)) := (Below.refl _ _).alloc (Nat.le_refl _) _
  have hrw := block_of_row h.buf
  have k0 := cell_of_row' (cur := [_, _, _]) h.buf 0
  have k1 := below_cell hA (cell_of_row' (cur := [_, _, _]) h.buf 1)
  have hpq := h.pq
  have hqg := h.qg
  have hgr := h.gr
  have hkA : Keep (TowS r g q p) w (w.alloc (.cells #[.int .u8 0] 223)) := hA.keep
  have hT1 := h.keep (S := fun _ => False) hA.keep (fun _ h => h.elim)
  have he1 := he.keep (S := fun _ => False) hA.keep (fun _ h => h.elim)
  have HF := Lib.hid (limFull_of q 1 1 (some ⟨w.heap.size, 0, none⟩) _ _ _ _ (limAtLeast_end q p w.heap.size 0 1 1 N v l i _ hT1.drew.rdr hT1.drew.lim hN2 (by omega) (by omega) (by omega) hi e0 he1.drew))
  have HT := Lib.hid hT1.drew
  have HK := Lib.hid (hkA.trans (keep_drew _ _))
  clear h hA hT1 he he1 hkA hi
  go_enter Tryd.func160, Tryd.ntmps160
  go_wp2_with fail
  go_region_with (go_at_call 87; refine HF.out.mono ?_; rintro e w1 ⟨rfl, hl1, hk1⟩)
  all_goals (
    have hfin : Hid (Tow w1 r g q p v l i N ds ∧ Keep (TowS r g q p) w w1) := by
      have ht := HT.out
      obtain ⟨cur, hc, h2⟩ := ht.row
      refine Lib.hid ⟨⟨ht.rdr.keep hk1 (fun k hk => by omega), hl1, hpq, hqg, hgr, hk1.row ht.buf (fun h => by omega), cur, hk1.row hc (fun h => by omega), h2⟩, HK.out.trans (hk1.mono fun _ _ h => Or.inr (Or.inl h))⟩
    clear hl1 hk1
    go_wp2
    go_ret2
    exact ⟨rfl, hfin.out.1, hfin.out.2⟩)

/-- append of one byte to a slice of a row of 64 cells that has room: only that row has turned. -/
theorem step_append_byte {P : Program} {ops : Array Oper} {o : Oper} {a : Act} {w : World} {K : Act → World → Prop} {Q : Exit → Act → World → Prop} {E : Prop} (hgd : o.guard = none) (s x : Operand) (t : TypeId)
    (ho : o.op = .call { callee := .builtin .append, args := #[s, x], argTypes := #[t, t] }) (e : TypeId) (i : TypeInfo) (ht : P.underlying t = some (.slice e)) (hi : P.info? e = some i) (hz1 : i.size = 1)
    (g n : Nat) (hs : a.eval s = .slice (some ⟨g, 0, none⟩) n 64) (w1 : World) (hw : Below w1.heap.size w1 w) (cur : List Value) (te : TypeId) (hg : w1.heap[g]? = some (.cells cur.toArray te (0, 0))) (hcl : cur.length = 64) (hn : n < 64) (B : Int)
    (ad : Addr) (hx : a.eval x = .slice (some ad) 1 1) (hnews : ∀ j u, [Value.int .u8 B][j]? = some u → w.cell? (ad.add j) = some u)
    (hK : ∀ W2, Hid (W2.heap[g]? = some (.cells (splice cur n [Value.int .u8 B]).toArray te (0, 0))) → Keep (fun k => k = g) w W2 → K (a.put o.dst (.slice (some ⟨g, 0, none⟩) (n + 1) 64)) W2) :
    if Region.wanted o (yielded ops a.tmps) = true then Oper.wp P o a w K Q else E := by
  have hgw : w.heap[g]? = some (.cells cur.toArray te (0, 0)) := (hw.block g (block_of_row hg)).trans hg
  refine step_append_room hgd s x t ho e i 1 ht hi hz1 g 0 n 64 hs ad 1 1 [Value.int .u8 B] hx rfl hnews (by simp [Value.oneCell']) (by omega) (fun j hj => ?_) ?_
  · have hj0 : j = 0 := by simpa using hj
    subst hj0
    refine ⟨?_, frozen_of_row' (cur := cur) hgw _⟩
    rw [cell_of_row' (cur := cur) hgw]
    simp
    omega
  · have e0 : 0 + n * 1 = n := by omega
    rw [e0]
    exact hK _ (Lib.hid (row_setCells [Value.int .u8 B] n cur w hgw (by simp; omega))) ⟨(turn_setCells g _ n w).os, (turn_setCells g _ n w).tape, (turn_setCells g _ n w).output, by rw [(turn_setCells g _ n w).size]; exact Nat.le_refl _, fun k _ hk => (turn_setCells g _ n w).block k hk⟩

theorem splice_one (cur : List Value) (ds : List UInt8) (b : UInt8) (hc : cur.length = 64) (hd : ds.length < 64) (ht : cur.take ds.length = Lib.byteCells ds) : (splice cur ds.length [Value.int .u8 (b.toNat : Int)]).length = 64 ∧ (splice cur ds.length [Value.int .u8 (b.toNat : Int)]).take (ds ++ [b]).length = Lib.byteCells (ds ++ [b]) := by
  unfold splice
  refine ⟨by simp; omega, ?_⟩
  rw [ht, Lib.byteCells_append, List.length_append]
  have e : Lib.byteCells [b] = [Value.int .u8 (b.toNat : Int)] := rfl
  rw [e]
  rw [← List.append_assoc, List.take_left' (l₁ := Lib.byteCells ds ++ [Value.int .u8 (b.toNat : Int)]) (by simp [Lib.byteCells_length])]

set_option maxRecDepth 100000 in
set_option maxHeartbeats 4000000 in
theorem towByte (r g q p : Nat) (v : Value) (l : List UInt8) (i N : Nat) (ds : List UInt8) (w : World) (h : Tow w r g q p v l i N ds) (hN2 : N ≤ 9223372036854775807) (hN : 0 < N) (hi : i < l.length) (hds : ds.length < 64) :
    Calls Tryd.prog 160 #[.pointer (some ⟨r, 0, none⟩)] w fun e w' => e = .returned (.tuple #[.int .u8 (l[i].toNat), .nilIface]) ∧ Tow w' r g q p v l (i + 1) (N - 1) (ds ++ [l[i]]) ∧ Keep (TowS r g q p) w w' := by
  obtain ⟨i0, hi0, hz0, hz1, hz2⟩ := info_u8p
  have hA : Below w.heap.size w (w.alloc (.cells #[.int .u8 0] 223)) := (Below.refl _ _).alloc (Nat.le_refl _) _
  have hrA := heap_alloc_new w (.cells #[.int .u8 0] 223)
  have hrw := block_of_row h.buf
  have k0 := cell_of_row' (cur := [_, _, _]) h.buf 0
  have k1 := below_cell hA (cell_of_row' (cur := [_, _, _]) h.buf 1)
  have hpq := h.pq
  have hqg := h.qg
  have hgr := h.gr
  have hkA : Keep (TowS r g q p) w (w.alloc (.cells #[.int .u8 0] 223)) := hA.keep
  have hT1 := h.keep (S := fun _ => False) hA.keep (fun _ h => h.elim)
  have HF := Lib.hid (limFull_of q 1 1 (some ⟨w.heap.size, 0, none⟩) _ _ _ _ (limAtLeast_ok q p w.heap.size 0 1 1 N v l i [.int .u8 0] 223 _ hT1.drew.rdr hT1.drew.lim hN2 hpq (by omega) (by omega) hrA (by omega) (by omega) (by omega) (by simp) (by omega) (by omega)))
  have HT := Lib.hid hT1.drew
  have HK := Lib.hid (hkA.trans (keep_drew _ _))
  obtain ⟨b, hb⟩ : ∃ b, b = l[i] := ⟨_, rfl⟩
  have hsp : splice [Value.int .u8 0] 0 (Lib.byteCells ((l.drop i).take 1)) = [.int .u8 (b.toNat : Int)] := by
    rw [List.drop_eq_getElem_cons hi, ← hb]; rfl
  rw [hsp] at HF
  rw [← hb]
  obtain ⟨B, hB⟩ : ∃ B : Int, B = (b.toNat : Int) := ⟨_, rfl⟩
  rw [← hB] at HF ⊢
  have HBB := Lib.hid hB
  obtain ⟨n, hn⟩ : ∃ n, n = ds.length := ⟨_, rfl⟩
  have HNN := Lib.hid hn
  clear h hA hT1 hkA hi hb hB hsp hrA hn
  go_enter Tryd.func160, Tryd.ntmps160
  go_wp2_with fail
  go_region_with (go_at_call 87; refine HF.out.mono ?_; rintro e w1 ⟨rfl, hr1, hl1, hh1, hk1⟩)
  all_goals (
    have ht := HT.out
    obtain ⟨cur, hc, hcl, htk⟩ := ht.row
    have hbuf1 := hk1.row ht.buf (fun h => by omega)
    have hrow1 := hk1.row hc (fun h => by omega)
    rw [← HNN.out] at hbuf1
    have j0 : w1.cell? ⟨r, 2, none⟩ = some (.slice (some ⟨g, 0, none⟩) n 64) := cell_of_row' (cur := [_, _, _]) hbuf1 2
    have j1 : w1.cell? ⟨w.heap.size, 0, none⟩ = some (.int .u8 B) := cell_of_row' (cur := [_]) hh1.out 0
    have hw1 : w.heap.size + 1 ≤ w1.heap.size := by have := hk1.size; simp at this; omega
    have j0a : ∀ o, (w1.alloc o).cell? ⟨r, 2, none⟩ = some (.slice (some ⟨g, 0, none⟩) n 64) := fun o => below_cell ((Below.refl _ _).alloc (Nat.le_refl _) _) j0
    have j1a : ∀ o, (w1.alloc o).cell? ⟨w.heap.size, 0, none⟩ = some (.int .u8 B) := fun o => below_cell ((Below.refl _ _).alloc (Nat.le_refl _) _) j1
    have HBUF := Lib.hid hbuf1
    have HROW := Lib.hid hrow1
    have HCL := Lib.hid hcl
    have HH1 := Lib.hid hh1.out
    have HR1 := Lib.hid hr1
    have HL1 := Lib.hid hl1
    have HK1 := Lib.hid hk1
    have HTK := Lib.hid htk
    have hn64 : n < 64 := by rw [HNN.out]; exact hds
    have b00 : (0 : Int) ≤ 0 := by omega
    clear hc hcl htk hbuf1 hrow1 hh1 hr1 hl1 hk1 ht HF
    go_wp2_with fail
    go_region_law (refine step_append_byte rfl (.tmp 51) (.tmp 54) 43 rfl 5 i0 Tryd.underlying43 hi0 hz1 g n (by rfl) w1 (((Below.refl _ w1).drew).alloc (Nat.le_refl _) _) cur 5 HROW.out HCL.out hn64 B ⟨w1.heap.size, 0, none⟩ (by rfl) (World.news_of_block (heap_alloc_new w1.drew _)) ?_; intro W2 hg2 hk2; have hkW : Keep (fun k => k = g) w1 W2 := ((((Below.refl _ w1).drew).alloc (Nat.le_refl _) _).keep).trans hk2; have hb2 := hkW.row HBUF.out (fun h => by omega); have m0 : W2.cell? ⟨r, 2, none⟩ = _ := cell_of_row' (cur := [_, _, _]) hb2 2; have m1 : W2.frozen? ⟨r, 2, none⟩ = false := frozen_of_row' (cur := [_, _, _]) hb2 2))
  all_goals (
    have m2 : W2.cell? ⟨w.heap.size, 0, none⟩ = some (.int .u8 B) := cell_of_row' (cur := [_]) (hkW.row HH1.out (fun h => by omega)) 0
    have m3 : (W2.setCell ⟨r, 2, none⟩ (.slice (some ⟨g, 0, none⟩) (n + 1) 64)).cell? ⟨w.heap.size, 0, none⟩ = some (.int .u8 B) := (World.cell?_of_block (w := W2) (Below.heap_setCell _ _ _ _ (by show w.heap.size ≠ r; omega))).trans m2
    have hfin : Hid (Tow (W2.setCell ⟨r, 2, none⟩ (.slice (some ⟨g, 0, none⟩) (n + 1) 64)) r g q p v l (i + 1) (N - 1) (ds ++ [b]) ∧ Keep (TowS r g q p) w (W2.setCell ⟨r, 2, none⟩ (.slice (some ⟨g, 0, none⟩) (n + 1) 64))) := by
      have hkS : Keep (fun k => k = g ∨ k = r) w1 (W2.setCell ⟨r, 2, none⟩ (.slice (some ⟨g, 0, none⟩) (n + 1) 64)) := Keep.setCell (S := fun k => k = g ∨ k = r) (hkW.mono fun _ _ h => Or.inl h) (Or.inr rfl) _ _
      have hs1 := splice_one cur ds b HCL.out hds HTK.out
      refine Lib.hid ⟨⟨HR1.out.keep hkS (fun k hk => by omega), HL1.out.keep hkS (fun h => by omega), hpq, hqg, hgr, ?_, _, (Below.heap_setCell _ _ _ _ (by show g ≠ r; omega)).trans hg2.out, ?_⟩, ?_⟩
      · have := bufSet3c hb2 (.slice (some ⟨g, 0, none⟩) (n + 1) 64)
        rw [this, List.length_append, ← HNN.out]; rfl
      · rw [HBB.out, HNN.out]; exact hs1
      · exact (HK.out.trans2 HK1.out (fun k hk h => by omega)).trans (hkS.mono fun _ _ h => by omega)
    clear hb2 hkW hk2 hg2
    go_wp2
    go_ret2
    exact ⟨rfl, hfin.out.1, hfin.out.2⟩)
end Go.Proofs.YthfgnhgijgjggaaDoor
/- Contract: varint.ReadUvarint over cid's reader of bytes, over a limited reader. -/
namespace Go.Proofs.YthfgnhgijgjggaaDoor
open Go.RowKit

theorem nil_bufByte (a : Addr) (w : World) : (nilAhead 359 205 (.pointer (some a)) "ReadByte").run Tryd.prog w = .ok (some false) w := by kernel_rfl
theorem method_bufByte (a : Addr) (w : World) : (method 359 205 (.pointer (some a)) "ReadByte").run Tryd.prog w = .ok (160, .pointer (some a)) w := by kernel_rfl

/-- Where the reader stands behind what was read. -/
structure TowAfter (R : UvR) (w : World) (r g q p : Nat) (v : Value) (l : List UInt8) (i N : Nat) (ds L : List UInt8) : Prop where
  any : ∃ i' N' ds', Tow w r g q p v l i' N' ds' ∧ ds'.length ≤ 64
  ok : ∀ x m, R = .ok x m → Tow w r g q p v l (i + m) (N - m) (ds ++ L.take m)
theorem Tow.len {w : World} {r g q p : Nat} {v : Value} {l : List UInt8} {i N : Nat} {ds : List UInt8} (h : Tow w r g q p v l i N ds) : ds.length ≤ 64 := by
  obtain ⟨cur, _, h2, h3⟩ := h.row
  have := congrArg List.length h3
  rw [List.length_take, Lib.byteCells_length] at this
  omega
theorem TowAfter.not {R : UvR} {w0 w : World} {r g q p : Nat} {v : Value} {l : List UInt8} {i N i' N' : Nat} {ds ds' L : List UInt8} (h : Tow w0 r g q p v l i' N' ds') (hk : Keep (fun _ => False) w0 w) (hR : R.no) : TowAfter R w r g q p v l i N ds L :=
  ⟨⟨_, _, _, h.keep hk (fun _ h => h.elim), h.len⟩, fun _ _ e => by subst e; exact hR.elim⟩
theorem TowAfter.good {w : World} {r g q p : Nat} {v : Value} {l : List UInt8} {i N : Nat} {ds L : List UInt8} {x m : Nat} (h : Tow w r g q p v l (i + m) (N - m) (ds ++ L.take m)) : TowAfter (.ok x m) w r g q p v l i N ds L :=
  ⟨⟨_, _, _, h, h.len⟩, fun _ _ e => by injection e with _ e; subst e; exact h⟩

set_option maxRecDepth 100000 in
set_option maxHeartbeats 4000000 in
theorem readUvB (r g q p : Nat) (v : Value) (l : List UInt8) (i N : Nat) (ds L : List UInt8) (w : World) (hr : Tow w r g q p v l i N ds) (hL : L = (l.drop i).take N) (hN2 : N ≤ 9223372036854775807) (hds : ds.length ≤ 54) (e0 e1 : Addr) (t2 t3 : TypeId) (p2 p3 : Value) (he : UvErrs p w e0 e1 (.iface t2 p2) (.iface t3 p3)) :
    Calls Tryd.prog 83 #[bufRV r] w fun e w' =>
      e = .returned ((uvDec L).rd (.iface t2 p2) (.iface t3 p3) (if L.length = 0 then errV e0 else errV e1)) ∧ TowAfter (uvDec L) w' r g q p v l i N ds L ∧ Keep (TowS r g q p) w w' := by
  have hna := fun w => nil_bufByte ⟨r, 0, none⟩ w
  have hme := fun w => method_bufByte ⟨r, 0, none⟩ w
  have hmf : ∀ (fn : Fn) (first cap : Array Value) (w : World), (Instr.makeFunc fn first cap).run Tryd.prog w = .ok (.func fn first cap) w := fun _ _ _ _ => rfl
  have heq := fun w => run_eqErr_same e0 w
  obtain ⟨hi0, hf0⟩ : i ≤ l.length ∧ l.length ≤ 9223372036854775807 := ⟨hr.rdr.le, hr.rdr.fits⟩
  have hpq := hr.pq
  have hqg := hr.qg
  have hgr := hr.gr
  have hLl : L.length = min N (l.length - i) := by rw [hL, List.length_take, List.length_drop]
  have hget : ∀ k (h : k < L.length) (h2 : i + k < l.length), L[k] = l[i + k] := fun k h h2 => by subst hL; simp
  have hLn : ∀ k, k < L.length → i + k < l.length ∧ k < N := fun k hk => by omega
  have hLe : ∀ k, k ≤ L.length → ¬ k < L.length → N - k = 0 ∨ i + k = l.length := fun k hk hn => by omega
  have HGET := Lib.hid hget
  have HLN := Lib.hid hLn
  have HLE := Lib.hid hLe
  have HR0 := Lib.hid hr
  have HE0 := Lib.hid he
  clear hr he hget hLn hLl hL hLe
  go_enter Tryd.func83, Tryd.ntmps83
  go_wp2
  go_loopw [4, 5] (fun x s wr => ∃ (k X : Nat), k ≤ L.length ∧ k ≤ 9 ∧ X < 2 ^ (7 * k) ∧ s = .int .u64 (7 * k : Nat) ∧ x = .int .u64 X ∧ Hid (uvDec L = uvGo k X (L.drop k)) ∧ Hid (Tow wr r g q p v l (i + k) (N - k) (ds ++ L.take k)) ∧ Keep (TowS r g q p) w wr) (fun _ s _ => 70 - (intOf s).toNat)
  case atStart => exact ⟨0, 0, by omega, by omega, by decide, rfl, rfl, Lib.hid rfl, Lib.hid (by rw [List.take_zero, List.append_nil]; exact HR0.out), Keep.refl _ _⟩
  case round =>
    obtain ⟨k, X, hk, hk10, hX, rfl, rfl, hd, HR, hkw⟩ := hrel
    have HE := Lib.hid (HE0.out.keep hkw (fun k hk => by have hk' : k = p ∨ k = q ∨ k = g ∨ k = r := hk; omega))
    by_cases hlt : k < L.length
    · obtain ⟨hik, hkN⟩ := HLN.out k hlt
      have HB := Lib.hid (towByte r g q p v l (i + k) (N - k) (ds ++ L.take k) wr HR.out (by omega) (by omega) hik (by rw [List.length_append, List.length_take]; omega))
      have htk : ds ++ L.take k ++ [l[i + k]] = ds ++ L.take (k + 1) := by rw [List.take_add_one, List.getElem?_eq_getElem hlt, HGET.out k hlt hik, List.append_assoc]; rfl
      have e1 : i + k + 1 = i + (k + 1) := by omega
      have e2 : N - k - 1 = N - (k + 1) := by omega
      rw [htk, e1, e2] at HB
      clear htk e1 e2
      have hb : l[i + k].toNat < 256 := UInt8.toNat_lt _
      obtain ⟨B, hB⟩ : ∃ B, B = l[i + k].toNat := ⟨_, rfl⟩
      rw [← hB] at HB hb
      have HBB := Lib.hid hB
      clear hB
      have hstep : uvGo k X (L.drop k) = (if (k = 8 ∧ 128 ≤ B) ∨ 9 ≤ k then .over
          else if B < 128 then (if B = 0 ∧ 0 < k then .notMin else .ok (X + B * 2 ^ (7 * k)) (k + 1))
          else uvGo (k + 1) (X + (B % 128) * 2 ^ (7 * k)) (L.drop (k + 1))) := by
        rw [List.drop_eq_getElem_cons hlt, uvGo, HGET.out k hlt hik, ← HBB.out]
      clear HBB
      go_wp2_with fail
      refine HB.out.mono ?_
      rintro e w1 ⟨rfl, hr1, hk1⟩
      have hkw1 := hkw.trans hk1
      have HE1 := HE.out.keep hk1 (fun k hk => by have hk' : k = p ∨ k = q ∨ k = g ∨ k = r := hk; omega)
      have hc2 := HE1.over
      have hc3 := HE1.notMin
      have HR1 := Lib.hid hr1
      clear hr1 hk1 HE1 HB
      by_cases h9 : k = 9
      · subst h9
        have hfin : Hid (uvDec L = .over) := Lib.hid (by rw [hd.out, hstep, if_pos (Or.inr (by omega))])
        clear hd hstep
        go_wp2
        go_quiet (fail)
        go_wp2
        go_ret2
        exact ⟨by rw [hfin.out]; rfl, by rw [hfin.out]; exact TowAfter.not HR1.out (keep_drewN _ _ _) trivial, hkw1.drewN _⟩
      by_cases hge : 128 ≤ B
      · by_cases h8 : k = 8
        · subst h8
          have hfin : Hid (uvDec L = .over) := Lib.hid (by rw [hd.out, hstep, if_pos (Or.inl ⟨rfl, hge⟩)])
          clear hd hstep
          go_wp2
          go_quiet (fail)
          go_wp2
          go_ret2
          exact ⟨by rw [hfin.out]; rfl, by rw [hfin.out]; exact TowAfter.not HR1.out (keep_drewN _ _ _) trivial, hkw1.drewN _⟩
        · have hfin : Hid (uvDec L = uvGo (k + 1) (X + (B % 128) * 2 ^ (7 * k)) (L.drop (k + 1))) := Lib.hid (by
            rw [hd.out, hstep, if_neg (by omega), if_neg (by omega)])
          clear hd hstep
          have hk8 : ((7 * k : Nat) : Int) < 56 := by omega
          have hor := Lib.hid (uv_or_and k X B (by omega) hX hb)
          have hlt2 := uv_step_lt k X (B % 128) hX (by omega)
          go_wp2
          exact ⟨⟨k + 1, X + B % 128 * 2 ^ (7 * k), by omega, by omega, hlt2, by go_num, by rw [hor.out], hfin, HR1, hkw1⟩, by simp [intOf]; omega⟩
      · by_cases hz : B = 0 ∧ 0 < k
        · obtain ⟨rfl, hz⟩ := hz
          have hfin : Hid (uvDec L = .notMin) := Lib.hid (by rw [hd.out, hstep, if_neg (by omega), if_pos (by omega), if_pos ⟨rfl, hz⟩])
          clear hd hstep
          have hk9' : ((7 * k : Nat) : Int) < 63 := by omega
          by_cases hk8 : k = 8
          · subst hk8
            go_wp2
            go_quiet (fail)
            go_wp2
            go_ret2
            exact ⟨by rw [hfin.out]; rfl, by rw [hfin.out]; exact TowAfter.not HR1.out (keep_drewN _ _ _) trivial, hkw1.drewN _⟩
          · have hk8' : (((7 * k : Nat) : Int) == 56) = false := by simp; omega
            go_wp2
            go_quiet (fail)
            go_wp2
            go_ret2
            exact ⟨by rw [hfin.out]; rfl, by rw [hfin.out]; exact TowAfter.not HR1.out (keep_drewN _ _ _) trivial, hkw1.drewN _⟩
        · have hfin : Hid (uvDec L = .ok (X + B * 2 ^ (7 * k)) (k + 1)) := Lib.hid (by rw [hd.out, hstep, if_neg (by omega), if_pos (by omega), if_neg hz])
          have hor := Lib.hid (uv_or k X B (by omega) hX (by omega))
          clear hd hstep
          have hk9' : ((7 * k : Nat) : Int) < 63 := by omega
          by_cases hB0 : B = 0
          · subst hB0
            have hk0 : k = 0 := by omega
            subst hk0
            have hfin' : Hid (uvDec L = .ok X 1) := Lib.hid (by rw [hfin.out]; simp)
            clear hor hfin
            have hor0 : Hid (bits .or .u64 (X : Int) 0 = (X : Nat)) := Lib.hid (by rw [u64_orv0 _ _ (by omega) (by omega) (by omega) (by omega) (by omega)]; omega)
            go_wp2
            go_ret2
            exact ⟨by rw [hfin'.out, hor0.out]; rfl, by rw [hfin'.out]; exact TowAfter.good HR1.out, hkw1⟩
          · have hB0' : ((B : Int) == 0) = false := by simp; omega
            by_cases hk8 : k = 8
            · subst hk8
              have hor8 : Hid (bits .or .u64 (X : Int) ((B : Int) * 72057594037927936) = ((X + B * 2 ^ (7 * 8) : Nat) : Int)) := Lib.hid (by
                rw [← hor.out, IntWalk.u64_in _ (by omega)]; rfl)
              clear hor
              go_wp2
              go_ret2
              exact ⟨by rw [hfin.out, hor8.out]; rfl, by rw [hfin.out]; exact TowAfter.good HR1.out, hkw1⟩
            · have hk8' : (((7 * k : Nat) : Int) == 56) = false := by simp; omega
              go_wp2
              go_ret2
              exact ⟨by rw [hfin.out, hor.out]; rfl, by rw [hfin.out]; exact TowAfter.good HR1.out, hkw1⟩
    · have hkn : k = L.length := by omega
      have hfin : Hid (uvDec L = .under) := Lib.hid (by rw [hd.out, hkn, List.drop_length]; rfl)
      have HB := Lib.hid (towEnd r g q p v l (i + k) (N - k) (ds ++ L.take k) wr HR.out (by omega) (HLE.out k hk hlt) e0 HE.out.eof)
      clear hd
      go_wp2_with fail
      refine HB.out.mono ?_
      rintro e w1 ⟨rfl, hr1, hk1⟩
      have hkw1 := hkw.trans hk1
      have HE1 := HE.out.keep hk1 (fun k hk => by have hk' : k = p ∨ k = q ∨ k = g ∨ k = r := hk; omega)
      have hc1 := HE1.eof.cell
      have hc4 := HE1.unex.cell
      have HR1 := Lib.hid hr1
      clear hr1 hk1 HE1 HB
      by_cases hk0 : k = 0
      · subst hk0
        have hil : Hid (L.length = 0) := Lib.hid hkn.symm
        clear hkn hlt hk
        go_wp2
        go_ret2
        exact ⟨by first | (rw [hfin.out]; rfl) | (rw [hfin.out, if_pos hil.out]; rfl), by rw [hfin.out]; exact TowAfter.not HR1.out (Keep.refl _ _) trivial, hkw1⟩
      · have hk0' : (((7 * k : Nat) : Int) == 0) = false := by simp; omega
        have hil : Hid (¬ L.length = 0) := Lib.hid (by omega)
        clear hkn
        go_wp2
        go_ret2
        exact ⟨by first | (rw [hfin.out]; rfl) | (rw [hfin.out, if_neg hil.out]; rfl), by rw [hfin.out]; exact TowAfter.not HR1.out (Keep.refl _ _) trivial, hkw1⟩
end Go.Proofs.YthfgnhgijgjggaaDoor
/- Contracts: cid.toBufByteReader over a limited reader, io.LimitReader. -/
namespace Go.Proofs.YthfgnhgijgjggaaDoor
open Go.RowKit

theorem missing_one {want : Array (String × TypeId)} {got : Array Method} {s : String} (h : ((want.toList.filter fun (name, sig) => !got.any fun m => m.name == name && m.sig == sig).map (·.1)) = [s]) : ∃ m, Instr.missingMethod want got = some m := by
  unfold Instr.missingMethod
  simp only
  rw [h]
  cases hc : s.contains '.' <;> simp [List.partition, List.partition.loop, hc, Instr.least]
/-- The names that a type lacks of an interface. -/
def lacks (i : Option TypeInfo) (d : Option TypeDesc) : Option (List String) :=
  match i, d with
  | some i, some (.interface want) => some ((want.toList.filter fun (name, sig) => !i.methods.any fun m => m.name == name && m.sig == sig).map (·.1))
  | _, _ => none
theorem assert_no {P : Program} {t ti x : TypeId} {s : String} (h : lacks (P.info? t) (P.underlying ti) = some [s]) (hz : ∀ W, (zeroValue ti).run P W = .ok .nilIface W) (v : Value) (W : World) :
    (Instr.typeAssert (.iface t v) x ti true).run P W = .ok (.tuple #[.nilIface, .bool false]) W := by
  unfold lacks at h
  split at h
  · rename_i i want hi hu
    obtain ⟨m, hm⟩ := missing_one (Option.some.inj h)
    have hz := hz W
    simp [Instr.typeAssert, run_underlying hu, show (typeInfo t).run P W = .ok i W from by simp [typeInfo, hi], hm, Result.andThen, hz]
  · cases h

/-- The block that it makes. -/
abbrev towO (q g : Nat) : Obj := .cells #[.nilIface, limV q, .slice (some ⟨g, 0, none⟩) 0 64] 208

set_option maxRecDepth 100000 in
set_option maxHeartbeats 1000000 in
theorem toBuf (q g : Nat) (w : World) :
    Calls Tryd.prog 108 #[limV q, .slice (some ⟨g, 0, none⟩) 0 64] w fun e w' => e = .returned (.pointer (some ⟨w.heap.size, 0, none⟩)) ∧ w' = w.alloc (towO q g) := by
  have hta : ∀ W, (Instr.typeAssert (limV q) 165 192 true).run Tryd.prog W = .ok (.tuple #[.nilIface, .bool false]) W := fun W => assert_no (s := "ReadByte") (by kernel_rfl) (fun W => by kernel_rfl) _ W
  go_enter Tryd.func108, Tryd.ntmps108
  go_wp2
  go_ret
  exact ⟨rfl, rfl⟩

set_option maxRecDepth 100000 in
set_option maxHeartbeats 1000000 in
theorem limitReader (p N : Nat) (w : World) :
    Calls Tryd.prog 88 #[rdV p, .int .i64 N] w fun e w' => e = .returned (limV w.heap.size) ∧ w' = w.alloc (.cells #[rdV p, .int .i64 N] 204) := by
  go_enter Tryd.func88, Tryd.ntmps88
  go_wp2
  go_ret
  exact ⟨rfl, rfl⟩

/-- Where fewer bytes are there, or let through, than asked for: an error. -/
theorem limFull_short (q p g o n c N : Nat) (v : Value) (l : List UInt8) (i : Nat) (cur : List Value) (t : TypeId) (w : World) (hr : Rdr w p v l i) (hl : LimAt w q p N) (hN2 : N ≤ 9223372036854775807) (hpq : p < q) (hqg : q ≠ g) (hpg : p < g)
    (hg : w.heap[g]? = some (.cells cur.toArray t (0, 0))) (hnc : n ≤ c) (hc : c ≤ 9223372036854775807) (hfit : o + n ≤ cur.length) (hlt : min N (l.length - i) < n) (e0 e1 : Addr) (he : ErrAt p w 0 e0) (he1 : ErrAt p w 5 e1) :
    Calls Tryd.prog 87 #[limV q, .slice (some ⟨g, o, none⟩) n c] w fun e w' => e = .returned (.tuple #[.int .i64 ((min N (l.length - i) : Nat) : Int), if min N (l.length - i) = 0 then errV e0 else errV e1]) ∧ (∃ j, Rdr w' p v l j) ∧ Keep (fun k => k = p ∨ k = q ∨ k = g) w w' := by
  by_cases h0 : min N (l.length - i) = 0
  · rw [if_pos h0, h0]
    exact limFull_of q n c _ w _ _ _ ((limAtLeast_end q p g o n c N v l i w hr hl hN2 (by omega) hnc hc (by have := hr.le; omega) e0 he).mono fun e w' ⟨h1, _, h3⟩ => ⟨h1, ⟨i, hr.keep h3 (fun k h => by omega)⟩, h3.mono fun _ _ h => Or.inr (Or.inl h)⟩)
  · rw [if_neg h0]
    exact limFull_of q n c _ w _ _ _ ((limAtLeast_cut q p g o n c N (min N (l.length - i)) v l i cur t w hr hl hN2 hpq hqg hpg hg hnc hc hfit rfl (by omega) hlt e0 e1 he he1).mono fun e w' ⟨h1, h2, h3⟩ => ⟨h1, ⟨_, h2⟩, h3⟩)
end Go.Proofs.YthfgnhgijgjggaaDoor
/- Contract: cid.CidFromReader over a limited reader: its beginning; where no version is read. -/
namespace Go.Proofs.YthfgnhgijgjggaaDoor
open Go.RowKit

structure SeErrs (B : Nat) (w : World) (e0 e1 e2 e3 : Addr) : Prop where
  eof : ErrAt B w 0 e0
  unex : ErrAt B w 5 e1
  over : ErrAt B w 2 e2
  notMin : ErrAt B w 3 e3
  n1 : e1 ≠ e0
  n2 : e2 ≠ e0
  n3 : e3 ≠ e0
theorem SeErrs.keep {B : Nat} {S : Nat → Prop} {w w' : World} {e0 e1 e2 e3 : Addr} (h : SeErrs B w e0 e1 e2 e3) (hk : Keep S w w') (hS : ∀ k, S k → B ≤ k) : SeErrs B w' e0 e1 e2 e3 :=
  ⟨h.eof.keep hk hS, h.unex.keep hk hS, h.over.keep hk hS, h.notMin.keep hk hS, h.n1, h.n2, h.n3⟩
theorem SeErrs.uv {B : Nat} {w : World} {e0 e1 e2 e3 : Addr} (h : SeErrs B w e0 e1 e2 e3) : UvErrs B w e0 e1 (errV e2) (errV e3) :=
  ⟨h.eof, h.unex, h.over.cell, h.over.lt, h.notMin.cell, h.notMin.lt⟩
theorem SeErrs.bad {B : Nat} {w : World} {e0 e1 e2 e3 : Addr} (h : SeErrs B w e0 e1 e2 e3) {R : UvR} (hR : R.no) :
    ∃ a, R.rd (errV e2) (errV e3) (errV e1) = .tuple #[.int .u64 0, errV a] ∧ ∀ (S : Nat → Prop) W, Keep S w W → (∀ k, S k → B ≤ k) → (binOp .eql 84 (errV a) (errV e0)).run Tryd.prog W = .ok (.bool false) W := by
  cases R with
  | ok x m => exact hR.elim
  | over => exact ⟨e2, rfl, fun S W hk hS => run_eqErr_other h.n2 (h.over.keep hk hS).row (h.eof.keep hk hS).row⟩
  | notMin => exact ⟨e3, rfl, fun S W hk hS => run_eqErr_other h.n3 (h.notMin.keep hk hS).row (h.eof.keep hk hS).row⟩
  | under => exact ⟨e1, rfl, fun S W hk hS => run_eqErr_other h.n1 (h.unex.keep hk hS).row (h.eof.keep hk hS).row⟩
theorem UvR.bad {e0 e1 e2 e3 : Addr} {c : Prop} [Decidable c] {R : UvR} (hR : R.no) : ∃ a, R.rd (errV e2) (errV e3) (if c then errV e0 else errV e1) = .tuple #[.int .u64 0, errV a] := by
  cases R with
  | ok x m => exact hR.elim
  | over => exact ⟨e2, rfl⟩
  | notMin => exact ⟨e3, rfl⟩
  | under => by_cases hc : c
             · rw [if_pos hc]; exact ⟨e0, rfl⟩
             · rw [if_neg hc]; exact ⟨e1, rfl⟩

abbrev row64 : Obj := .cells (List.replicate 64 (Value.int .u8 0)).toArray 5
set_option maxRecDepth 100000 in
theorem make64 (W : World) : (Instr.makeSlice 43 (.int .i64 0) (.int .i64 64)).run Tryd.prog W = .ok (.slice (some ⟨W.heap.size, 0, none⟩) 0 64) (W.alloc row64) := by
  obtain ⟨i, hi, h2⟩ := Option.map_eq_some_iff.1 info_u8
  simp only [Prod.mk.injEq] at h2
  obtain ⟨hz, hsz, hby⟩ := h2
  have hr := run_make (P := Tryd.prog) W 43 5 i _ Tryd.underlying43 hi hz .i64 .i64 0 64 (by omega) (by omega) (by rw [hby]; omega) (by omega)
  have e : madeCells (Value.int .u8 0).cells (Int.toNat 64 * i.size) = (List.replicate 64 (Value.int .u8 0)).toArray := by
    rw [hsz]
    apply Array.ext
    · simp [size_madeCells]
    · intro j h1 h2
      have h0 : [Value.int IntKind.u8 0][j % 1]?.getD default = Value.int IntKind.u8 0 := by rw [Nat.mod_one]; rfl
      have h3 : (List.replicate 64 (Value.int .u8 0)).toArray[j] = .int .u8 0 := by rw [List.getElem_toArray]; exact List.getElem_replicate ..
      rw [h3]
      simp [madeCells, Value.cells, h0]
  rw [hr, e]
  rfl
/-- The blocks that it makes. -/
abbrev frW (q : Nat) (w : World) : World := ((w.alloc cidZ).alloc row64).alloc (towO q (w.heap.size + 1))
theorem fr_start (q p N : Nat) (v : Value) (l : List UInt8) (i : Nat) (w : World) (hr : Rdr w p v l i) (hl : LimAt w q p N) (hpq : p < q) :
    Tow (frW q w) (w.heap.size + 2) (w.heap.size + 1) q p v l i N [] ∧ (frW q w).heap[w.heap.size]? = some (.cells #[.string ⟨#[]⟩] 80 (0, 0)) ∧ Keep (fun _ => False) w (frW q w) := by
  have hq := block_of_row hl
  have b1 : Below w.heap.size w (w.alloc cidZ) := (Below.refl _ _).alloc (Nat.le_refl _) _
  have s1 : (w.alloc cidZ).heap.size = w.heap.size + 1 := by simp
  have s2 : ((w.alloc cidZ).alloc row64).heap.size = w.heap.size + 2 := by simp
  have hk : Keep (fun _ => False) w (frW q w) := ((b1.alloc (by omega) row64).alloc (by omega) _).keep
  refine ⟨⟨hr.keep hk (fun _ h => h.elim), hk.row hl (fun h => h), hpq, by omega, by omega, ?_, List.replicate 64 (Value.int .u8 0), ?_, by simp, by simp [Lib.byteCells]⟩, ?_, hk⟩
  · have := heap_alloc_new ((w.alloc cidZ).alloc row64) (towO q (w.heap.size + 1))
    rw [s2] at this
    exact this
  · have := row_alloc (heap_alloc_new (w.alloc cidZ) row64) (towO q (w.heap.size + 1))
    rw [s1] at this
    exact this
  · exact row_alloc (row_alloc (heap_alloc_new w cidZ) row64) _

theorem toBuf_fr (q : Nat) (w : World) : Calls Tryd.prog 108 #[limV q, .slice (some ⟨w.heap.size + 1, 0, none⟩) 0 64] ((w.alloc cidZ).alloc row64) fun e w' => e = .returned (.pointer (some ⟨w.heap.size + 2, 0, none⟩)) ∧ w' = frW q w := by
  have s2 : ((w.alloc cidZ).alloc row64).heap.size = w.heap.size + 2 := by simp
  have := toBuf q (w.heap.size + 1) ((w.alloc cidZ).alloc row64)
  rw [s2] at this
  exact this

/-- What each way out needs. -/
theorem fr_fin {w : World} {c r g q n : Nat} {us : ByteArray} (hc : w.heap[c]? = some (.cells #[.string ⟨#[]⟩] 80 (0, 0)))
    (hr : w.heap[r]? = some (.cells #[.nilIface, limV q, .slice (some ⟨g, 0, none⟩) n 64] 208 (0, 0))) (hu : w.cell? ⟨1, 0, none⟩ = some (.string us)) :
    (w.cell? ⟨c, 0, none⟩ = some (.string ⟨#[]⟩)) ∧ (w.frozen? ⟨c, 0, none⟩ = false) ∧ (w.cell? ⟨1, 0, none⟩ = some (.string us)) ∧ (r < w.heap.size) ∧ (w.cell? ⟨r, 2, none⟩ = some (.slice (some ⟨g, 0, none⟩) n 64)) ∧
      Hid ((w.setCell ⟨c, 0, none⟩ (.string us)).heap[c]? = some (.cells #[.string us] 80 (0, 0))) :=
  ⟨cell_of_row' (cur := [_]) hc 0, frozen_of_row' (cur := [_]) hc 0, hu, block_of_row hr, cell_of_row' (cur := [_, _, _]) hr 2, Lib.hid (Lib.heap_setCell_same (i := 0) hc _)⟩

/-- An error of the kind ErrInvalidCid. -/
def FrBad (e : Ending) : Prop := ∃ (n : Int) (s : ByteArray) (pv : Value), e = .returned (.tuple #[.int .i64 n, .agg #[.string s], .iface 159 pv])

theorem stL {l L : List UInt8} {i N : Nat} (hL : L = (l.drop i).take N) (m : Nat) : L.drop m = (l.drop (i + m)).take (N - m) := by
  rw [hL, List.drop_take, List.drop_drop]

/-- The world in the midst of reading. -/
structure FrS (w W : World) (q p : Nat) (v : Value) (l : List UInt8) (e0 e1 e2 e3 : Addr) (i N : Nat) (ds : List UInt8) : Prop where
  tow : Tow W (w.heap.size + 2) (w.heap.size + 1) q p v l i N ds
  old : q < w.heap.size
  row : W.heap[w.heap.size]? = some (.cells #[.string ⟨#[]⟩] 80 (0, 0))
  keep : Keep (fun k => k = p ∨ k = q) w W
  errs : SeErrs p W e0 e1 e2 e3
  all : ∀ W, Keep (fun k => p ≤ k) w W → CdS W
section
variable {w W W2 : World} {q p : Nat} {v : Value} {l L : List UInt8} {e0 e1 e2 e3 : Addr} {i N i' N' : Nat} {ds ds' : List UInt8}
theorem FrS.cds (h : FrS w W q p v l e0 e1 e2 e3 i N ds) : CdS W := h.all W (h.keep.mono fun k _ hk => by have := h.tow.pq; omega)
theorem FrS.next (h : FrS w W q p v l e0 e1 e2 e3 i N ds) (hk : Keep (TowS (w.heap.size + 2) (w.heap.size + 1) q p) W W2) (ht : Tow W2 (w.heap.size + 2) (w.heap.size + 1) q p v l i' N' ds') : FrS w W2 q p v l e0 e1 e2 e3 i' N' ds' := by
  have hpq := h.tow.pq
  have hq := h.old
  have hS : ∀ k, TowS (w.heap.size + 2) (w.heap.size + 1) q p k → k = p ∨ k = q ∨ k = w.heap.size + 1 ∨ k = w.heap.size + 2 := fun k hk => hk
  refine ⟨ht, hq, hk.row h.row (fun hk => by have := hS _ hk; omega), h.keep.trans2 hk (fun k hk2 hk => by have := hS _ hk; omega), h.errs.keep hk (fun k hk => by have := hS _ hk; omega), h.all⟩
theorem FrS.below (h : FrS w W q p v l e0 e1 e2 e3 i N ds) (hb : Below W.heap.size W W2) : FrS w W2 q p v l e0 e1 e2 e3 i N ds := h.next hb.keep (h.tow.keep (S := fun _ => False) hb.keep fun _ h => h.elim)
/-- What each way out needs. -/
theorem FrS.fin_at (h : FrS w W q p v l e0 e1 e2 e3 i N ds) {n : Nat} (hn : Hid (ds.length = n)) {us : ByteArray} (hus : W.cell? ⟨1, 0, none⟩ = some (.string us)) : (W.cell? ⟨w.heap.size, 0, none⟩ = some (.string ⟨#[]⟩)) ∧ (W.frozen? ⟨w.heap.size, 0, none⟩ = false) ∧ (W.cell? ⟨1, 0, none⟩ = some (.string us)) ∧ (w.heap.size + 2 < W.heap.size) ∧
      (W.cell? ⟨w.heap.size + 2, 2, none⟩ = some (.slice (some ⟨w.heap.size + 1, 0, none⟩) n 64)) ∧
      Hid ((W.setCell ⟨w.heap.size, 0, none⟩ (.string us)).heap[w.heap.size]? = some (.cells #[.string us] 80 (0, 0))) := by
  rw [← hn.out]
  exact fr_fin h.row h.tow.buf hus
theorem FrS.fin (h : FrS w W q p v l e0 e1 e2 e3 i N ds) : ∃ (us : ByteArray) (n : Nat), Hid (ds.length = n) ∧ (W.cell? ⟨w.heap.size, 0, none⟩ = some (.string ⟨#[]⟩)) ∧ (W.frozen? ⟨w.heap.size, 0, none⟩ = false) ∧ (W.cell? ⟨1, 0, none⟩ = some (.string us)) ∧ (w.heap.size + 2 < W.heap.size) ∧
      (W.cell? ⟨w.heap.size + 2, 2, none⟩ = some (.slice (some ⟨w.heap.size + 1, 0, none⟩) n 64)) ∧
      Hid ((W.setCell ⟨w.heap.size, 0, none⟩ (.string us)).heap[w.heap.size]? = some (.cells #[.string us] 80 (0, 0))) := by
  obtain ⟨us, hus⟩ := h.cds.undef
  exact ⟨us, _, Lib.hid rfl, h.fin_at (Lib.hid rfl) hus⟩
theorem fr_out {w W : World} {q p : Nat} {v : Value} {l : List UInt8} (hp : p < w.heap.size) (h : (∃ j, Rdr W p v l j) ∧ Keep (fun k => k = p ∨ k = q) w W) (n : Nat) (u : Value) :
    (∃ j, Rdr ((W.drewN n).setCell ⟨w.heap.size, 0, none⟩ u) p v l j) ∧ Keep (fun k => k = p ∨ k = q) w ((W.drewN n).setCell ⟨w.heap.size, 0, none⟩ u) := by
  obtain ⟨⟨j, hj⟩, hk⟩ := h
  have h1 : Keep (fun k => k = w.heap.size) W ((W.drewN n).setCell ⟨w.heap.size, 0, none⟩ u) := Keep.setCell (S := fun k => k = w.heap.size) (keep_drewN _ _ _) rfl _ _
  exact ⟨⟨j, hj.keep h1 (fun k hk => by omega)⟩, hk.trans2 h1 (fun k hk hk2 => by omega)⟩
theorem FrS.out (h : FrS w W q p v l e0 e1 e2 e3 i N ds) (n : Nat) (u : Value) :
    (∃ j, Rdr ((W.drewN n).setCell ⟨w.heap.size, 0, none⟩ u) p v l j) ∧ Keep (fun k => k = p ∨ k = q) w ((W.drewN n).setCell ⟨w.heap.size, 0, none⟩ u) :=
  fr_out (by have := h.old; have := h.tow.pq; omega) ⟨⟨_, h.tow.rdr⟩, h.keep⟩ n u
theorem FrS.start (hr : Rdr w p v l i) (hl : LimAt w q p N) (hpq : p < q) (he : SeErrs p w e0 e1 e2 e3) (hu : ∀ W, Keep (fun k => p ≤ k) w W → CdS W) : FrS w (frW q w) q p v l e0 e1 e2 e3 (i + 0) (N - 0) (L.take 0) := by
  obtain ⟨ht, hc, hk⟩ := fr_start q p N v l i w hr hl hpq
  exact ⟨ht, block_of_row hl, hc, hk.mono fun _ _ h => h.elim, he.keep hk fun _ h => h.elim, hu⟩
/-- A varint can't be read. -/
theorem FrS.uv_no {a : Nat} (h : FrS w W q p v l e0 e1 e2 e3 (i + a) (N - a) (L.take a)) (hL : L = (l.drop i).take N) (hN : N ≤ 9223372036854775807) (ha : a ≤ 54) (hno : (uvDec (L.drop a)).no) :
    Calls Tryd.prog 83 #[bufRV (w.heap.size + 2)] W fun e w' => ∃ b i' N' ds', e = .returned (.tuple #[.int .u64 0, errV b]) ∧ FrS w w' q p v l e0 e1 e2 e3 i' N' ds' ∧ ((L.drop a).length ≠ 0 → (binOp .eql 84 (errV b) (errV e0)).run Tryd.prog w' = .ok (.bool false) w') := by
  have hc := readUvB _ _ q p v l (i + a) (N - a) (L.take a) (L.drop a) W h.tow (stL hL a) (by omega) (by rw [List.length_take]; omega) e0 e1 _ _ _ _ h.errs.uv
  have hpq := h.tow.pq
  have hq := h.old
  by_cases h0 : (L.drop a).length = 0
  · obtain ⟨b, hb⟩ := UvR.bad (e0 := e0) (e1 := e1) (e2 := e2) (e3 := e3) (c := (L.drop a).length = 0) hno
    rw [hb] at hc
    refine hc.mono fun e w' ⟨h1, h2, h3⟩ => ?_
    obtain ⟨i', N', ds', h4, _⟩ := h2.any
    exact ⟨b, i', N', ds', h1, h.next h3 h4, fun hn => absurd h0 hn⟩
  · rw [if_neg h0] at hc
    obtain ⟨b, hb, hq⟩ := h.errs.bad hno
    rw [hb] at hc
    refine hc.mono fun e w' ⟨h1, h2, h3⟩ => ?_
    obtain ⟨i', N', ds', h4, _⟩ := h2.any
    exact ⟨b, i', N', ds', h1, h.next h3 h4, fun _ => hq _ _ h3 fun k hk => by have hk' : k = p ∨ k = q ∨ k = w.heap.size + 1 ∨ k = w.heap.size + 2 := hk; omega⟩
theorem FrS.uv_ok {a x m : Nat} (h : FrS w W q p v l e0 e1 e2 e3 (i + a) (N - a) (L.take a)) (hL : L = (l.drop i).take N) (hN : N ≤ 9223372036854775807) (ha : a ≤ 54) (hd : uvDec (L.drop a) = .ok x m) :
    Calls Tryd.prog 83 #[bufRV (w.heap.size + 2)] W fun e w' => e = .returned (.tuple #[.int .u64 x, .nilIface]) ∧ FrS w w' q p v l e0 e1 e2 e3 (i + (a + m)) (N - (a + m)) (L.take (a + m)) := by
  have hc := readUvB _ _ q p v l (i + a) (N - a) (L.take a) (L.drop a) W h.tow (stL hL a) (by omega) (by rw [List.length_take]; omega) e0 e1 _ _ _ _ h.errs.uv
  refine hc.mono fun e w' ⟨h1, h2, h3⟩ => ?_
  rw [hd] at h1 h2
  have h4 := h2.ok _ _ rfl
  rw [← List.take_add, Nat.add_assoc, Nat.sub_sub] at h4
  exact ⟨h1, h.next h3 h4⟩
end

set_option maxRecDepth 100000 in
set_option maxHeartbeats 8000000 in
/-- The version can't be read. -/
theorem fr_noVer (q p N : Nat) (v : Value) (l L : List UInt8) (i : Nat) (w : World) (hr : Rdr w p v l i) (hl : LimAt w q p N) (hpq : p < q) (hN2 : N ≤ 9223372036854775807) (hL : L = (l.drop i).take N) (hL0 : L.length ≠ 0)
    (e0 e1 e2 e3 : Addr) (he : SeErrs p w e0 e1 e2 e3) (hu : ∀ W, Keep (fun k => p ≤ k) w W → CdS W) (hno : (uvDec L).no) :
    Calls Tryd.prog 89 #[limV q] w fun e w' => FrBad e ∧ (∃ j, Rdr w' p v l j) ∧ Keep (fun k => k = p ∨ k = q) w w' := by
  have hf0 : FrS w (frW q w) q p v l e0 e1 e2 e3 (i + 0) (N - 0) (L.take 0) := FrS.start hr hl hpq he hu
  have HT := Lib.hid (toBuf_fr q w)
  have hmk := make64
  obtain ⟨W1, hW1⟩ : ∃ W1, W1 = frW q w := ⟨_, rfl⟩
  rw [← hW1] at hf0 HT
  have HB := Lib.hid (hf0.uv_no hL hN2 (by omega) hno)
  have HL0 := Lib.hid hL0
  clear he hu hL hL0 hno hr hl hW1 hf0
  go_enter Tryd.func89, Tryd.ntmps89
  go_wp2_with fail
  refine HT.out.mono ?_
  rintro e w1 ⟨rfl, rfl⟩
  go_wp2_with fail
  refine HB.out.mono ?_
  rintro e w2 ⟨b, i', N', ds', rfl, hf, hne⟩
  have heq := hne HL0.out
  have hce := hf.errs.eof.cell
  obtain ⟨us, n, hn, p1, p2, p3, p4, p5, p6⟩ := hf.fin
  have HF := Lib.hid hf
  clear hf hne HB HT
  go_wp2_with fail
  go_region
  all_goals
    go_wp2
    refine bodyPost_ret (results_tmp_row_tmp rfl _ _ (w.heap.size) 80 #[.string us] (0, 0) _ rfl p6.out Tryd.underlying80 rfl (by kernel_rfl)) rfl ?_
    exact ⟨⟨_, _, _, rfl⟩, HF.out.out 1 _⟩
end Go.Proofs.YthfgnhgijgjggaaDoor
