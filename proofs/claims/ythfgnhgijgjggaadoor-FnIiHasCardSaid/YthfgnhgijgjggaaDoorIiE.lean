/- Contracts: an insertion index: its tree in memory, a record put in. -/
import Derived.Test.YthfgnhgijgjggaaDoorIiD
import Derived.Test.YthfgnhgijgjggaaDoorCdM
import Derived.Test.YthfgnhgijgjggaaDoorMhB
import Derived.Test.YthfgnhgijgjggaaDoorCdT
namespace Go.Proofs.YthfgnhgijgjggaaDoor
open Go.RowKit

/-- No byte lies in this block. -/
def NoByte (w : World) (k : Nat) : Prop := ∀ (o : Nat) (v : Int), w.cell? ⟨k, o, none⟩ ≠ some (.int .u8 v)
theorem ItD.In.keep' {x : ItD} {S : Nat → Prop} {w w' : World} (h : x.In w) (hk : Keep S w w') (hS : ∀ k, S k → NoByte w k) : x.In w' := by
  obtain ⟨A, c, h1, h2, h3⟩ := h
  refine ⟨A, c, h1, h2, fun h0 => ?_⟩
  obtain ⟨b, o, e, hc⟩ := h3 h0
  exact ⟨b, o, e, fun j hj => hk.cell (hc j hj) fun hb => hS b hb _ _ (hc j hj)⟩
theorem noByte_node {w : World} {t : Tr ItD} (ht : t.At ItD.val w) : ∀ k ∈ t.blocks, NoByte w k := fun k hk o v h => by
  obtain ⟨u, l, r, b, hrow⟩ := ht.row k hk
  rw [cell_of_row' (cur := [_, _, _, _]) hrow] at h
  rcases o with _ | _ | _ | _ | o <;> simp at h

/-- An index in memory: how many records, and their tree. -/
structure IdxAt (w : World) (g : Nat) (t : Tr ItD) : Prop where
  row : w.heap[g]? = some (.cells #[.int .i64 t.toList.length, .pointer t.addr] 148 (0, 0))
  at_ : t.At ItD.val w
  nodup : t.blocks.Nodup
  in_ : ∀ y ∈ t.toList, y.In w
theorem IdxAt.off {w : World} {g : Nat} {t : Tr ItD} (h : IdxAt w g t) : g ∉ t.blocks := fun hg => by
  obtain ⟨u, l, r, b, hrow⟩ := h.at_.row g hg
  rw [h.row] at hrow
  have := congrArg (fun o => match o with | some (Obj.cells cs _ _) => cs.size | _ => 0) hrow
  simp at this
theorem IdxAt.noByte {w : World} {g : Nat} {t : Tr ItD} (h : IdxAt w g t) : ∀ k, (k = g ∨ k ∈ t.blocks) → NoByte w k := by
  rintro k (rfl | hk)
  · intro o v hc
    rw [cell_of_row' (cur := [_, _]) h.row] at hc
    rcases o with _ | _ | o <;> simp at hc
  · exact noByte_node h.at_ k hk
theorem IdxAt.below {w w' : World} {g : Nat} {t : Tr ItD} (h : IdxAt w g t) (hb : Below w.heap.size w w') : IdxAt w' g t :=
  ⟨row_below hb (block_of_row h.row) h.row, h.at_.below hb, h.nodup, fun y hy => (h.in_ y hy).below hb⟩

/-- An item of the tree put in. -/
abbrev Tr.put (t : Tr ItD) (q : Nat) (x : ItD) : Tr ItD := (t.ins ItD.lt q x).blacken

theorem Tr.up3_node {α : Type} (p : Nat) (l : Tr α) (x : α) (r : Tr α) (b : Bool) : ∃ p' l' x' r' b', (Tr.node p l x r b).up3 = .node p' l' x' r' b' := by
  unfold Tr.up3
  split
  · exact ⟨_, _, _, _, _, rfl⟩
  · exact ⟨_, _, _, _, _, rfl⟩
theorem Tr.ins_node {α : Type} (lt : α → α → Bool) (q : Nat) (x : α) (t : Tr α) : ∃ p' l' x' r' b', t.ins lt q x = .node p' l' x' r' b' := by
  have hup : ∀ (p : Nat) (l : Tr α) (x : α) (r : Tr α) (b : Bool), ∃ p' l' x' r' b', (Tr.node p l x r b).up = .node p' l' x' r' b' := fun p l x r b => by
    unfold Tr.up
    obtain ⟨p1, l1, x1, r1, b1, e1⟩ := Tr.up1_node p l x r b
    rw [e1]
    obtain ⟨p2, l2, x2, r2, b2, e2⟩ := Tr.up2_node p1 l1 x1 r1 b1
    rw [e2]
    exact Tr.up3_node _ _ _ _ _
  cases t with
  | nil => exact ⟨_, _, _, _, _, rfl⟩
  | node p l y r b =>
    unfold Tr.ins
    split
    · exact hup _ _ _ _ _
    · exact hup _ _ _ _ _
theorem Tr.length_ins {α : Type} (lt : α → α → Bool) (q : Nat) (x : α) (t : Tr α) : (t.ins lt q x).toList.length = t.toList.length + 1 := by
  rw [Tr.length_toList, (Tr.blocks_ins lt q x t).length_eq, Tr.length_toList]
  rfl

/-- What an insertion leaves of the index. -/
def PutAt (g : Nat) (t : Tr ItD) (x : ItD) (w w' : World) : Prop := ∃ q, w.heap.size ≤ q ∧ IdxAt w' g (t.put q x) ∧ Keep (fun k => k = g ∨ k ∈ t.blocks) w w'

theorem ItD.mem_ins {q : Nat} {x : ItD} : ∀ {t : Tr ItD} {y : ItD}, y ∈ (t.ins ItD.lt q x).toList → y = x ∨ y ∈ t.toList
  | .nil, y, h => by simp [Tr.ins, Tr.toList] at h; exact .inl h
  | .node p l z r b, y, h => by
    unfold Tr.ins at h
    rw [Tr.toList_up] at h
    split at h
    · simp only [Tr.toList, List.mem_append, List.mem_cons] at h ⊢
      rcases h with h | h | h
      · rcases ItD.mem_ins h with h | h
        · exact .inl h
        · exact .inr (.inl h)
      · exact .inr (.inr (.inl h))
      · exact .inr (.inr (.inr h))
    · simp only [Tr.toList, List.mem_append, List.mem_cons] at h ⊢
      rcases h with h | h | h
      · exact .inr (.inl h)
      · exact .inr (.inr (.inl h))
      · rcases ItD.mem_ins h with h | h
        · exact .inl h
        · exact .inr (.inr (.inr h))

/-- The three stores behind the insertion. -/
theorem put_at {g : Nat} {t : Tr ItD} {x : ItD} {w w1 : World} (h : IdxAt w g t) (hx : x.In w) {q : Nat} (hq : w.heap.size ≤ q) (ht : (t.ins ItD.lt q x).At ItD.val w1) (hk : Keep (fun k => k ∈ t.blocks) w w1) {p' : Nat} {l' r' : Tr ItD} {x' : ItD} {b' : Bool} (he : t.ins ItD.lt q x = .node p' l' x' r' b') :
    PutAt g t x w (((w1.setCell ⟨g, 1, none⟩ (.pointer (some ⟨p', 0, none⟩))).setCell ⟨p', 3, none⟩ (.bool true)).setCell ⟨g, 0, none⟩ (.int .i64 (t.toList.length + 1 : Nat))) := by
  have hgt := h.off
  have hg1 : w1.heap[g]? = some (.cells #[.int .i64 t.toList.length, .pointer t.addr] 148 (0, 0)) := hk.row h.row hgt
  have hbl : ∀ k, k ∈ (t.ins ItD.lt q x).blocks ↔ k = q ∨ k ∈ t.blocks := fun k => by rw [(Tr.blocks_ins ItD.lt q x t).mem_iff, List.mem_cons]
  have hgl := block_of_row h.row
  have hgi : g ∉ (t.ins ItD.lt q x).blocks := fun hm => by
    rcases (hbl g).1 hm with h | h
    · omega
    · exact hgt h
  have hp' : p' ∈ (t.ins ItD.lt q x).blocks := by rw [he]; simp [Tr.blocks]
  have hpg : p' ≠ g := fun e => hgi (e ▸ hp')
  have hnd : (t.ins ItD.lt q x).blocks.Nodup := (Tr.blocks_ins ItD.lt q x t).nodup_iff.2 (List.nodup_cons.2 ⟨fun hm => absurd (h.at_.lt q hm) (by omega), h.nodup⟩)
  have hkA : Keep (fun k => k = g ∨ k = p') w1 (((w1.setCell ⟨g, 1, none⟩ (.pointer (some ⟨p', 0, none⟩))).setCell ⟨p', 3, none⟩ (.bool true)).setCell ⟨g, 0, none⟩ (.int .i64 (t.toList.length + 1 : Nat))) :=
    (((Keep.refl _ w1).setCell (.inl rfl) _ _).setCell (.inr rfl) _ _).setCell (.inl rfl) _ _
  have hkall : Keep (fun k => k = g ∨ k ∈ t.blocks) w (((w1.setCell ⟨g, 1, none⟩ (.pointer (some ⟨p', 0, none⟩))).setCell ⟨p', 3, none⟩ (.bool true)).setCell ⟨g, 0, none⟩ (.int .i64 (t.toList.length + 1 : Nat))) :=
    (hk.mono (T := fun k => k = g ∨ k ∈ t.blocks) fun k _ h => .inr h).trans2 hkA fun k hkw hkk => by
      rcases hkk with rfl | rfl
      · exact .inl rfl
      · rcases (hbl k).1 hp' with h | h
        · omega
        · exact .inr h
  refine ⟨q, hq, ⟨?_, ?_, ?_, ?_⟩, hkall⟩
  · have e1 : (t.put q x).toList.length = t.toList.length + 1 := by rw [Tr.toList_blacken, Tr.length_ins]
    have e2 : (t.put q x).addr = some ⟨p', 0, none⟩ := by show (t.ins ItD.lt q x).blacken.addr = _; rw [he]; rfl
    rw [e1, e2]
    have r1 : (w1.setCell ⟨g, 1, none⟩ (.pointer (some ⟨p', 0, none⟩))).heap[g]? = some (.cells #[.int .i64 t.toList.length, .pointer (some ⟨p', 0, none⟩)] 148 (0, 0)) := Lib.heap_setCell_same (i := 1) hg1 _
    have r2 : ((w1.setCell ⟨g, 1, none⟩ (.pointer (some ⟨p', 0, none⟩))).setCell ⟨p', 3, none⟩ (.bool true)).heap[g]? = some (.cells #[.int .i64 t.toList.length, .pointer (some ⟨p', 0, none⟩)] 148 (0, 0)) :=
      (Keep.setCell (S := fun k => k = p') (Keep.refl _ _) rfl _ _).row r1 (fun e => hpg e.symm)
    exact Lib.heap_setCell_same (i := 0) r2 _
  · show (t.ins ItD.lt q x).blacken.At ItD.val _
    rw [he] at ht hnd hgi ⊢
    simp only [Tr.blocks, List.nodup_cons, List.mem_append, List.nodup_append, not_or] at hnd
    simp only [Tr.blocks, List.mem_cons, List.mem_append, not_or] at hgi
    refine ⟨?_, ht.2.1.keep hkA fun k hm e => ?_, ht.2.2.keep hkA fun k hm e => ?_⟩
    · have r1 : (w1.setCell ⟨g, 1, none⟩ (.pointer (some ⟨p', 0, none⟩))).heap[p']? = _ := (Keep.setCell (S := fun k => k = g) (Keep.refl _ _) rfl _ _).row ht.1 hpg
      exact (Keep.setCell (S := fun k => k = g) (Keep.refl _ _) rfl _ _).row ((node_set r1).2.2 true) hpg
    · rcases e with rfl | rfl
      · exact hgi.2.1 hm
      · exact hnd.1.1 hm
    · rcases e with rfl | rfl
      · exact hgi.2.2 hm
      · exact hnd.1.2 hm
  · show (t.ins ItD.lt q x).blacken.blocks.Nodup
    rw [Tr.blocks_blacken]; exact hnd
  · intro y hy
    rw [Tr.toList_blacken] at hy
    rcases ItD.mem_ins hy with rfl | hy
    · exact hx.keep' hkall h.noByte
    · exact (h.in_ y hy).keep' hkall h.noByte

set_option maxRecDepth 100000 in
set_option maxHeartbeats 2000000 in
theorem llrbPut (x : ItD) (t : Tr ItD) (g : Nat) (w : World) (h : IdxAt w g t) (hx : x.In w) (hn : t.toList.length < 1000000) :
    Calls Tryd.prog 91 #[.pointer (some ⟨g, 0, none⟩), x.item] w fun e w' => e = .returned (.tuple #[]) ∧ PutAt g t x w w' := by
  have HI := Lib.hid (insert_any x t w (some ⟨g, 0, none⟩) h.at_ h.nodup hx h.in_)
  have c0 := cell_of_row' (cur := [_, _]) h.row 0
  have c1 := cell_of_row' (cur := [_, _]) h.row 1
  have k0 : w.cell? ⟨g, 0, none⟩ = some (.int .i64 t.toList.length) := c0
  have k1 : w.cell? ⟨g, 1, none⟩ = some (.pointer t.addr) := c1
  have hqe : (binOp .eql 141 x.item .nilIface).run Tryd.prog w = .ok (.bool false) w := by kernel_rfl
  have HT := Lib.hid h
  have HX := Lib.hid hx
  obtain ⟨n, hN⟩ : ∃ n, n = t.toList.length := ⟨_, rfl⟩
  rw [← hN] at hn k0
  have HN := Lib.hid hN
  clear h hx c0 c1 hN
  go_enter Tryd.func91, Tryd.ntmps91
  go_wp2_with fail
  refine HI.out.mono ?_
  rintro e w1 ⟨q, hq, rfl, ht, hk⟩
  obtain ⟨p', l', x', r', b', he⟩ := Tr.ins_node ItD.lt q x t
  have HP := Lib.hid (put_at HT.out HX.out hq ht hk he)
  have hg1 := hk.row HT.out.row HT.out.off
  have hp1 : w1.heap[p']? = some (ndO x'.val l'.addr r'.addr b') := by rw [he] at ht; exact ht.1
  have hpg : g ≠ p' := fun e => by
    rw [e, hp1] at hg1
    have := congrArg (fun o => match o with | some (Obj.cells cs _ _) => cs.size | _ => 0) hg1
    simp at this
  have hgp : p' ≠ g := hpg.symm
  have j0 : w1.cell? ⟨g, 0, none⟩ = some (.int .i64 n) := by rw [HN.out]; exact cell_of_row' (cur := [_, _]) hg1 0
  have j1 : w1.cell? ⟨g, 1, none⟩ = some (.pointer t.addr) := cell_of_row' (cur := [_, _]) hg1 1
  have f0 := frozen_of_row' (cur := [_, _]) hg1 0
  have f1 := frozen_of_row' (cur := [_, _]) hg1 1
  obtain ⟨⟨_, _, _, d3⟩, _, _, _, e3⟩ := node_cells hp1
  rw [show (t.ins ItD.lt q x).addr = some ⟨p', 0, none⟩ by rw [he]; rfl]
  rw [← HN.out] at HP
  clear hq ht hk he hg1 hp1 hqe k0 k1 HI
  go_wp2
  go_end0
  exact ⟨rfl, by rw [show ((n : Int) + 1) = ((n + 1 : Nat) : Int) by omega]; exact HP.out⟩
end Go.Proofs.YthfgnhgijgjggaaDoor
