/- Contracts: an LLRB tree in memory: isRed, newNode, rotateLeft, rotateRight, flip. -/
import Derived.Test.YthfgnhgijgjggaaDoorProg
import Derived.Test.YthfgnhgijgjggaaDoorRdrMem
import Derived.Test.YthfgnhgijgjggaaDoorIiPlain
import Derived.WalkKit
import Derived.RegionTactic
import Derived.ChangeAlike
import Derived.Deep.QuietTactic
import Derived.BigQuiet
import Derived.Lib.Hide
import Derived.Deep.Draws
import Derived.Outline
namespace Go.Proofs.YthfgnhgijgjggaaDoor
open Go.RowKit

section
variable {α : Type}
/-- Where a tree lies. -/
def Tr.addr : Tr α → Option Addr
  | .nil => none
  | .node p _ _ _ _ => some ⟨p, 0, none⟩
/-- A node in memory. -/
abbrev ndO (v : Value) (l r : Option Addr) (b : Bool) : Obj := .cells #[.iface 139 v, .pointer l, .pointer r, .bool b] 211 (0, 0)
/-- The tree lies in memory. -/
def Tr.At (it : α → Value) (w : World) : Tr α → Prop
  | .nil => True
  | .node p l x r b => w.heap[p]? = some (ndO (it x) l.addr r.addr b) ∧ l.At it w ∧ r.At it w
theorem Tr.At.keep {it : α → Value} {S : Nat → Prop} {w w' : World} (hk : Keep S w w') : ∀ {t : Tr α}, t.At it w → (∀ p ∈ t.blocks, ¬ S p) → t.At it w'
  | .nil, _, _ => trivial
  | .node p l x r b, ⟨h, hl, hr⟩, hS => ⟨hk.row h (hS p (by simp [Tr.blocks])), Tr.At.keep hk hl (fun q hq => hS q (by simp [Tr.blocks, hq])), Tr.At.keep hk hr (fun q hq => hS q (by simp [Tr.blocks, hq]))⟩
theorem Tr.At.lt {it : α → Value} {w : World} : ∀ {t : Tr α}, t.At it w → ∀ p ∈ t.blocks, p < w.heap.size
  | .nil, _, _, hp => by simp [Tr.blocks] at hp
  | .node q l x r b, ⟨h, hl, hr⟩, p, hp => by
    simp only [Tr.blocks, List.mem_cons, List.mem_append] at hp
    rcases hp with rfl | hp | hp
    · exact block_of_row h
    · exact Tr.At.lt hl p hp
    · exact Tr.At.lt hr p hp
theorem Tr.At.below {it : α → Value} {w w' : World} {t : Tr α} (h : t.At it w) (hb : Below w.heap.size w w') : t.At it w' := h.keep (S := fun _ => False) hb.keep (fun _ _ h => h)
end

/-- The cells of a node. -/
theorem node_cells {w : World} {p : Nat} {v : Value} {l r : Option Addr} {b : Bool} (h : w.heap[p]? = some (ndO v l r b)) :
    (w.cell? ⟨p, 0, none⟩ = some (.iface 139 v) ∧ w.cell? ⟨p, 1, none⟩ = some (.pointer l) ∧ w.cell? ⟨p, 2, none⟩ = some (.pointer r) ∧ w.cell? ⟨p, 3, none⟩ = some (.bool b)) ∧
    (w.frozen? ⟨p, 0, none⟩ = false ∧ w.frozen? ⟨p, 1, none⟩ = false ∧ w.frozen? ⟨p, 2, none⟩ = false ∧ w.frozen? ⟨p, 3, none⟩ = false) :=
  ⟨⟨cell_of_row' (cur := [_, _, _, _]) h 0, cell_of_row' (cur := [_, _, _, _]) h 1, cell_of_row' (cur := [_, _, _, _]) h 2, cell_of_row' (cur := [_, _, _, _]) h 3⟩,
   ⟨frozen_of_row' (cur := [_, _, _, _]) h 0, frozen_of_row' (cur := [_, _, _, _]) h 1, frozen_of_row' (cur := [_, _, _, _]) h 2, frozen_of_row' (cur := [_, _, _, _]) h 3⟩⟩
theorem node_set {w : World} {p : Nat} {v : Value} {l r : Option Addr} {b : Bool} (h : w.heap[p]? = some (ndO v l r b)) :
    (∀ x, (w.setCell ⟨p, 1, none⟩ (.pointer x)).heap[p]? = some (ndO v x r b)) ∧ (∀ x, (w.setCell ⟨p, 2, none⟩ (.pointer x)).heap[p]? = some (ndO v l x b)) ∧ (∀ x, (w.setCell ⟨p, 3, none⟩ (.bool x)).heap[p]? = some (ndO v l r x)) :=
  ⟨fun x => Lib.heap_setCell_same (i := 1) h (.pointer x), fun x => Lib.heap_setCell_same (i := 2) h (.pointer x), fun x => Lib.heap_setCell_same (i := 3) h (.bool x)⟩
theorem node_far {w : World} {p q o : Nat} {v : Value} {l r : Option Addr} {b : Bool} (h : w.heap[p]? = some (ndO v l r b)) (hne : q ≠ p) (x : Value) : (w.setCell ⟨q, o, none⟩ x).heap[p]? = some (ndO v l r b) :=
  (Keep.setCell (S := fun k => k = q) (Keep.refl _ w) rfl o x).row h (fun e => hne e.symm)

section
variable {α : Type} (it : α → Value)

set_option maxRecDepth 100000 in
theorem isRed_any (t : Tr α) (w : World) (h : t.At it w) : Calls Tryd.prog 120 #[.pointer t.addr] w fun e w' => e = .returned (.bool t.red) ∧ w' = w := by
  cases t with
  | nil =>
    clear h
    show Calls Tryd.prog 120 #[.pointer none] w fun e w' => e = .returned (.bool false) ∧ w' = w
    go_enter Tryd.func120, Tryd.ntmps120
    go_wp2
    go_ret
    exact ⟨rfl, rfl⟩
  | node p l x r b =>
    obtain ⟨⟨_, _, _, c3⟩, _⟩ := node_cells h.1
    clear h
    show Calls Tryd.prog 120 #[.pointer (some ⟨p, 0, none⟩)] w fun e w' => e = .returned (.bool !b) ∧ w' = w
    go_enter Tryd.func120, Tryd.ntmps120
    go_wp2
    go_ret
    exact ⟨rfl, rfl⟩

set_option maxRecDepth 100000 in
theorem newNode_any (v : Value) (w : World) : Calls Tryd.prog 114 #[.iface 139 v] w fun e w' => e = .returned (.pointer (some ⟨w.heap.size, 0, none⟩)) ∧ w' = w.alloc (ndO v none none false) := by
  go_enter Tryd.func114, Tryd.ntmps114
  go_wp2
  go_ret
  exact ⟨rfl, rfl⟩

/-- Two nodes turned to the left. -/
theorem rotL_at {p q : Nat} {l rl rr : Tr α} {x y : α} {b c : Bool} {w : World} (h : (Tr.node p l x (.node q rl y rr c) b).At it w) (hn : (Tr.node p l x (.node q rl y rr c) b).blocks.Nodup) :
    ((Tr.node p l x (.node q rl y rr c) b).rotL).At it ((((w.setCell ⟨p, 2, none⟩ (.pointer rl.addr)).setCell ⟨q, 1, none⟩ (.pointer (some ⟨p, 0, none⟩))).setCell ⟨q, 3, none⟩ (.bool b)).setCell ⟨p, 3, none⟩ (.bool false)) ∧
      Keep (fun k => k = p ∨ k = q) w ((((w.setCell ⟨p, 2, none⟩ (.pointer rl.addr)).setCell ⟨q, 1, none⟩ (.pointer (some ⟨p, 0, none⟩))).setCell ⟨q, 3, none⟩ (.bool b)).setCell ⟨p, 3, none⟩ (.bool false)) := by
  obtain ⟨hp, hl, hq, hrl, hrr⟩ := h
  simp only [Tr.blocks, List.nodup_cons, List.mem_append, List.mem_cons, List.nodup_append, not_or] at hn
  obtain ⟨⟨np1, np2, np3, np4⟩, n1, ⟨⟨nq1, nq2⟩, n2⟩, n3⟩ := hn
  have hpq : p ≠ q := np2
  have hk : Keep (fun k => k = p ∨ k = q) w ((((w.setCell ⟨p, 2, none⟩ (.pointer rl.addr)).setCell ⟨q, 1, none⟩ (.pointer (some ⟨p, 0, none⟩))).setCell ⟨q, 3, none⟩ (.bool b)).setCell ⟨p, 3, none⟩ (.bool false)) :=
    ((((Keep.refl _ w).setCell (.inl rfl) _ _).setCell (.inr rfl) _ _).setCell (.inr rfl) _ _).setCell (.inl rfl) _ _
  refine ⟨⟨?_, ⟨?_, hl.keep hk fun k hm => ?_, hrl.keep hk fun k hm => ?_⟩, hrr.keep hk fun k hm => ?_⟩, hk⟩
  · exact node_far ((node_set ((node_set (node_far hq hpq _)).1 _)).2.2 b) hpq _
  · exact (node_set (node_far (node_far ((node_set hp).2.1 _) hpq.symm _) hpq.symm _)).2.2 false
  · rintro (rfl | rfl)
    · exact np1 hm
    · exact n3 _ hm _ (.inl rfl) rfl
  · rintro (rfl | rfl)
    · exact np3 hm
    · exact nq1 hm
  · rintro (rfl | rfl)
    · exact np4 hm
    · exact nq2 hm

set_option maxRecDepth 100000 in
set_option maxHeartbeats 1000000 in
theorem rotateLeft_any (p q : Nat) (l rl rr : Tr α) (x y : α) (b : Bool) (w : World) (h : (Tr.node p l x (.node q rl y rr false) b).At it w) (hn : (Tr.node p l x (.node q rl y rr false) b).blocks.Nodup) :
    Calls Tryd.prog 121 #[.pointer (some ⟨p, 0, none⟩)] w fun e w' => e = .returned (.pointer (Tr.node p l x (.node q rl y rr false) b).rotL.addr) ∧ (Tr.node p l x (.node q rl y rr false) b).rotL.At it w' ∧ Keep (fun k => k = p ∨ k = q) w w' := by
  have H := Lib.hid (rotL_at it h hn)
  have hpq : p ≠ q := by
    simp only [Tr.blocks, List.nodup_cons, List.mem_append, List.mem_cons, not_or] at hn
    exact hn.1.2.1
  have hqp : q ≠ p := hpq.symm
  obtain ⟨hp, _, hq, _, _⟩ := h
  obtain ⟨⟨p0, p1, p2, p3⟩, fp0, fp1, fp2, fp3⟩ := node_cells hp
  obtain ⟨⟨q0, q1, q2, q3⟩, fq0, fq1, fq2, fq3⟩ := node_cells hq
  have p2' : w.cell? ⟨p, 2, none⟩ = some (.pointer (some ⟨q, 0, none⟩)) := p2
  clear hn hp hq p2
  show Calls _ _ _ _ fun e w' => e = .returned (.pointer (some ⟨q, 0, none⟩)) ∧ _
  go_enter Tryd.func121, Tryd.ntmps121
  go_wp2
  go_ret
  exact ⟨rfl, H.out⟩

/-- Two nodes turned to the right. -/
theorem rotR_at {p q : Nat} {r ll lr : Tr α} {x y : α} {b c : Bool} {w : World} (h : (Tr.node p (.node q ll y lr c) x r b).At it w) (hn : (Tr.node p (.node q ll y lr c) x r b).blocks.Nodup) :
    ((Tr.node p (.node q ll y lr c) x r b).rotR).At it ((((w.setCell ⟨p, 1, none⟩ (.pointer lr.addr)).setCell ⟨q, 2, none⟩ (.pointer (some ⟨p, 0, none⟩))).setCell ⟨q, 3, none⟩ (.bool b)).setCell ⟨p, 3, none⟩ (.bool false)) ∧
      Keep (fun k => k = p ∨ k = q) w ((((w.setCell ⟨p, 1, none⟩ (.pointer lr.addr)).setCell ⟨q, 2, none⟩ (.pointer (some ⟨p, 0, none⟩))).setCell ⟨q, 3, none⟩ (.bool b)).setCell ⟨p, 3, none⟩ (.bool false)) := by
  obtain ⟨hp, ⟨hq, hll, hlr⟩, hr⟩ := h
  simp only [Tr.blocks, List.nodup_cons, List.mem_append, List.mem_cons, List.nodup_append, List.cons_append, not_or] at hn
  obtain ⟨⟨np1, ⟨np2, np3⟩, np4⟩, ⟨⟨nq1, nq2⟩, nq3⟩, ⟨n1, n2, n3⟩, n4, n5⟩ := hn
  have hpq : p ≠ q := np1
  have hk : Keep (fun k => k = p ∨ k = q) w ((((w.setCell ⟨p, 1, none⟩ (.pointer lr.addr)).setCell ⟨q, 2, none⟩ (.pointer (some ⟨p, 0, none⟩))).setCell ⟨q, 3, none⟩ (.bool b)).setCell ⟨p, 3, none⟩ (.bool false)) :=
    ((((Keep.refl _ w).setCell (.inl rfl) _ _).setCell (.inr rfl) _ _).setCell (.inr rfl) _ _).setCell (.inl rfl) _ _
  refine ⟨⟨?_, hll.keep hk fun k hm => ?_, ?_, hlr.keep hk fun k hm => ?_, hr.keep hk fun k hm => ?_⟩, hk⟩
  · exact node_far ((node_set ((node_set (node_far hq hpq _)).2.1 _)).2.2 b) hpq _
  · rintro (rfl | rfl)
    · exact np2 hm
    · exact nq1 hm
  · exact (node_set (node_far (node_far ((node_set hp).1 _) hpq.symm _) hpq.symm _)).2.2 false
  · rintro (rfl | rfl)
    · exact np3 hm
    · exact nq2 hm
  · rintro (rfl | rfl)
    · exact np4 hm
    · exact nq3 hm

set_option maxRecDepth 100000 in
set_option maxHeartbeats 1000000 in
theorem rotateRight_any (p q : Nat) (r ll lr : Tr α) (x y : α) (b : Bool) (w : World) (h : (Tr.node p (.node q ll y lr false) x r b).At it w) (hn : (Tr.node p (.node q ll y lr false) x r b).blocks.Nodup) :
    Calls Tryd.prog 122 #[.pointer (some ⟨p, 0, none⟩)] w fun e w' => e = .returned (.pointer (Tr.node p (.node q ll y lr false) x r b).rotR.addr) ∧ (Tr.node p (.node q ll y lr false) x r b).rotR.At it w' ∧ Keep (fun k => k = p ∨ k = q) w w' := by
  have H := Lib.hid (rotR_at it h hn)
  have hpq : p ≠ q := by
    simp only [Tr.blocks, List.nodup_cons, List.mem_append, List.mem_cons, List.cons_append, not_or] at hn
    exact hn.1.1
  have hqp : q ≠ p := hpq.symm
  obtain ⟨hp, ⟨hq, _, _⟩, _⟩ := h
  obtain ⟨⟨p0, p1, p2, p3⟩, fp0, fp1, fp2, fp3⟩ := node_cells hp
  obtain ⟨⟨q0, q1, q2, q3⟩, fq0, fq1, fq2, fq3⟩ := node_cells hq
  have p1' : w.cell? ⟨p, 1, none⟩ = some (.pointer (some ⟨q, 0, none⟩)) := p1
  clear hn hp hq p1
  show Calls _ _ _ _ fun e w' => e = .returned (.pointer (some ⟨q, 0, none⟩)) ∧ _
  go_enter Tryd.func122, Tryd.ntmps122
  go_wp2
  go_ret
  exact ⟨rfl, H.out⟩

/-- Three nodes whose colours are turned. -/
theorem flip_at {p q s : Nat} {ll lr rl rr : Tr α} {x y z : α} {b c d : Bool} {w : World} (h : (Tr.node p (.node q ll y lr c) x (.node s rl z rr d) b).At it w) (hn : (Tr.node p (.node q ll y lr c) x (.node s rl z rr d) b).blocks.Nodup) :
    ((Tr.node p (.node q ll y lr c) x (.node s rl z rr d) b).flip).At it (((w.setCell ⟨p, 3, none⟩ (.bool !b)).setCell ⟨q, 3, none⟩ (.bool !c)).setCell ⟨s, 3, none⟩ (.bool !d)) ∧
      Keep (fun k => k = p ∨ k = q ∨ k = s) w (((w.setCell ⟨p, 3, none⟩ (.bool !b)).setCell ⟨q, 3, none⟩ (.bool !c)).setCell ⟨s, 3, none⟩ (.bool !d)) := by
  obtain ⟨hp, ⟨hq, hll, hlr⟩, hs, hrl, hrr⟩ := h
  simp only [Tr.blocks, List.nodup_cons, List.mem_append, List.mem_cons, List.nodup_append, List.cons_append, not_or] at hn
  obtain ⟨⟨np1, ⟨np2, np3⟩, np4, np5, np6⟩, ⟨⟨nq1, nq2⟩, nq3, nq4, nq5⟩, ⟨n1, n2, n3⟩, ⟨⟨ns1, ns2⟩, n4⟩, n5⟩ := hn
  have hpq : p ≠ q := np1
  have hps : p ≠ s := np4
  have hqs : q ≠ s := nq3
  have hk : Keep (fun k => k = p ∨ k = q ∨ k = s) w (((w.setCell ⟨p, 3, none⟩ (.bool !b)).setCell ⟨q, 3, none⟩ (.bool !c)).setCell ⟨s, 3, none⟩ (.bool !d)) :=
    (((Keep.refl _ w).setCell (.inl rfl) _ _).setCell (.inr (.inl rfl)) _ _).setCell (.inr (.inr rfl)) _ _
  refine ⟨⟨?_, ⟨?_, hll.keep hk fun k hm => ?_, hlr.keep hk fun k hm => ?_⟩, ?_, hrl.keep hk fun k hm => ?_, hrr.keep hk fun k hm => ?_⟩, hk⟩
  · exact node_far (node_far ((node_set hp).2.2 _) hpq.symm _) hps.symm _
  · exact node_far ((node_set (node_far hq hpq _)).2.2 _) hqs.symm _
  · rintro (rfl | rfl | rfl)
    · exact np2 hm
    · exact nq1 hm
    · exact n5 _ (.inl hm) _ (.inl rfl) rfl
  · rintro (rfl | rfl | rfl)
    · exact np3 hm
    · exact nq2 hm
    · exact n5 _ (.inr hm) _ (.inl rfl) rfl
  · exact (node_set (node_far (node_far hs hps _) hqs _)).2.2 _
  · rintro (rfl | rfl | rfl)
    · exact np5 hm
    · exact nq4 hm
    · exact ns1 hm
  · rintro (rfl | rfl | rfl)
    · exact np6 hm
    · exact nq5 hm
    · exact ns2 hm

set_option maxRecDepth 100000 in
set_option maxHeartbeats 1000000 in
theorem flip_any (p q s : Nat) (ll lr rl rr : Tr α) (x y z : α) (b c d : Bool) (w : World) (h : (Tr.node p (.node q ll y lr c) x (.node s rl z rr d) b).At it w) (hn : (Tr.node p (.node q ll y lr c) x (.node s rl z rr d) b).blocks.Nodup) :
    Calls Tryd.prog 123 #[.pointer (some ⟨p, 0, none⟩)] w fun e w' => e = .returned (.tuple #[]) ∧ (Tr.node p (.node q ll y lr c) x (.node s rl z rr d) b).flip.At it w' ∧ Keep (fun k => k = p ∨ k = q ∨ k = s) w w' := by
  have H := Lib.hid (flip_at it h hn)
  obtain ⟨hpq, hps, hqs⟩ : p ≠ q ∧ p ≠ s ∧ q ≠ s := by
    simp only [Tr.blocks, List.nodup_cons, List.mem_append, List.mem_cons, List.cons_append, not_or] at hn
    exact ⟨hn.1.1, hn.1.2.2.1, hn.2.1.2.1⟩
  have hqp := hpq.symm
  have hsp := hps.symm
  have hsq := hqs.symm
  obtain ⟨hp, ⟨hq, _, _⟩, hs, _, _⟩ := h
  obtain ⟨⟨p0, p1, p2, p3⟩, fp0, fp1, fp2, fp3⟩ := node_cells hp
  obtain ⟨⟨q0, q1, q2, q3⟩, fq0, fq1, fq2, fq3⟩ := node_cells hq
  obtain ⟨⟨s0, s1, s2, s3⟩, fs0, fs1, fs2, fs3⟩ := node_cells hs
  have p1' : w.cell? ⟨p, 1, none⟩ = some (.pointer (some ⟨q, 0, none⟩)) := p1
  have p2' : w.cell? ⟨p, 2, none⟩ = some (.pointer (some ⟨s, 0, none⟩)) := p2
  clear hn hp hq hs p1 p2 p0 q0 q1 q2 s0 s1 s2
  go_enter Tryd.func123, Tryd.ntmps123
  go_wp2
  go_region
  all_goals
    go_wp2
    go_region
  all_goals
    go_end0
    exact ⟨rfl, (H.out.1.keep (keep_drew (fun _ => False) _) (fun _ _ h => h)).keep (keep_drew (fun _ => False) _) (fun _ _ h => h), (H.out.2.trans (keep_drew _ _)).trans (keep_drew _ _)⟩
end
end Go.Proofs.YthfgnhgijgjggaaDoor
