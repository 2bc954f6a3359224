/- Contracts: an item put into an LLRB tree. -/
import Derived.Test.YthfgnhgijgjggaaDoorIiC
namespace Go.Proofs.YthfgnhgijgjggaaDoor
open Go.RowKit

theorem Tr.At.row {α : Type} {it : α → Value} {w : World} : ∀ {t : Tr α}, t.At it w → ∀ p ∈ t.blocks, ∃ v l r b, w.heap[p]? = some (ndO v l r b)
  | .nil, _, _, hp => by simp [Tr.blocks] at hp
  | .node q l x r b, ⟨h, hl, hr⟩, p, hp => by
    simp only [Tr.blocks, List.mem_cons, List.mem_append] at hp
    rcases hp with rfl | hp | hp
    · exact ⟨_, _, _, _, h⟩
    · exact Tr.At.row hl p hp
    · exact Tr.At.row hr p hp

/-- No digest lies in a node. -/
theorem ItD.In.keep {x : ItD} {w w' : World} {t : Tr ItD} (h : x.In w) (ht : t.At ItD.val w) (hk : Keep (fun k => k ∈ t.blocks) w w') : x.In w' := by
  obtain ⟨A, c, h1, h2, h3⟩ := h
  refine ⟨A, c, h1, h2, fun h0 => ?_⟩
  obtain ⟨b, o, e, hc⟩ := h3 h0
  refine ⟨b, o, e, fun j hj => hk.cell (hc j hj) fun hb => ?_⟩
  obtain ⟨v, l, r, b', hrow⟩ := ht.row b hb
  have h4 := hc j hj
  rw [cell_of_row' (cur := [_, _, _, _]) hrow] at h4
  generalize o + j = i at h4
  rcases i with _ | _ | _ | _ | k <;> simp at h4
theorem ItD.In.below {x : ItD} {w w' : World} (h : x.In w) (hb : Below w.heap.size w w') : x.In w' := BS.below h hb

/-- The order of items. -/
abbrev ItD.lt (x y : ItD) : Bool := blt x.dig y.dig

/-- What an insertion leaves. -/
def InsAt (x : ItD) (t : Tr ItD) (w : World) (e : Ending) (w' : World) : Prop :=
  ∃ q, w.heap.size ≤ q ∧ e = .returned (.pointer (t.ins ItD.lt q x).addr) ∧ (t.ins ItD.lt q x).At ItD.val w' ∧ Keep (fun k => k ∈ t.blocks) w w'

set_option maxRecDepth 100000 in
theorem walkDown_any (a : Option Addr) (w : World) : Calls Tryd.prog 115 #[.pointer a] w fun e w' => e = .returned (.pointer a) ∧ w' = w := by
  go_enter Tryd.func115, Tryd.ntmps115
  go_wp2
  go_ret
  exact ⟨rfl, rfl⟩

/-- The tree with another left side. -/
theorem ins_left {x y : ItD} {p : Nat} {l r : Tr ItD} {b : Bool} {w w1 w2 : World} (h : (Tr.node p l y r b).At ItD.val w) (hn : (Tr.node p l y r b).blocks.Nodup) (hb : Below w.heap.size w w1) {q : Nat} (hq : w1.heap.size ≤ q)
    (h2 : (l.ins ItD.lt q x).At ItD.val w2) (hk : Keep (fun k => k ∈ l.blocks) w1 w2) :
    (Tr.node p (l.ins ItD.lt q x) y r b).At ItD.val (w2.setCell ⟨p, 1, none⟩ (.pointer (l.ins ItD.lt q x).addr)) ∧ (Tr.node p (l.ins ItD.lt q x) y r b).blocks.Nodup ∧
      Keep (fun k => k ∈ (Tr.node p l y r b).blocks) w (w2.setCell ⟨p, 1, none⟩ (.pointer (l.ins ItD.lt q x).addr)) ∧ (∀ k, k ∈ (Tr.node p (l.ins ItD.lt q x) y r b).blocks → k = q ∨ k ∈ (Tr.node p l y r b).blocks) ∧
      w2.heap[p]? = some (ndO y.val l.addr r.addr b) := by
  have hn0 := hn
  obtain ⟨hp, hl, hr⟩ := h
  simp only [Tr.blocks, List.nodup_cons, List.mem_append, List.nodup_append, not_or] at hn
  obtain ⟨⟨n1, n2⟩, n3, n4, n5⟩ := hn
  have hpl := block_of_row hp
  have hr1 := hb.keep.row (S := fun _ => False) hp (fun h => h)
  have hp2 := hk.row hr1 n1
  have hs1 := hb.size
  have hs2 := hk.size
  have hql : ∀ k ∈ (Tr.node p l y r b).blocks, k < q := fun k hm => by
    have := Tr.At.lt (it := ItD.val) (t := .node p l y r b) ⟨hp, hl, hr⟩ k hm
    omega
  have hbl : ∀ k, k ∈ (l.ins ItD.lt q x).blocks ↔ k = q ∨ k ∈ l.blocks := fun k => by rw [(Tr.blocks_ins ItD.lt q x l).mem_iff, List.mem_cons]
  have hk3 : Keep (fun k => k = p) w2 (w2.setCell ⟨p, 1, none⟩ (.pointer (l.ins ItD.lt q x).addr)) := Keep.setCell (S := fun k => k = p) (Keep.refl _ _) rfl _ _
  have hpq : p < q := hql p (by simp [Tr.blocks])
  refine ⟨⟨(node_set hp2).1 _, h2.keep hk3 fun k hm e => ?_, ?_⟩, ?_, ?_, fun k hm => ?_, hp2⟩
  · rcases (hbl k).1 hm with h | h
    · omega
    · exact n1 (e ▸ h)
  · exact ((hr.keep (hb.keep (S := fun _ => False)) (fun _ _ h => h)).keep hk (fun k hm h => n5 k h k hm rfl)).keep hk3 (fun k hm e => n2 (e ▸ hm))
  · simp only [Tr.blocks, List.nodup_cons, List.mem_append, List.nodup_append, not_or]
    refine ⟨⟨fun h => ?_, n2⟩, (Tr.blocks_ins ItD.lt q x l).nodup_iff.2 (List.nodup_cons.2 ⟨fun h => ?_, n3⟩), n4, fun k hm j hj e => ?_⟩
    · rcases (hbl p).1 h with h | h
      · omega
      · exact n1 h
    · exact absurd (hql q (by simp [Tr.blocks, h])) (Nat.lt_irrefl _)
    · rcases (hbl k).1 hm with h | h
      · have := hql j (by simp [Tr.blocks, hj]); omega
      · exact n5 k h j hj e
  · exact ((hb.keep (S := fun k => k ∈ (Tr.node p l y r b).blocks)).trans (hk.mono fun k _ h => by simp [Tr.blocks, h])).trans (hk3.mono fun k _ h => by simp [Tr.blocks, h])
  · simp only [Tr.blocks, List.mem_cons, List.mem_append] at hm ⊢
    rcases hm with h | h | h
    · exact .inr (.inl h)
    · rcases (hbl k).1 h with h | h
      · exact .inl h
      · exact .inr (.inr (.inl h))
    · exact .inr (.inr (.inr h))
/-- The tree with another right side. -/
theorem ins_right {x y : ItD} {p : Nat} {l r : Tr ItD} {b : Bool} {w w1 w2 : World} (h : (Tr.node p l y r b).At ItD.val w) (hn : (Tr.node p l y r b).blocks.Nodup) (hb : Below w.heap.size w w1) {q : Nat} (hq : w1.heap.size ≤ q)
    (h2 : (r.ins ItD.lt q x).At ItD.val w2) (hk : Keep (fun k => k ∈ r.blocks) w1 w2) :
    (Tr.node p l y (r.ins ItD.lt q x) b).At ItD.val (w2.setCell ⟨p, 2, none⟩ (.pointer (r.ins ItD.lt q x).addr)) ∧ (Tr.node p l y (r.ins ItD.lt q x) b).blocks.Nodup ∧
      Keep (fun k => k ∈ (Tr.node p l y r b).blocks) w (w2.setCell ⟨p, 2, none⟩ (.pointer (r.ins ItD.lt q x).addr)) ∧ (∀ k, k ∈ (Tr.node p l y (r.ins ItD.lt q x) b).blocks → k = q ∨ k ∈ (Tr.node p l y r b).blocks) ∧
      w2.heap[p]? = some (ndO y.val l.addr r.addr b) := by
  obtain ⟨hp, hl, hr⟩ := h
  simp only [Tr.blocks, List.nodup_cons, List.mem_append, List.nodup_append, not_or] at hn
  obtain ⟨⟨n1, n2⟩, n3, n4, n5⟩ := hn
  have hr1 := hb.keep.row (S := fun _ => False) hp (fun h => h)
  have hp2 := hk.row hr1 n2
  have hs1 := hb.size
  have hs2 := hk.size
  have hql : ∀ k ∈ (Tr.node p l y r b).blocks, k < q := fun k hm => by
    have := Tr.At.lt (it := ItD.val) (t := .node p l y r b) ⟨hp, hl, hr⟩ k hm
    omega
  have hbl : ∀ k, k ∈ (r.ins ItD.lt q x).blocks ↔ k = q ∨ k ∈ r.blocks := fun k => by rw [(Tr.blocks_ins ItD.lt q x r).mem_iff, List.mem_cons]
  have hk3 : Keep (fun k => k = p) w2 (w2.setCell ⟨p, 2, none⟩ (.pointer (r.ins ItD.lt q x).addr)) := Keep.setCell (S := fun k => k = p) (Keep.refl _ _) rfl _ _
  have hpq : p < q := hql p (by simp [Tr.blocks])
  refine ⟨⟨(node_set hp2).2.1 _, ?_, h2.keep hk3 fun k hm e => ?_⟩, ?_, ?_, fun k hm => ?_, hp2⟩
  · exact ((hl.keep (hb.keep (S := fun _ => False)) (fun _ _ h => h)).keep hk (fun k hm h => n5 k hm k h rfl)).keep hk3 (fun k hm e => n1 (e ▸ hm))
  · rcases (hbl k).1 hm with h | h
    · omega
    · exact n2 (e ▸ h)
  · simp only [Tr.blocks, List.nodup_cons, List.mem_append, List.nodup_append, not_or]
    refine ⟨⟨n1, fun h => ?_⟩, n3, (Tr.blocks_ins ItD.lt q x r).nodup_iff.2 (List.nodup_cons.2 ⟨fun h => ?_, n4⟩), fun k hm j hj e => ?_⟩
    · rcases (hbl p).1 h with h | h
      · omega
      · exact n2 h
    · exact absurd (hql q (by simp [Tr.blocks, h])) (Nat.lt_irrefl _)
    · rcases (hbl j).1 hj with h | h
      · have := hql k (by simp [Tr.blocks, hm]); omega
      · exact n5 k hm j h e
  · exact ((hb.keep (S := fun k => k ∈ (Tr.node p l y r b).blocks)).trans (hk.mono fun k _ h => by simp [Tr.blocks, h])).trans (hk3.mono fun k _ h => by simp [Tr.blocks, h])
  · simp only [Tr.blocks, List.mem_cons, List.mem_append] at hm ⊢
    rcases hm with h | h | h
    · exact .inr (.inl h)
    · exact .inr (.inr (.inl h))
    · rcases (hbl k).1 h with h | h
      · exact .inl h
      · exact .inr (.inr (.inr h))

set_option maxRecDepth 100000 in
set_option maxHeartbeats 4000000 in
theorem insert_any (x : ItD) : ∀ (t : Tr ItD) (w : World) (T : Option Addr), t.At ItD.val w → t.blocks.Nodup → x.In w → (∀ y ∈ t.toList, y.In w) →
    Calls Tryd.prog 109 #[.pointer T, .pointer t.addr, x.item] w (InsAt x t w)
  | .nil, w, T, _, _, _, _ => by
    have HC := fun W => Lib.hid (newNode_any x.val W)
    show Calls Tryd.prog 109 #[.pointer T, .pointer none, x.item] w (InsAt x .nil w)
    go_enter Tryd.func109, Tryd.ntmps109
    go_wp2_with (go_at_call 114; (with_reducible refine (HC _).out.mono ?_); rintro e w' ⟨rfl, rfl⟩)
    go_ret
    exact ⟨w.heap.size, Nat.le_refl _, rfl, ⟨heap_alloc_new w _, trivial, trivial⟩, (Keep.refl _ w).alloc _⟩
  | .node p l y r b, w, T, h, hn, hx, hy => by
    have hyy : y.In w := hy y (by simp [Tr.toList])
    have HL := Lib.hid (less_any x y w hx hyy)
    have HI : ∀ (u : Tr ItD), u = l ∨ u = r → ∀ w1, Below w.heap.size w w1 → Hid (Calls Tryd.prog 109 #[.pointer T, .pointer u.addr, x.item] w1 (InsAt x u w1)) := by
      rintro u (rfl | rfl) w1 hb
      · refine Lib.hid (insert_any x u w1 T (h.2.1.below hb) ?_ (hx.below hb) fun z hz => (hy z (by simp [Tr.toList, hz])).below hb)
        simp only [Tr.blocks, List.nodup_cons, List.nodup_append] at hn
        exact hn.2.1
      · refine Lib.hid (insert_any x u w1 T (h.2.2.below hb) ?_ (hx.below hb) fun z hz => (hy z (by simp [Tr.toList, hz])).below hb)
        simp only [Tr.blocks, List.nodup_cons, List.nodup_append] at hn
        exact hn.2.2.1
    have HT := Lib.hid h
    have HN := Lib.hid hn
    have HD := fun W => Lib.hid (walkDown_any (some ⟨p, 0, none⟩) W)
    obtain ⟨⟨p0, p1, p2, p3⟩, _⟩ := node_cells h.1
    clear h hn hx hy hyy p3
    show Calls Tryd.prog 109 #[.pointer T, .pointer (some ⟨p, 0, none⟩), x.item] w (InsAt x (.node p l y r b) w)
    cases hc : blt x.dig y.dig with
    | true =>
      rw [hc] at HL
      have HIL := HI l (.inl rfl)
      have HC := Lib.hid hc
      clear hc HI p2
      go_enter Tryd.func109, Tryd.ntmps109
      go_wp2_with fail
      refine (HD _).out.mono ?_
      rintro e w0 ⟨rfl, rfl⟩
      go_wp2_with fail
      refine HL.out.mono ?_
      rintro e w1 ⟨rfl, hb⟩
      have c1 := below_cell hb p1
      have HI1 := HIL w1 hb
      have HB := Lib.hid hb
      clear hb p0 p1 HIL HL
      go_wp2_with fail
      refine HI1.out.mono ?_
      rintro e w2 ⟨q, hq, rfl, h2, hk⟩
      obtain ⟨a1, a2, a3, a4, a5⟩ := ins_left HT.out HN.out HB.out hq h2 hk
      obtain ⟨⟨d0, d1, d2, d3⟩, f0, f1, f2, f3⟩ := node_cells a5
      have HW := Lib.hid (walkUp_any ItD.val p (l.ins ItD.lt q x) y r b _ a1 a2)
      have A3 := Lib.hid a3
      have A4 := Lib.hid a4
      have HQ := Lib.hid (Nat.le_trans HB.out.size hq)
      clear a1 a2 a3 a4 a5 h2 hk hq c1 HI1 d0 d2 d3
      go_wp2_with fail
      refine HW.out.mono ?_
      rintro e w3 ⟨rfl, hu⟩
      have HU := Lib.hid hu
      clear hu
      go_wp2
      go_ret
      have hi : (Tr.node p l y r b).ins ItD.lt q x = (Tr.node p (l.ins ItD.lt q x) y r b).up := by
        conv => lhs; unfold Tr.ins
        rw [if_pos HC.out]
      exact ⟨q, HQ.out, by rw [hi]; rfl, by rw [hi]; exact HU.out.at_, A3.out.trans2 (HU.out.keep) fun k hk h => (A4.out k h).resolve_left (by have := HQ.out; omega)⟩
    | false =>
      rw [hc] at HL
      have HIL := HI r (.inr rfl)
      have HC := Lib.hid hc
      clear hc HI p1
      go_enter Tryd.func109, Tryd.ntmps109
      go_wp2_with fail
      refine (HD _).out.mono ?_
      rintro e w0 ⟨rfl, rfl⟩
      go_wp2_with fail
      refine HL.out.mono ?_
      rintro e w1 ⟨rfl, hb⟩
      have c1 := below_cell hb p2
      have HI1 := HIL w1 hb
      have HB := Lib.hid hb
      clear hb p0 p2 HIL HL
      go_wp2_with fail
      refine HI1.out.mono ?_
      rintro e w2 ⟨q, hq, rfl, h2, hk⟩
      obtain ⟨a1, a2, a3, a4, a5⟩ := ins_right HT.out HN.out HB.out hq h2 hk
      obtain ⟨⟨d0, d1, d2, d3⟩, f0, f1, f2, f3⟩ := node_cells a5
      have HW := Lib.hid (walkUp_any ItD.val p l y (r.ins ItD.lt q x) b _ a1 a2)
      have A3 := Lib.hid a3
      have A4 := Lib.hid a4
      have HQ := Lib.hid (Nat.le_trans HB.out.size hq)
      clear a1 a2 a3 a4 a5 h2 hk hq c1 HI1 d0 d1 d3
      go_wp2_with fail
      refine HW.out.mono ?_
      rintro e w3 ⟨rfl, hu⟩
      have HU := Lib.hid hu
      clear hu
      go_wp2
      go_ret
      have hi : (Tr.node p l y r b).ins ItD.lt q x = (Tr.node p l y (r.ins ItD.lt q x) b).up := by
        conv => lhs; unfold Tr.ins
        rw [if_neg (by show ¬ blt x.dig y.dig = true; rw [HC.out]; simp)]
      exact ⟨q, HQ.out, by rw [hi]; rfl, by rw [hi]; exact HU.out.at_, A3.out.trans2 (HU.out.keep) fun k hk h => (A4.out k h).resolve_left (by have := HQ.out; omega)⟩
end Go.Proofs.YthfgnhgijgjggaaDoor
