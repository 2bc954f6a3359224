/- Plain law: trees that are turned as an LLRB tree turns them; an item put in; the items from a pivot on. -/
namespace Go.Proofs.YthfgnhgijgjggaaDoor

/-- Bytes ahead of bytes. -/
def blt : List UInt8 → List UInt8 → Bool
  | _, [] => false
  | [], _ :: _ => true
  | a :: as, b :: bs => if a < b then true else if b < a then false else blt as bs

theorem blt_nil_right (a : List UInt8) : blt a [] = false := by cases a <;> rfl
theorem blt_irrefl : ∀ a : List UInt8, blt a a = false
  | [] => rfl
  | a :: as => by
    rw [blt, if_neg (UInt8.lt_irrefl a), if_neg (UInt8.lt_irrefl a)]
    exact blt_irrefl as
theorem blt_asymm : ∀ a b : List UInt8, blt a b = true → blt b a = false
  | _, [], h => by rw [blt_nil_right] at h; cases h
  | [], _ :: _, _ => blt_nil_right _
  | a :: as, b :: bs, h => by
    rw [blt] at h ⊢
    by_cases h1 : a < b
    · rw [if_neg (fun h2 => UInt8.lt_irrefl a (UInt8.lt_trans h1 h2)), if_pos h1]
    · rw [if_neg h1] at h
      by_cases h2 : b < a
      · rw [if_pos h2] at h; cases h
      · rw [if_neg h2] at h
        rw [if_neg h2, if_neg h1]
        exact blt_asymm as bs h
theorem blt_total : ∀ a b : List UInt8, blt a b = false → blt b a = false → a = b
  | [], [], _, _ => rfl
  | [], _ :: _, h, _ => by cases h
  | _ :: _, [], _, h => by cases h
  | a :: as, b :: bs, h, k => by
    rw [blt] at h k
    by_cases h1 : a < b
    · rw [if_pos h1] at h; cases h
    · by_cases h2 : b < a
      · rw [if_pos h2] at k; cases k
      · rw [if_neg h1, if_neg h2] at h
        rw [if_neg h2, if_neg h1] at k
        have e : a = b := by
          have h1' := UInt8.not_lt.1 h1
          have h2' := UInt8.not_lt.1 h2
          exact UInt8.le_antisymm h2' h1'
        rw [e, blt_total as bs h k]
theorem blt_trans : ∀ a b c : List UInt8, blt a b = true → blt b c = true → blt a c = true
  | _, [], _, h, _ => by rw [blt_nil_right] at h; cases h
  | _, _ :: _, [], _, k => by rw [blt_nil_right] at k; cases k
  | [], _ :: _, _ :: _, _, _ => rfl
  | a :: as, b :: bs, c :: cs, h, k => by
    rw [blt] at h k ⊢
    by_cases h1 : a < b
    · by_cases k1 : b < c
      · rw [if_pos (UInt8.lt_trans h1 k1)]
      · rw [if_neg k1] at k
        by_cases k2 : c < b
        · rw [if_pos k2] at k; cases k
        · have e : b = c := UInt8.le_antisymm (UInt8.not_lt.1 k2) (UInt8.not_lt.1 k1)
          rw [← e, if_pos h1]
    · rw [if_neg h1] at h
      by_cases h2 : b < a
      · rw [if_pos h2] at h; cases h
      · rw [if_neg h2] at h
        have e : a = b := UInt8.le_antisymm (UInt8.not_lt.1 h2) (UInt8.not_lt.1 h1)
        by_cases k1 : b < c
        · rw [e, if_pos k1]
        · rw [if_neg k1] at k
          by_cases k2 : c < b
          · rw [if_pos k2] at k; cases k
          · rw [if_neg k2] at k
            rw [e, if_neg k1, if_neg k2]
            exact blt_trans as bs cs h k
/-- Not behind is transitive. -/
theorem ble_trans {a b c : List UInt8} (h : blt b a = false) (k : blt c b = false) : blt c a = false := by
  cases hc : blt c a with
  | false => rfl
  | true =>
    cases hab : blt a b with
    | true => rw [blt_trans _ _ _ hc hab] at k; cases k
    | false => rw [blt_total _ _ hab h] at hc; rw [hc] at k; cases k
theorem blt_of_lt_le {a b c : List UInt8} (h : blt a b = true) (k : blt c b = false) : blt a c = true := by
  cases hc : blt a c with
  | true => rfl
  | false => rw [ble_trans k hc] at h; cases h
theorem blt_of_le_lt {a b c : List UInt8} (h : blt b a = false) (k : blt b c = true) : blt a c = true := by
  cases hc : blt a c with
  | true => rfl
  | false => rw [ble_trans hc h] at k; cases k

/-- A tree: a node's number, its left side, its item, its right side, whether it is black. -/
inductive Tr (α : Type) where
  | nil : Tr α
  | node (p : Nat) (l : Tr α) (x : α) (r : Tr α) (b : Bool) : Tr α

namespace Tr
variable {α : Type}
def toList : Tr α → List α
  | nil => []
  | node _ l x r _ => l.toList ++ x :: r.toList
def blocks : Tr α → List Nat
  | nil => []
  | node p l _ r _ => p :: (l.blocks ++ r.blocks)
def red : Tr α → Bool
  | nil => false
  | node _ _ _ _ b => !b
def left : Tr α → Tr α
  | nil => nil
  | node _ l _ _ _ => l
def right : Tr α → Tr α
  | nil => nil
  | node _ _ _ r _ => r
def rotL : Tr α → Tr α
  | node p l x (node q rl y rr _) b => node q (node p l x rl false) y rr b
  | t => t
def rotR : Tr α → Tr α
  | node p (node q ll y lr _) x r b => node q ll y (node p lr x r false) b
  | t => t
def turn : Tr α → Tr α
  | nil => nil
  | node p l x r b => node p l x r (!b)
def flip : Tr α → Tr α
  | node p l x r b => node p l.turn x r.turn (!b)
  | t => t
def up1 (t : Tr α) : Tr α := if t.right.red = true ∧ t.left.red = false then t.rotL else t
def up2 (t : Tr α) : Tr α := if t.left.red = true ∧ t.left.left.red = true then t.rotR else t
def up3 (t : Tr α) : Tr α := if t.left.red = true ∧ t.right.red = true then t.flip else t
def up (t : Tr α) : Tr α := t.up1.up2.up3
def ins (lt : α → α → Bool) (q : Nat) (x : α) : Tr α → Tr α
  | nil => node q nil x nil false
  | node p l y r b => (if lt x y = true then node p (l.ins lt q x) y r b else node p l y (r.ins lt q x) b).up
/-- The root is black. -/
def blacken : Tr α → Tr α
  | nil => nil
  | node p l x r _ => node p l x r true

theorem toList_rotL (t : Tr α) : t.rotL.toList = t.toList := by
  unfold rotL
  split <;> simp [toList]
theorem toList_rotR (t : Tr α) : t.rotR.toList = t.toList := by
  unfold rotR
  split <;> simp [toList]
theorem toList_turn (t : Tr α) : t.turn.toList = t.toList := by
  cases t <;> rfl
theorem toList_flip (t : Tr α) : t.flip.toList = t.toList := by
  cases t with
  | nil => rfl
  | node p l x r b => simp [flip, toList, toList_turn]
theorem toList_up (t : Tr α) : t.up.toList = t.toList := by
  have h1 : ∀ u : Tr α, u.up1.toList = u.toList := fun u => by unfold up1; split; exact toList_rotL u; rfl
  have h2 : ∀ u : Tr α, u.up2.toList = u.toList := fun u => by unfold up2; split; exact toList_rotR u; rfl
  have h3 : ∀ u : Tr α, u.up3.toList = u.toList := fun u => by unfold up3; split; exact toList_flip u; rfl
  unfold up
  rw [h3, h2, h1]
theorem toList_blacken (t : Tr α) : t.blacken.toList = t.toList := by cases t <;> rfl

theorem blocks_rotL (t : Tr α) : t.rotL.blocks.Perm t.blocks := by
  unfold rotL
  split
  · rename_i p l x q rl y rr c b
    simp only [blocks, List.cons_append, List.append_assoc]
    exact (List.Perm.swap p q _).trans (List.Perm.cons p List.perm_middle.symm)
  · exact List.Perm.refl _
theorem blocks_rotR (t : Tr α) : t.rotR.blocks.Perm t.blocks := by
  unfold rotR
  split
  · rename_i p q ll y lr c x r b
    simp only [blocks, List.cons_append, List.append_assoc]
    exact (List.Perm.cons q List.perm_middle).trans (List.Perm.swap p q _)
  · exact List.Perm.refl _
theorem blocks_turn (t : Tr α) : t.turn.blocks = t.blocks := by
  cases t <;> rfl
theorem blocks_flip (t : Tr α) : t.flip.blocks = t.blocks := by
  cases t with
  | nil => rfl
  | node p l x r b => simp [flip, blocks, blocks_turn]
theorem blocks_up1 (t : Tr α) : t.up1.blocks.Perm t.blocks := by unfold up1; split; exact blocks_rotL t; exact List.Perm.refl _
theorem blocks_up2 (t : Tr α) : t.up2.blocks.Perm t.blocks := by unfold up2; split; exact blocks_rotR t; exact List.Perm.refl _
theorem blocks_up3 (t : Tr α) : t.up3.blocks.Perm t.blocks := by unfold up3; split; rw [blocks_flip]; exact List.Perm.refl _
theorem blocks_up (t : Tr α) : t.up.blocks.Perm t.blocks := (blocks_up3 _).trans ((blocks_up2 _).trans (blocks_up1 _))
theorem blocks_blacken (t : Tr α) : t.blacken.blocks = t.blocks := by cases t <;> rfl
theorem blocks_ins (lt : α → α → Bool) (q : Nat) (x : α) : ∀ t : Tr α, (t.ins lt q x).blocks.Perm (q :: t.blocks)
  | nil => List.Perm.refl _
  | node p l y r b => by
    unfold ins
    refine (blocks_up _).trans ?_
    split
    · refine List.Perm.trans (List.Perm.cons p (List.Perm.append_right _ (blocks_ins lt q x l))) ?_
      exact List.Perm.swap q p _
    · refine List.Perm.trans (List.Perm.cons p (List.Perm.append_left _ (blocks_ins lt q x r))) ?_
      exact (List.Perm.cons p List.perm_middle).trans (List.Perm.swap q p _)
theorem length_toList : ∀ t : Tr α, t.toList.length = t.blocks.length
  | nil => rfl
  | node p l x r b => by simp [toList, blocks, length_toList l, length_toList r]; omega

/-- In order. -/
def Sorted (k : α → List UInt8) (l : List α) : Prop := l.Pairwise fun a b => blt (k b) (k a) = false

/-- An item that is put in stands behind those that are not behind it. -/
theorem ins_split (k : α → List UInt8) (q : Nat) (x : α) : ∀ t : Tr α, Sorted k t.toList →
    ∃ a b, t.toList = a ++ b ∧ (t.ins (fun x y => blt (k x) (k y)) q x).toList = a ++ x :: b ∧ (∀ y ∈ a, blt (k x) (k y) = false) ∧ (∀ y ∈ b, blt (k x) (k y) = true)
  | nil, _ => ⟨[], [], rfl, rfl, by simp, by simp⟩
  | node p l y r c, hs => by
    unfold ins
    rw [toList_up]
    have hs' : Sorted k (l.toList ++ y :: r.toList) := hs
    obtain ⟨hl, hyr, hc⟩ := List.pairwise_append.1 hs'
    obtain ⟨hy, hr⟩ := List.pairwise_cons.1 hyr
    by_cases h : blt (k x) (k y) = true
    · rw [if_pos h]
      obtain ⟨a, b, e1, e2, e3, e4⟩ := ins_split k q x l hl
      refine ⟨a, b ++ y :: r.toList, by simp [toList, e1], by simp [toList, e2], e3, fun z hz => ?_⟩
      rcases List.mem_append.1 hz with hz | hz
      · exact e4 z hz
      · rcases List.mem_cons.1 hz with rfl | hz
        · exact h
        · exact blt_of_lt_le h (hy z hz)
    · rw [if_neg h]
      have h' : blt (k x) (k y) = false := by simpa using h
      obtain ⟨a, b, e1, e2, e3, e4⟩ := ins_split k q x r hr
      refine ⟨l.toList ++ y :: a, b, by simp [toList, e1], by simp [toList, e2], fun z hz => ?_, e4⟩
      rcases List.mem_append.1 hz with hz | hz
      · exact ble_trans (hc z hz y (by simp)) h'
      · rcases List.mem_cons.1 hz with rfl | hz
        · exact h'
        · exact e3 z hz
theorem ins_sorted (k : α → List UInt8) (q : Nat) (x : α) (t : Tr α) (h : Sorted k t.toList) : Sorted k (t.ins (fun x y => blt (k x) (k y)) q x).toList := by
  obtain ⟨a, b, e1, e2, e3, e4⟩ := ins_split k q x t h
  rw [e2]
  rw [e1] at h
  obtain ⟨ha, hb, hc⟩ := List.pairwise_append.1 h
  refine List.pairwise_append.2 ⟨ha, List.pairwise_cons.2 ⟨fun y hy => blt_asymm _ _ (e4 y hy), hb⟩, fun y hy z hz => ?_⟩
  rcases List.mem_cons.1 hz with rfl | hz
  · exact e3 y hy
  · exact hc y hy z hz
theorem ins_mem (k : α → List UInt8) (q : Nat) (x : α) (t : Tr α) (h : Sorted k t.toList) (z : α) : z ∈ (t.ins (fun x y => blt (k x) (k y)) q x).toList ↔ z = x ∨ z ∈ t.toList := by
  obtain ⟨a, b, e1, e2, e3, e4⟩ := ins_split k q x t h
  rw [e2, e1]
  simp only [List.mem_append, List.mem_cons]
  constructor
  · rintro (h | h | h)
    · exact .inr (.inl h)
    · exact .inl h
    · exact .inr (.inr h)
  · rintro (h | h | h)
    · exact .inr (.inl h)
    · exact .inl h
    · exact .inr (.inr h)

/-- The items from a pivot on, as the code visits them. -/
def asc (ltp : α → Bool) : Tr α → List α
  | nil => []
  | node _ l x r _ => if ltp x = true then r.asc ltp else l.asc ltp ++ x :: r.asc ltp
theorem asc_eq (k : α → List UInt8) (u : List UInt8) : ∀ t : Tr α, Sorted k t.toList → t.asc (fun x => blt (k x) u) = t.toList.filter (fun x => !blt (k x) u)
  | nil, _ => rfl
  | node p l y r c, hs => by
    have hs' : Sorted k (l.toList ++ y :: r.toList) := hs
    obtain ⟨hl, hyr, hc⟩ := List.pairwise_append.1 hs'
    obtain ⟨hy, hr⟩ := List.pairwise_cons.1 hyr
    unfold asc toList
    rw [List.filter_append, List.filter_cons, asc_eq k u r hr, asc_eq k u l hl]
    cases h : blt (k y) u with
    | false => simp
    | true =>
      have hn : l.toList.filter (fun x => !blt (k x) u) = [] := by
        rw [List.filter_eq_nil_iff]
        intro z hz
        have := hc z hz y (by simp)
        rw [blt_of_le_lt this h]
        simp
      rw [hn]
      simp
end Tr

/-- A walk over items that stops where a step says so: whether it goes on, and the state. -/
def scan {σ α : Type} (step : σ → α → Bool × σ) : σ → List α → Bool × σ
  | s, [] => (true, s)
  | s, x :: xs => if (step s x).1 = true then scan step (step s x).2 xs else (false, (step s x).2)
theorem scan_append {σ α : Type} (step : σ → α → Bool × σ) : ∀ (a b : List α) (s : σ), scan step s (a ++ b) = if (scan step s a).1 = true then scan step (scan step s a).2 b else (false, (scan step s a).2)
  | [], b, s => by simp [scan]
  | x :: a, b, s => by
    simp only [List.cons_append, scan]
    split
    · exact scan_append step a b _
    · simp

/-- What a walk finds that looks, from a pivot on, at the items of one key. -/
def findStep {α : Type} (k : α → List UInt8) (u : List UInt8) (hit : α → Bool) (_ : Bool) (x : α) : Bool × Bool := if k x = u then (if hit x = true then (false, true) else (true, false)) else (false, false)
theorem find_scan {α : Type} (k : α → List UInt8) (u : List UInt8) (hit : α → Bool) : ∀ l : List α, Tr.Sorted k l → (∀ x ∈ l, blt (k x) u = false) → (scan (findStep k u hit) false l).2 = l.any (fun x => decide (k x = u) && hit x)
  | [], _, _ => rfl
  | x :: l, hs, hg => by
    obtain ⟨hx, hl⟩ := List.pairwise_cons.1 hs
    unfold scan
    rw [List.any_cons]
    by_cases hk : k x = u
    · by_cases hh : hit x = true
      · simp [findStep, hk, hh]
      · have ih := find_scan k u hit l hl (fun z hz => hg z (by simp [hz]))
        simp only [findStep, hk, hh, if_true] at ih ⊢
        simp [ih]
    · have hno : ∀ z ∈ l, (decide (k z = u) && hit z) = false := by
        intro z hz
        have h1 := hx z hz
        have h2 := hg x (by simp)
        have : k z ≠ u := fun e => by
          rw [e] at h1
          exact hk (blt_total _ _ h2 h1)
        simp [this]
      have ha : (l.any fun x => decide (k x = u) && hit x) = false := by
        rw [List.any_eq_false]
        intro z hz
        rw [hno z hz]
        simp
      rw [ha]
      simp [findStep, hk]
end Go.Proofs.YthfgnhgijgjggaaDoor
