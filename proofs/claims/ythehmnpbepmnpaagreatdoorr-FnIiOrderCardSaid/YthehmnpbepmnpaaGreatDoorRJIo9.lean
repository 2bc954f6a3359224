/- Contracts, joined (SoPlain SoPlainB SoPlainC IiS). -/
import Derived.Test.YthehmnpbepmnpaaGreatDoorRJIo1
import Derived.Test.YthehmnpbepmnpaaGreatDoorRJIo8
import Derived.LoopTactic
/- Plain law of a stable sort by blocks and merges in place: what insertion, rotation and symmetric merging do to a row. No program in sight. -/
namespace Go.Proofs.YthehmnpbepmnpaaGreatDoorR

/-- What a stable sort rests on: a test on keys and a tag that tells where an element came from. -/
structure SoK (α : Type) where
  lt : α → α → Bool
  tg : α → Nat
  irr : ∀ x, lt x x = false
  tr : ∀ x y z, lt x y = true → lt y z = true → lt x z = true
  tl : ∀ x y z, lt x y = false → lt y z = false → lt x z = false
variable {α : Type}
/-- x stands ahead of y. -/
def SoK.ah (K : SoK α) (x y : α) : Prop := K.lt x y = true ∨ (K.lt y x = false ∧ K.tg x < K.tg y)
theorem SoK.asym (K : SoK α) {x y : α} (h : K.lt x y = true) : K.lt y x = false := by
  cases hc : K.lt y x with
  | false => rfl
  | true => have := K.tr _ _ _ h hc; rw [K.irr] at this; cases this
theorem SoK.ah_trans (K : SoK α) {x y z : α} (h1 : K.ah x y) (h2 : K.ah y z) : K.ah x z := by
  rcases h1 with h1 | ⟨h1, t1⟩
  · rcases h2 with h2 | ⟨h2, t2⟩
    · exact Or.inl (K.tr _ _ _ h1 h2)
    · cases hc : K.lt x z with
      | true => exact Or.inl hc
      | false => have := K.tl _ _ _ hc h2; rw [h1] at this; cases this
  · rcases h2 with h2 | ⟨h2, t2⟩
    · cases hc : K.lt x z with
      | true => exact Or.inl hc
      | false => have := K.tl _ _ _ h1 hc; rw [h2] at this; cases this
    · exact Or.inr ⟨K.tl _ _ _ h2 h1, by omega⟩
theorem SoK.ah_lt (K : SoK α) {x y : α} (h : K.ah x y) (ht : K.tg y < K.tg x) : K.lt x y = true := by
  rcases h with h | ⟨_, h⟩
  · exact h
  · omega
theorem SoK.ah_no (K : SoK α) {x y : α} (h : K.lt x y = false) (ht : K.tg y < K.tg x) : K.ah y x := Or.inr ⟨h, ht⟩
theorem SoK.ah_asym (K : SoK α) {x y : α} (h : K.ah x y) (h2 : K.ah y x) : False := by
  have := K.ah_trans h h2
  rcases this with h | ⟨_, h⟩
  · rw [K.irr] at h; cases h
  · omega

/-- A row is a function of the place. -/
def sw (d : Nat → α) (i j : Nat) : Nat → α := fun k => if k = i then d j else if k = j then d i else d k
def SoK.srt (K : SoK α) (a b : Nat) (d : Nat → α) : Prop := ∀ i j, a ≤ i → i < j → j < b → K.ah (d i) (d j)
/-- d' has the elements of d, all outside [a, b) where they were. -/
def Prm (a b : Nat) (d d' : Nat → α) : Prop := ∃ s t : Nat → Nat, (∀ i, s (t i) = i) ∧ (∀ i, t (s i) = i) ∧ (∀ i, i < a ∨ b ≤ i → s i = i) ∧ ∀ i, d' i = d (s i)
theorem Prm.refl (a b : Nat) (d : Nat → α) : Prm a b d d := ⟨id, id, fun _ => rfl, fun _ => rfl, fun _ _ => rfl, fun _ => rfl⟩
theorem Prm.trans {a b : Nat} {d d' d'' : Nat → α} (h : Prm a b d d') (k : Prm a b d' d'') : Prm a b d d'' := by
  obtain ⟨s, t, h1, h2, h3, h4⟩ := h
  obtain ⟨u, v, k1, k2, k3, k4⟩ := k
  refine ⟨fun i => s (u i), fun i => v (t i), fun i => ?_, fun i => ?_, fun i hi => ?_, fun i => ?_⟩
  · show s (u (v (t i))) = i; rw [k1, h1]
  · show v (t (s (u i))) = i; rw [h2, k2]
  · show s (u i) = i; rw [k3 i hi, h3 i hi]
  · rw [k4, h4]
theorem Prm.mono {a b a' b' : Nat} {d d' : Nat → α} (h : Prm a b d d') (ha : a' ≤ a) (hb : b ≤ b') : Prm a' b' d d' := by
  obtain ⟨s, t, h1, h2, h3, h4⟩ := h
  exact ⟨s, t, h1, h2, fun i hi => h3 i (by omega), h4⟩
theorem Prm.out {a b : Nat} {d d' : Nat → α} (h : Prm a b d d') {i : Nat} (hi : i < a ∨ b ≤ i) : d' i = d i := by
  obtain ⟨s, t, h1, h2, h3, h4⟩ := h
  rw [h4, h3 i hi]
/-- Each element of the range was in it. -/
theorem Prm.back {a b : Nat} {d d' : Nat → α} (h : Prm a b d d') {i : Nat} (ha : a ≤ i) (hb : i < b) : ∃ j, a ≤ j ∧ j < b ∧ d' i = d j := by
  obtain ⟨s, t, h1, h2, h3, h4⟩ := h
  refine ⟨s i, ?_, ?_, h4 i⟩
  · rcases Nat.lt_or_ge (s i) a with h | h
    · have e := h3 (s i) (Or.inl h)
      have e2 := congrArg t e
      rw [h2, h2] at e2
      omega
    · exact h
  · rcases Nat.lt_or_ge (s i) b with h | h
    · exact h
    · have e := h3 (s i) (Or.inr h)
      have e2 := congrArg t e
      rw [h2, h2] at e2
      omega
theorem Prm.there {a b : Nat} {d d' : Nat → α} (h : Prm a b d d') {i : Nat} (ha : a ≤ i) (hb : i < b) : ∃ j, a ≤ j ∧ j < b ∧ d' j = d i := by
  obtain ⟨s, t, h1, h2, h3, h4⟩ := h
  have h : Prm a b d' d := ⟨t, s, h2, h1, fun i hi => by have := h3 i hi; have e := congrArg t this; rw [h2] at e; exact e.symm, fun i => by rw [h4, h1]⟩
  obtain ⟨j, h5, h6, h7⟩ := h.back ha hb
  exact ⟨j, h5, h6, h7.symm⟩
theorem Prm.sw {a b i j : Nat} (d : Nat → α) (hi : a ≤ i ∧ i < b) (hj : a ≤ j ∧ j < b) : Prm a b d (sw d i j) := by
  refine ⟨fun k => if k = i then j else if k = j then i else k, fun k => if k = i then j else if k = j then i else k, fun k => ?_, fun k => ?_, fun k hk => ?_, fun k => ?_⟩
  · show (if (if k = i then j else if k = j then i else k) = i then j else if (if k = i then j else if k = j then i else k) = j then i else (if k = i then j else if k = j then i else k)) = k
    split <;> split <;> (try split) <;> (try split) <;> omega
  · show (if (if k = i then j else if k = j then i else k) = i then j else if (if k = i then j else if k = j then i else k) = j then i else (if k = i then j else if k = j then i else k)) = k
    split <;> split <;> (try split) <;> (try split) <;> omega
  · show (if k = i then j else if k = j then i else k) = k
    rw [if_neg (by omega), if_neg (by omega)]
  · show (if k = i then d j else if k = j then d i else d k) = d (if k = i then j else if k = j then i else k)
    split
    · rfl
    · split <;> rfl
theorem sw_same (d : Nat → α) (i j k : Nat) (h1 : k ≠ i) (h2 : k ≠ j) : sw d i j k = d k := by unfold sw; rw [if_neg h1, if_neg h2]
theorem sw_l (d : Nat → α) (i j : Nat) : sw d i j i = d j := by unfold sw; rw [if_pos rfl]
theorem sw_r (d : Nat → α) (i j : Nat) : sw d i j j = d i := by
  unfold sw
  by_cases h : j = i
  · rw [if_pos h, h]
  · rw [if_neg h, if_pos rfl]

/-- [m, b) laid ahead of [a, m). -/
def rot (a m b : Nat) (d : Nat → α) : Nat → α := fun k => if a ≤ k ∧ k < a + (b - m) then d (k + (m - a)) else if a + (b - m) ≤ k ∧ k < b then d (k - (b - m)) else d k
theorem rot_prm (a m b : Nat) (d : Nat → α) (ham : a ≤ m) (hmb : m ≤ b) : Prm a b d (rot a m b d) := by
  refine ⟨fun k => if a ≤ k ∧ k < a + (b - m) then k + (m - a) else if a + (b - m) ≤ k ∧ k < b then k - (b - m) else k,
    fun k => if a ≤ k ∧ k < m then k + (b - m) else if m ≤ k ∧ k < b then k - (m - a) else k, fun k => ?_, fun k => ?_, fun k hk => ?_, fun k => ?_⟩
  · show (if a ≤ (if a ≤ k ∧ k < m then k + (b - m) else if m ≤ k ∧ k < b then k - (m - a) else k) ∧ (if a ≤ k ∧ k < m then k + (b - m) else if m ≤ k ∧ k < b then k - (m - a) else k) < a + (b - m) then (if a ≤ k ∧ k < m then k + (b - m) else if m ≤ k ∧ k < b then k - (m - a) else k) + (m - a) else if a + (b - m) ≤ (if a ≤ k ∧ k < m then k + (b - m) else if m ≤ k ∧ k < b then k - (m - a) else k) ∧ (if a ≤ k ∧ k < m then k + (b - m) else if m ≤ k ∧ k < b then k - (m - a) else k) < b then (if a ≤ k ∧ k < m then k + (b - m) else if m ≤ k ∧ k < b then k - (m - a) else k) - (b - m) else (if a ≤ k ∧ k < m then k + (b - m) else if m ≤ k ∧ k < b then k - (m - a) else k)) = k
    obtain ⟨q, hq⟩ : ∃ q, q = (if a ≤ k ∧ k < m then k + (b - m) else if m ≤ k ∧ k < b then k - (m - a) else k) := ⟨_, rfl⟩
    rw [← hq]
    split at hq
    · split <;> (try split) <;> omega
    · split at hq <;> split <;> (try split) <;> omega
  · show (if a ≤ (if a ≤ k ∧ k < a + (b - m) then k + (m - a) else if a + (b - m) ≤ k ∧ k < b then k - (b - m) else k) ∧ (if a ≤ k ∧ k < a + (b - m) then k + (m - a) else if a + (b - m) ≤ k ∧ k < b then k - (b - m) else k) < m then (if a ≤ k ∧ k < a + (b - m) then k + (m - a) else if a + (b - m) ≤ k ∧ k < b then k - (b - m) else k) + (b - m) else if m ≤ (if a ≤ k ∧ k < a + (b - m) then k + (m - a) else if a + (b - m) ≤ k ∧ k < b then k - (b - m) else k) ∧ (if a ≤ k ∧ k < a + (b - m) then k + (m - a) else if a + (b - m) ≤ k ∧ k < b then k - (b - m) else k) < b then (if a ≤ k ∧ k < a + (b - m) then k + (m - a) else if a + (b - m) ≤ k ∧ k < b then k - (b - m) else k) - (m - a) else (if a ≤ k ∧ k < a + (b - m) then k + (m - a) else if a + (b - m) ≤ k ∧ k < b then k - (b - m) else k)) = k
    obtain ⟨q, hq⟩ : ∃ q, q = (if a ≤ k ∧ k < a + (b - m) then k + (m - a) else if a + (b - m) ≤ k ∧ k < b then k - (b - m) else k) := ⟨_, rfl⟩
    rw [← hq]
    split at hq
    · split <;> (try split) <;> omega
    · split at hq <;> split <;> (try split) <;> omega
  · show (if a ≤ k ∧ k < a + (b - m) then k + (m - a) else if a + (b - m) ≤ k ∧ k < b then k - (b - m) else k) = k
    rw [if_neg (by omega), if_neg (by omega)]
  · show (if a ≤ k ∧ k < a + (b - m) then d (k + (m - a)) else if a + (b - m) ≤ k ∧ k < b then d (k - (b - m)) else d k) = d (if a ≤ k ∧ k < a + (b - m) then k + (m - a) else if a + (b - m) ≤ k ∧ k < b then k - (b - m) else k)
    split
    · rfl
    · split <;> rfl
theorem rot_v {a m b k : Nat} {d : Nat → α} (h : a ≤ k ∧ k < a + (b - m)) : rot a m b d k = d (k + (m - a)) := by unfold rot; rw [if_pos h]
theorem rot_u {a m b k : Nat} {d : Nat → α} (h : a + (b - m) ≤ k ∧ k < b) : rot a m b d k = d (k - (b - m)) := by unfold rot; rw [if_neg (by omega), if_pos h]
theorem rot_o {a m b k : Nat} {d : Nat → α} (ham : a ≤ m) (hmb : m ≤ b) (h : k < a ∨ b ≤ k) : rot a m b d k = d k := by unfold rot; rw [if_neg (by omega), if_neg (by omega)]
theorem rot_same (a b : Nat) (d : Nat → α) : rot a b b d = d := by
  funext k
  unfold rot
  split
  · omega
  · split
    · rw [Nat.sub_self, Nat.sub_zero]
    · rfl
theorem rot_none (a b : Nat) (d : Nat → α) : rot a a b d = d := by
  funext k
  unfold rot
  split
  · rw [Nat.sub_self, Nat.add_zero]
  · split
    · omega
    · rfl

/-- The first i places of two runs have changed sides. -/
def swr (a b i : Nat) (d : Nat → α) : Nat → α := fun k => if a ≤ k ∧ k < a + i then d (k - a + b) else if b ≤ k ∧ k < b + i then d (k - b + a) else d k
theorem swr_zero (a b : Nat) (d : Nat → α) : swr a b 0 d = d := by
  funext k
  unfold swr
  rw [if_neg (by omega), if_neg (by omega)]
theorem swr_next {a b i n : Nat} (d : Nat → α) (hab : a + n ≤ b) (hi : i < n) : sw (swr a b i d) (a + i) (b + i) = swr a b (i + 1) d := by
  funext k
  unfold sw swr
  by_cases h1 : k = a + i
  · subst h1
    rw [if_pos rfl, if_neg (by omega), if_neg (by omega), if_pos (by omega)]
    congr 1; omega
  · rw [if_neg h1]
    by_cases h2 : k = b + i
    · subst h2
      rw [if_pos rfl, if_neg (by omega), if_neg (by omega), if_neg (by omega), if_pos (by omega)]
      congr 1; omega
    · rw [if_neg h2]
      by_cases h3 : a ≤ k ∧ k < a + i
      · rw [if_pos h3, if_pos (by omega)]
      · rw [if_neg h3]
        by_cases h4 : b ≤ k ∧ k < b + i
        · rw [if_pos h4, if_neg (by omega), if_pos (by omega)]
        · rw [if_neg h4, if_neg (by omega), if_neg (by omega)]
theorem swr_all {m i : Nat} (d : Nat → α) (hi : i ≤ m) : swr (m - i) m i d = rot (m - i) m (m + i) d := by
  funext k
  unfold swr rot
  by_cases h1 : m - i ≤ k ∧ k < m
  · rw [if_pos (by omega), if_pos (by omega)]
    congr 1; omega
  · rw [if_neg (by omega)]
    by_cases h2 : m ≤ k ∧ k < m + i
    · rw [if_pos h2, if_neg (by omega), if_pos (by omega)]
      congr 1; omega
    · rw [if_neg h2, if_neg (by omega), if_neg (by omega)]
/-- The longer run stands ahead. -/
theorem rot_long {m i j : Nat} (d : Nat → α) (hi : i ≤ m) (hj : j < i) : rot (m - (i - j)) m (m + j) (swr (m - i) m j d) = rot (m - i) m (m + j) d := by
  funext k
  unfold rot swr
  by_cases h0 : m - i ≤ k ∧ k < m - i + j
  · rw [if_neg (by omega), if_neg (by omega), if_pos (by omega), if_pos (by omega)]
    congr 1; omega
  · by_cases h1 : m - (i - j) ≤ k ∧ k < m - (i - j) + j
    · rw [if_pos (by omega), if_neg (by omega), if_pos (by omega), if_neg (by omega), if_pos (by omega)]
      congr 1; omega
    · by_cases h2 : m - (i - j) + j ≤ k ∧ k < m + j
      · rw [if_neg (by omega), if_pos (by omega), if_neg (by omega), if_neg (by omega), if_neg (by omega), if_pos (by omega)]
      · rw [if_neg (by omega), if_neg (by omega), if_neg (by omega), if_neg (by omega), if_neg (by omega), if_neg (by omega)]
/-- The longer run stands behind. -/
theorem rot_short {m i j : Nat} (d : Nat → α) (hi : i ≤ m) (hj : i < j) : rot (m - i) m (m + (j - i)) (swr (m - i) (m + j - i) i d) = rot (m - i) m (m + j) d := by
  funext k
  unfold rot swr
  repeat' split
  all_goals first
    | rfl
    | (exfalso; omega)
    | (congr 1; omega)
/-- One element moved on by one place. -/
theorem rot_step {a k : Nat} (d : Nat → α) (hk : a ≤ k) : sw (rot a (a + 1) (k + 1) d) k (k + 1) = rot a (a + 1) (k + 2) d := by
  funext q
  unfold sw rot
  by_cases h1 : q = k
  · subst h1
    rw [if_pos rfl, if_neg (by omega), if_neg (by omega), if_pos (by omega)]
    congr 1; omega
  · rw [if_neg h1]
    by_cases h2 : q = k + 1
    · subst h2
      rw [if_pos rfl, if_neg (by omega), if_pos (by omega), if_neg (by omega), if_pos (by omega)]
      congr 1; omega
    · rw [if_neg h2]
      by_cases h3 : a ≤ q ∧ q < k
      · rw [if_pos (by omega), if_pos (by omega)]
      · rw [if_neg (by omega), if_neg (by omega), if_neg (by omega), if_neg (by omega)]
/-- One element moved back by one place. -/
theorem rot_back {m k : Nat} (d : Nat → α) (hk : k + 1 ≤ m) : sw (rot (k + 1) m (m + 1) d) (k + 1) k = rot k m (m + 1) d := by
  funext q
  unfold sw rot
  by_cases h1 : q = k + 1
  · subst h1
    rw [if_pos rfl, if_neg (by omega), if_neg (by omega), if_neg (by omega), if_pos (by omega)]
    congr 1; omega
  · rw [if_neg h1]
    by_cases h2 : q = k
    · subst h2
      rw [if_pos rfl, if_pos (by omega), if_pos (by omega)]
      congr 1; omega
    · rw [if_neg h2]
      by_cases h3 : k + 1 < q ∧ q < m + 1
      · rw [if_neg (by omega), if_pos (by omega), if_neg (by omega), if_pos (by omega)]
      · rw [if_neg (by omega), if_neg (by omega), if_neg (by omega), if_neg (by omega)]
end Go.Proofs.YthehmnpbepmnpaaGreatDoorR
/- Plain law of a stable sort, its steps: insertion, the searches and the halves of a merge, the blocks. No program in sight. -/
namespace Go.Proofs.YthehmnpbepmnpaaGreatDoorR
variable {α : Type}

def SoK.up (K : SoK α) (a b : Nat) (d : Nat → α) : Prop := ∀ i j, a ≤ i → i < j → j < b → K.tg (d i) < K.tg (d j)
/-- [a, i] is sorted but for the element at j, which belongs at j or ahead of it. -/
structure SoIns (K : SoK α) (a i j : Nat) (d : Nat → α) : Prop where
  rest : ∀ p q, a ≤ p → p < q → q ≤ i → p ≠ j → q ≠ j → K.ah (d p) (d q)
  behind : ∀ q, j < q → q ≤ i → K.ah (d j) (d q)
  tag : ∀ p, a ≤ p → p < j → K.tg (d p) < K.tg (d j)
theorem SoIns.start {K : SoK α} {a i : Nat} {d : Nat → α} (h : K.srt a i d) (ht : ∀ p, a ≤ p → p < i → K.tg (d p) < K.tg (d i)) : SoIns K a i i d :=
  ⟨fun p q h1 h2 h3 _ h5 => h p q h1 h2 (by omega), fun q h1 h2 => by omega, ht⟩
theorem SoIns.step {K : SoK α} {a i j : Nat} {d : Nat → α} (h : SoIns K a i j d) (h1 : a < j) (h2 : j ≤ i) (hl : K.lt (d j) (d (j - 1)) = true) : SoIns K a i (j - 1) (sw d j (j - 1)) := by
  have e : ∀ k, k ≠ j → k ≠ j - 1 → sw d j (j - 1) k = d k := fun k h3 h4 => sw_same d _ _ k h3 h4
  refine ⟨fun p q h3 h4 h5 h6 h7 => ?_, fun q h3 h4 => ?_, fun p h3 h4 => ?_⟩
  · by_cases hp : p = j
    · subst hp
      rw [sw_l, e q (by omega) (by omega)]
      exact h.rest _ _ (by omega) (by omega) h5 (by omega) (by omega)
    · by_cases hq : q = j
      · subst hq
        rw [sw_l, e p hp h6]
        exact h.rest _ _ h3 (by omega) (by omega) (by omega) (by omega)
      · rw [e p hp h6, e q hq h7]
        exact h.rest _ _ h3 h4 h5 hp hq
  · rw [sw_r]
    by_cases hq : q = j
    · subst hq; rw [sw_l]; exact Or.inl hl
    · rw [e q hq (by omega)]; exact h.behind q (by omega) h4
  · rw [sw_r, e p (by omega) (by omega)]
    exact h.tag p h3 (by omega)
theorem SoIns.stop {K : SoK α} {a i j : Nat} {d : Nat → α} (h : SoIns K a i j d) (h1 : a ≤ j) (h2 : j ≤ i) (hl : a < j → K.lt (d j) (d (j - 1)) = false) : K.srt a (i + 1) d := by
  intro p q h3 h4 h5
  by_cases hp : p = j
  · subst hp; exact h.behind q h4 (by omega)
  · by_cases hq : q = j
    · subst hq
      have hlast : K.ah (d (q - 1)) (d q) := K.ah_no (hl (by omega)) (h.tag _ (by omega) (by omega))
      by_cases hp2 : p = q - 1
      · rw [hp2]; exact hlast
      · exact K.ah_trans (h.rest p (q - 1) h3 (by omega) (by omega) (by omega) (by omega)) hlast
    · exact h.rest p q h3 h4 (by omega) hp hq
/-- How far the insertion has come. -/
structure SoOut (K : SoK α) (a i : Nat) (d0 d : Nat → α) : Prop where
  prm : Prm a i d0 d
  srt : K.srt a i d
theorem SoOut.start (K : SoK α) (a : Nat) (d : Nat → α) : SoOut K a (a + 1) d d := ⟨Prm.refl _ _ _, fun i j h1 h2 h3 => by omega⟩
theorem SoOut.none (K : SoK α) {a b : Nat} (d : Nat → α) (h : b ≤ a + 1) : SoOut K a b d d := ⟨Prm.refl _ _ _, fun i j h1 h2 h3 => by omega⟩
theorem SoOut.inner {K : SoK α} {a b i : Nat} {d0 d : Nat → α} (h : SoOut K a i d0 d) (hu : K.up a b d0) (hi : i < b) : SoIns K a i i d := by
  refine SoIns.start h.srt fun p h1 h2 => ?_
  obtain ⟨q, h3, h4, h5⟩ := h.prm.back h1 h2
  rw [h5, h.prm.out (Or.inr (Nat.le_refl i))]
  exact hu q i h3 h4 hi
theorem SoOut.next {K : SoK α} {a i j : Nat} {d0 d d' : Nat → α} (h : SoOut K a i d0 d) (hp : Prm a (i + 1) d d') (hi : SoIns K a i j d') (h1 : a ≤ j) (h2 : j ≤ i) (hl : a < j → K.lt (d' j) (d' (j - 1)) = false) : SoOut K a (i + 1) d0 d' :=
  ⟨(h.prm.mono (Nat.le_refl _) (by omega)).trans hp, hi.stop h1 h2 hl⟩

/-- Two sorted runs, the first one's tags below the second one's. -/
structure SoMg (K : SoK α) (a m b : Nat) (d : Nat → α) : Prop where
  l : K.srt a m d
  r : K.srt m b d
  x : ∀ i j, a ≤ i → i < m → m ≤ j → j < b → K.tg (d i) < K.tg (d j)
theorem rot_srt {K : SoK α} {a s m e b : Nat} {d : Nat → α} (hl : K.srt a m d) (hr : K.srt m b d) (h1 : a ≤ s) (h2 : s ≤ m) (h3 : m ≤ e) (h4 : e ≤ b)
    (c1 : ∀ x y, a ≤ x → x < s → m ≤ y → y < e → K.ah (d x) (d y)) (c2 : ∀ y x, m ≤ y → y < e → s ≤ x → x < m → K.ah (d y) (d x)) (c3 : ∀ x z, s ≤ x → x < m → e ≤ z → z < b → K.ah (d x) (d z)) (c4 : ∀ x z, a ≤ x → x < s → e ≤ z → z < b → K.ah (d x) (d z)) : K.srt a b (rot s m e d) := by
  intro i j g1 g2 g3
  have o : ∀ k, (k < s ∨ e ≤ k) → rot s m e d k = d k := fun k h => rot_o h2 h3 h
  have v : ∀ k, s ≤ k → k < s + (e - m) → rot s m e d k = d (k + (m - s)) := fun k h h' => rot_v ⟨h, h'⟩
  have u : ∀ k, s + (e - m) ≤ k → k < e → rot s m e d k = d (k - (e - m)) := fun k h h' => rot_u ⟨h, h'⟩
  by_cases i1 : i < s
  · rw [o i (Or.inl i1)]
    by_cases j1 : j < s
    · rw [o j (Or.inl j1)]; exact hl i j g1 g2 (by omega)
    · by_cases j2 : j < s + (e - m)
      · rw [v j (by omega) j2]; exact c1 _ _ g1 i1 (by omega) (by omega)
      · by_cases j3 : j < e
        · rw [u j (by omega) j3]; exact hl _ _ g1 (by omega) (by omega)
        · rw [o j (Or.inr (by omega))]; exact c4 _ _ g1 i1 (by omega) g3
  · by_cases i2 : i < s + (e - m)
    · rw [v i (by omega) i2]
      by_cases j2 : j < s + (e - m)
      · rw [v j (by omega) j2]; exact hr _ _ (by omega) (by omega) (by omega)
      · by_cases j3 : j < e
        · rw [u j (by omega) j3]; exact c2 _ _ (by omega) (by omega) (by omega) (by omega)
        · rw [o j (Or.inr (by omega))]; exact hr _ _ (by omega) (by omega) g3
    · by_cases i3 : i < e
      · rw [u i (by omega) i3]
        by_cases j3 : j < e
        · rw [u j (by omega) j3]; exact hl _ _ (by omega) (by omega) (by omega)
        · rw [o j (Or.inr (by omega))]; exact c3 _ _ (by omega) (by omega) (by omega) g3
      · rw [o i (Or.inr (by omega)), o j (Or.inr (by omega))]; exact hr _ _ (by omega) (by omega) g3

/-- The search for the place of the one element of the first run. -/
structure SoFl (K : SoK α) (a b i j : Nat) (d : Nat → α) : Prop where
  lo : ∀ k, a + 1 ≤ k → k < i → K.ah (d k) (d a)
  hi : ∀ k, j ≤ k → k < b → K.ah (d a) (d k)
theorem SoFl.start (K : SoK α) (a b : Nat) (d : Nat → α) : SoFl K a b (a + 1) b d := ⟨fun k h1 h2 => by omega, fun k h1 h2 => by omega⟩
theorem SoFl.yes {K : SoK α} {a b i j h : Nat} {d : Nat → α} (f : SoFl K a b i j d) (m : SoMg K a (a + 1) b d) (h2 : h < j) (h4 : j ≤ b) (hl : K.lt (d h) (d a) = true) : SoFl K a b (h + 1) j d := by
  refine ⟨fun k g1 g2 => ?_, f.hi⟩
  by_cases e : k = h
  · rw [e]; exact Or.inl hl
  · exact K.ah_trans (m.r k h g1 (by omega) (by omega)) (Or.inl hl)
theorem SoFl.no {K : SoK α} {a b i j h : Nat} {d : Nat → α} (f : SoFl K a b i j d) (m : SoMg K a (a + 1) b d) (h1 : i ≤ h) (h2 : h < j) (h3 : a + 1 ≤ i) (h4 : j ≤ b) (hl : K.lt (d h) (d a) = false) : SoFl K a b i h d := by
  have hA : K.ah (d a) (d h) := K.ah_no hl (m.x a h (Nat.le_refl _) (by omega) (by omega) (by omega))
  refine ⟨f.lo, fun k g1 g2 => ?_⟩
  by_cases e : k = h
  · rw [e]; exact hA
  · exact K.ah_trans hA (m.r h k (by omega) (by omega) g2)
theorem SoFl.done {K : SoK α} {a b i : Nat} {d : Nat → α} (f : SoFl K a b i i d) (m : SoMg K a (a + 1) b d) (h1 : a + 1 ≤ i) (h2 : i ≤ b) : Prm a b d (rot a (a + 1) i d) ∧ K.srt a b (rot a (a + 1) i d) := by
  refine ⟨(rot_prm a (a + 1) i d (by omega) h1).mono (Nat.le_refl _) h2, rot_srt m.l m.r (Nat.le_refl _) (by omega) h1 h2 (fun x y g1 g2 => by omega) (fun y x g1 g2 g3 g4 => ?_) (fun x z g1 g2 g3 g4 => ?_) (fun x z g1 g2 => by omega)⟩
  · obtain rfl : x = a := by omega
    exact f.lo y g1 g2
  · obtain rfl : x = a := by omega
    exact f.hi z g3 g4
/-- The search for the place of the one element of the second run. -/
structure SoFr (K : SoK α) (a m i j : Nat) (d : Nat → α) : Prop where
  lo : ∀ k, a ≤ k → k < i → K.ah (d k) (d m)
  hi : ∀ k, j ≤ k → k < m → K.ah (d m) (d k)
theorem SoFr.start (K : SoK α) (a m : Nat) (d : Nat → α) : SoFr K a m a m d := ⟨fun k h1 h2 => by omega, fun k h1 h2 => by omega⟩
theorem SoFr.no {K : SoK α} {a m i j h : Nat} {d : Nat → α} (f : SoFr K a m i j d) (g : SoMg K a m (m + 1) d) (h1 : i ≤ h) (h2 : h < j) (h3 : a ≤ i) (h4 : j ≤ m) (hl : K.lt (d m) (d h) = false) : SoFr K a m (h + 1) j d := by
  have hA : K.ah (d h) (d m) := K.ah_no hl (g.x h m (by omega) (by omega) (Nat.le_refl _) (by omega))
  refine ⟨fun k g1 g2 => ?_, f.hi⟩
  by_cases e : k = h
  · rw [e]; exact hA
  · exact K.ah_trans (g.l k h g1 (by omega) (by omega)) hA
theorem SoFr.yes {K : SoK α} {a m i j h : Nat} {d : Nat → α} (f : SoFr K a m i j d) (g : SoMg K a m (m + 1) d) (h1 : i ≤ h) (h3 : a ≤ i) (hl : K.lt (d m) (d h) = true) : SoFr K a m i h d := by
  refine ⟨f.lo, fun k g1 g2 => ?_⟩
  by_cases e : k = h
  · rw [e]; exact Or.inl hl
  · exact K.ah_trans (Or.inl hl) (g.l h k (by omega) (by omega) g2)
theorem SoFr.done {K : SoK α} {a m i : Nat} {d : Nat → α} (f : SoFr K a m i i d) (g : SoMg K a m (m + 1) d) (h1 : a ≤ i) (h2 : i ≤ m) : Prm a (m + 1) d (rot i m (m + 1) d) ∧ K.srt a (m + 1) (rot i m (m + 1) d) := by
  refine ⟨(rot_prm i m (m + 1) d h2 (by omega)).mono h1 (Nat.le_refl _), rot_srt g.l g.r h1 h2 (by omega) (Nat.le_refl _) (fun x y g1 g2 g3 g4 => ?_) (fun y x g1 g2 g3 g4 => ?_) (fun x z g1 g2 g3 g4 => by omega) (fun x z g1 g2 g3 g4 => by omega)⟩
  · obtain rfl : y = m := by omega
    exact f.lo x g1 g2
  · obtain rfl : y = m := by omega
    exact f.hi x g3 g4

/-- The search for the two middles: n = mid + m. -/
structure SoFm (K : SoK α) (s0 r0 n s r : Nat) (d : Nat → α) : Prop where
  lo : ∀ c, s0 ≤ c → c < s → K.ah (d c) (d (n - 1 - c))
  hi : ∀ c, r ≤ c → c < r0 → K.ah (d (n - 1 - c)) (d c)
theorem SoFm.start (K : SoK α) (s0 r0 n : Nat) (d : Nat → α) : SoFm K s0 r0 n s0 r0 d := ⟨fun k h1 h2 => by omega, fun k h1 h2 => by omega⟩
/-- Where the search runs. -/
def SoRg (a m b n s0 r0 : Nat) : Prop := a ≤ s0 ∧ s0 ≤ r0 ∧ r0 ≤ m ∧ r0 + m ≤ n ∧ n ≤ b + s0 ∧ n = (a + b) / 2 + m ∧ ((s0 = a ∧ r0 = m) ∨ (s0 + b = n ∧ r0 + m = n))
theorem SoFm.no {K : SoK α} {a m b s0 r0 n s r c : Nat} {d : Nat → α} (f : SoFm K s0 r0 n s r d) (g : SoMg K a m b d) (q : SoRg a m b n s0 r0) (h1 : s ≤ c) (h2 : c < r) (h3 : s0 ≤ s) (h4 : r ≤ r0) (hl : K.lt (d (n - 1 - c)) (d c) = false) : SoFm K s0 r0 n (c + 1) r d := by
  obtain ⟨q1, q2, q3, q4, q5, q6⟩ := q
  have hA : K.ah (d c) (d (n - 1 - c)) := K.ah_no hl (g.x c (n - 1 - c) (by omega) (by omega) (by omega) (by omega))
  refine ⟨fun k g1 g2 => ?_, f.hi⟩
  by_cases e : k = c
  · rw [e]; exact hA
  · exact K.ah_trans (g.l k c (by omega) (by omega) (by omega)) (K.ah_trans hA (g.r (n - 1 - c) (n - 1 - k) (by omega) (by omega) (by omega)))
theorem SoFm.yes {K : SoK α} {a m b s0 r0 n s r c : Nat} {d : Nat → α} (f : SoFm K s0 r0 n s r d) (g : SoMg K a m b d) (q : SoRg a m b n s0 r0) (h1 : s ≤ c) (h2 : c < r) (h3 : s0 ≤ s) (h4 : r ≤ r0) (hl : K.lt (d (n - 1 - c)) (d c) = true) : SoFm K s0 r0 n s c d := by
  obtain ⟨q1, q2, q3, q4, q5, q6⟩ := q
  refine ⟨f.lo, fun k g1 g2 => ?_⟩
  by_cases e : k = c
  · rw [e]; exact Or.inl hl
  · exact K.ah_trans (g.r (n - 1 - k) (n - 1 - c) (by omega) (by omega) (by omega)) (K.ah_trans (Or.inl hl) (g.l c k (by omega) (by omega) (by omega)))

/-- What the turned row is: two pairs of runs, the first pair ahead of the second. -/
structure SoHv (K : SoK α) (a s mid e b : Nat) (d : Nat → α) : Prop where
  h1 : a ≤ s
  h2 : s ≤ mid
  h3 : mid ≤ e
  h4 : e ≤ b
  l : SoMg K a s mid d
  r : SoMg K mid e b d
  x : ∀ i j, a ≤ i → i < mid → mid ≤ j → j < b → K.ah (d i) (d j)
theorem SoFm.done {K : SoK α} {a m b s0 r0 n s : Nat} {d : Nat → α} (f : SoFm K s0 r0 n s s d) (g : SoMg K a m b d) (q : SoRg a m b n s0 r0) (h3 : s0 ≤ s) (h4 : s ≤ r0) : SoHv K a s ((a + b) / 2) (n - s) b (rot s m (n - s) d) := by
  obtain ⟨q1, q2, q3, q4, q5, q6, q7⟩ := q
  obtain ⟨mid, hm⟩ : ∃ mid, mid = (a + b) / 2 := ⟨_, rfl⟩
  rw [← hm] at q6 ⊢
  obtain ⟨e, he⟩ : ∃ e, e = n - s := ⟨_, rfl⟩
  rw [← he]
  have e1 : s + (e - m) = mid := by omega
  have h5 : s ≤ m := by omega
  have h6 : m ≤ e := by omega
  have o : ∀ k, (k < s ∨ e ≤ k) → rot s m e d k = d k := fun k h => rot_o h5 h6 h
  have v : ∀ k, s ≤ k → k < mid → rot s m e d k = d (k + (m - s)) := fun k h h' => rot_v ⟨h, by omega⟩
  have u : ∀ k, mid ≤ k → k < e → rot s m e d k = d (k - (e - m)) := fun k h h' => rot_u ⟨by omega, h'⟩
  have x14 : ∀ x z, a ≤ x → x < s → e ≤ z → z < b → K.ah (d x) (d z) := fun x z g1 g2 g3 g4 => by
    have hs : s0 ≤ s - 1 := by omega
    have hA := f.lo (s - 1) hs (by omega)
    rw [show n - 1 - (s - 1) = e by omega] at hA
    have hB : K.ah (d x) (d e) := by
      by_cases h : x = s - 1
      · rw [h]; exact hA
      · exact K.ah_trans (g.l x (s - 1) g1 (by omega) (by omega)) hA
    by_cases h : z = e
    · rw [h]; exact hB
    · exact K.ah_trans hB (g.r e z h6 (by omega) g4)
  have x23 : ∀ y x, m ≤ y → y < e → s ≤ x → x < m → K.ah (d y) (d x) := fun y x g1 g2 g3 g4 => by
    have hA := f.hi s (Nat.le_refl _) (by omega)
    rw [show n - 1 - s = e - 1 by omega] at hA
    have hB : K.ah (d y) (d s) := by
      by_cases h : y = e - 1
      · rw [h]; exact hA
      · exact K.ah_trans (g.r y (e - 1) g1 (by omega) (by omega)) hA
    by_cases h : x = s
    · rw [h]; exact hB
    · exact K.ah_trans hB (g.l s x (by omega) (by omega) g4)
  refine ⟨by omega, by omega, by omega, by omega, ⟨fun i j g1 g2 g3 => ?_, fun i j g1 g2 g3 => ?_, fun i j g1 g2 g3 g4 => ?_⟩, ⟨fun i j g1 g2 g3 => ?_, fun i j g1 g2 g3 => ?_, fun i j g1 g2 g3 g4 => ?_⟩, fun i j g1 g2 g3 g4 => ?_⟩
  · rw [o i (by omega), o j (by omega)]; exact g.l i j g1 g2 (by omega)
  · rw [v i g1 (by omega), v j (by omega) g3]; exact g.r _ _ (by omega) (by omega) (by omega)
  · rw [o i (by omega), v j g3 g4]; exact g.x _ _ g1 (by omega) (by omega) (by omega)
  · rw [u i g1 (by omega), u j (by omega) g3]; exact g.l _ _ (by omega) (by omega) (by omega)
  · rw [o i (by omega), o j (by omega)]; exact g.r i j (by omega) g2 g3
  · rw [u i g1 g2, o j (by omega)]; exact g.x _ _ (by omega) (by omega) (by omega) g4
  · by_cases i1 : i < s
    · rw [o i (Or.inl i1)]
      by_cases j3 : j < e
      · rw [u j g3 j3]; exact g.l _ _ g1 (by omega) (by omega)
      · rw [o j (by omega)]; exact x14 i j g1 i1 (by omega) g4
    · rw [v i (by omega) g2]
      by_cases j3 : j < e
      · rw [u j g3 j3]; exact x23 _ _ (by omega) (by omega) (by omega) (by omega)
      · rw [o j (by omega)]; exact g.r _ _ (by omega) (by omega) g4
/-- A pair of which one run is empty is sorted. -/
theorem SoMg.whole {K : SoK α} {a m b : Nat} {d : Nat → α} (h : SoMg K a m b d) (e : ¬ (a < m ∧ m < b)) (h1 : a ≤ m) (h2 : m ≤ b) : K.srt a b d := by
  intro i j g1 g2 g3
  by_cases h3 : a < m
  · exact h.l i j g1 g2 (by omega)
  · exact h.r i j (by omega) g2 g3
theorem SoMg.prm {K : SoK α} {a m b c f : Nat} {d d' : Nat → α} (h : SoMg K a m b d) (p : Prm c f d d') (ho : f ≤ a ∨ b ≤ c) (ham : a ≤ m) (hmb : m ≤ b) : SoMg K a m b d' := by
  have e : ∀ i, a ≤ i → i < b → d' i = d i := fun i h1 h2 => p.out (by omega)
  exact ⟨fun i j g1 g2 g3 => by rw [e i g1 (by omega), e j (by omega) (by omega)]; exact h.l i j g1 g2 g3, fun i j g1 g2 g3 => by rw [e i (by omega) (by omega), e j (by omega) g3]; exact h.r i j g1 g2 g3, fun i j g1 g2 g3 g4 => by rw [e i g1 (by omega), e j (by omega) g4]; exact h.x i j g1 g2 g3 g4⟩
theorem SoHv.done {K : SoK α} {a s mid e b : Nat} {d d' d'' : Nat → α} (h : SoHv K a s mid e b d) (p1 : Prm a mid d d') (s1 : K.srt a mid d') (p2 : Prm mid b d' d'') (s2 : K.srt mid b d'') : Prm a b d d'' ∧ K.srt a b d'' := by
  have h1 := h.h1
  have h2 := h.h2
  have h3 := h.h3
  have h4 := h.h4
  refine ⟨(p1.mono (Nat.le_refl _) (by omega)).trans (p2.mono (by omega) (Nat.le_refl _)), fun i j g1 g2 g3 => ?_⟩
  by_cases j1 : j < mid
  · rw [p2.out (Or.inl j1), p2.out (Or.inl (show i < mid by omega))]
    exact s1 i j g1 g2 j1
  · by_cases i1 : i < mid
    · obtain ⟨i', k1, k2, k3⟩ := p1.back g1 i1
      obtain ⟨j', k4, k5, k6⟩ := p2.back (show mid ≤ j by omega) g3
      rw [p2.out (Or.inl i1), k3, k6, p1.out (Or.inr k4)]
      exact h.x i' j' k1 k2 k4 k5
    · exact s2 i j (by omega) g2 g3

/-- The blocks of 20, sorted up to a. -/
structure SoB20 (K : SoK α) (n a : Nat) (d : Nat → α) : Prop where
  lo : ∀ i j, i < j → j < a → i / 20 = j / 20 → K.ah (d i) (d j)
  tg : ∀ i, i < n → K.tg (d i) / 20 = i / 20
  up : ∀ i, a ≤ i → i < n → K.tg (d i) = i
theorem SoB20.start {K : SoK α} {n : Nat} {d : Nat → α} (h : ∀ i, i < n → K.tg (d i) = i) : SoB20 K n 0 d := ⟨fun i j h1 h2 => by omega, fun i hi => by rw [h i hi], fun i _ h2 => h i h2⟩
theorem SoB20.ups {K : SoK α} {n a b : Nat} {d : Nat → α} (h : SoB20 K n a d) (hb : b ≤ n) : K.up a b d := fun i j h1 h2 h3 => by rw [h.up i h1 (by omega), h.up j (by omega) (by omega)]; exact h2
theorem SoB20.next {K : SoK α} {n a b : Nat} {d d' : Nat → α} (h : SoB20 K n a d) (ha : a % 20 = 0) (hab : a ≤ b) (hb : b ≤ a + 20) (hn : b ≤ n) (o : SoOut K a b d d') : SoB20 K n b d' := by
  refine ⟨fun i j h1 h2 h3 => ?_, fun i hi => ?_, fun i h1 h2 => ?_⟩
  · by_cases hj : j < a
    · rw [o.prm.out (Or.inl hj), o.prm.out (Or.inl (show i < a by omega))]; exact h.lo i j h1 hj h3
    · exact o.srt i j (by omega) h1 h2
  · by_cases hc : a ≤ i ∧ i < b
    · obtain ⟨j, k1, k2, k3⟩ := o.prm.back hc.1 hc.2
      rw [k3, h.tg j (by omega)]; omega
    · rw [o.prm.out (by omega), h.tg i hi]
  · rw [o.prm.out (Or.inr h1), h.up i (by omega) h2]
/-- The blocks of 40, merged up to a. -/
structure SoB40 (K : SoK α) (n a : Nat) (d : Nat → α) : Prop where
  lo : ∀ i j, i < j → j < a → i / 40 = j / 40 → K.ah (d i) (d j)
  hi : ∀ i j, i < j → j < n → a ≤ i → i / 20 = j / 20 → K.ah (d i) (d j)
  tl : ∀ i, i < a → K.tg (d i) / 40 = i / 40
  th : ∀ i, a ≤ i → i < n → K.tg (d i) / 20 = i / 20
theorem SoB20.merge {K : SoK α} {n : Nat} {d : Nat → α} (h : SoB20 K n n d) : SoB40 K n 0 d := ⟨fun i j h1 h2 => by omega, fun i j h1 h2 _ h4 => h.lo i j h1 h2 h4, fun i h1 => by omega, fun i _ h2 => h.tg i h2⟩
theorem SoB20.whole {K : SoK α} {n : Nat} {d : Nat → α} (h : SoB20 K n n d) (hn : n ≤ 20) : K.srt 0 n d := fun i j _ h2 h3 => h.lo i j h2 h3 (by omega)
theorem SoB40.mg {K : SoK α} {n a b : Nat} {d : Nat → α} (h : SoB40 K n a d) (ha : a % 40 = 0) (hb : b ≤ a + 40) (hn : b ≤ n) (hm : a + 20 ≤ b) : SoMg K a (a + 20) b d :=
  ⟨fun i j h1 h2 h3 => h.hi i j h2 (by omega) h1 (by omega), fun i j h1 h2 h3 => h.hi i j h2 (by omega) (by omega) (by omega), fun i j h1 h2 h3 h4 => by
    have e1 := h.th i h1 (by omega)
    have e2 := h.th j (by omega) (by omega)
    omega⟩
theorem SoB40.next {K : SoK α} {n a b : Nat} {d d' : Nat → α} (h : SoB40 K n a d) (ha : a % 40 = 0) (hab : a ≤ b) (hb : b ≤ a + 40) (hn : b ≤ n) (p : Prm a b d d') (s : K.srt a b d') : SoB40 K n b d' := by
  refine ⟨fun i j h1 h2 h3 => ?_, fun i j h1 h2 h3 h4 => ?_, fun i hi => ?_, fun i h1 h2 => ?_⟩
  · by_cases hj : j < a
    · rw [p.out (Or.inl hj), p.out (Or.inl (show i < a by omega))]; exact h.lo i j h1 hj h3
    · exact s i j (by omega) h1 h2
  · rw [p.out (Or.inr h3), p.out (Or.inr (show b ≤ j by omega))]; exact h.hi i j h1 h2 (by omega) h4
  · by_cases hc : a ≤ i
    · obtain ⟨j, k1, k2, k3⟩ := p.back hc hi
      have := h.th j k1 (by omega)
      rw [k3]; omega
    · rw [p.out (Or.inl (by omega)), h.tl i (by omega)]
  · rw [p.out (Or.inr h1), h.th i (by omega) h2]
theorem SoB40.rest {K : SoK α} {n a : Nat} {d : Nat → α} (h : SoB40 K n a d) (ha : a % 40 = 0) (hn : n ≤ a + 20) (han : a ≤ n) : SoB40 K n n d :=
  h.next ha han (by omega) (Nat.le_refl _) (Prm.refl _ _ _) (fun i j h1 h2 h3 => h.hi i j h2 h3 h1 (by omega))
theorem SoB40.whole {K : SoK α} {n : Nat} {d : Nat → α} (h : SoB40 K n n d) (hn : n ≤ 40) : K.srt 0 n d := fun i j _ h2 h3 => h.lo i j h2 h3 (by omega)
theorem SoB40.last {K : SoK α} {n : Nat} {d : Nat → α} (h : SoB40 K n n d) (h1 : 40 < n) (h2 : n ≤ 80) : SoMg K 0 40 n d :=
  ⟨fun i j _ g2 g3 => h.lo i j g2 (by omega) (by omega), fun i j g1 g2 g3 => h.lo i j g2 g3 (by omega), fun i j _ g2 g3 g4 => by
    have e1 := h.tl i (by omega)
    have e2 := h.tl j g4
    omega⟩
end Go.Proofs.YthehmnpbepmnpaaGreatDoorR
/- Plain law of a stable sort, its end: a row that is sorted by keys and then by tags is the list into which the elements are put one by one, each behind those that are not behind it. No program in sight. -/
namespace Go.Proofs.YthehmnpbepmnpaaGreatDoorR
variable {β : Type}

/-- x put behind those that are not behind it. -/
def insB (key : β → List UInt8) (x : β) : List β → List β
  | [] => [x]
  | y :: l => if blt (key x) (key y) = true then x :: y :: l else y :: insB key x l
def stb (key : β → List UInt8) (l : List β) : List β := l.foldl (fun m x => insB key x m) []
theorem stb_snoc (key : β → List UInt8) (l : List β) (x : β) : stb key (l ++ [x]) = insB key x (stb key l) := by
  unfold stb
  rw [List.foldl_append]
  rfl
theorem insB_map {γ : Type} (key : β → List UInt8) (key' : γ → List UInt8) (f : γ → β) (hk : ∀ x, key (f x) = key' x) (x : γ) : ∀ l : List γ, (insB key' x l).map f = insB key (f x) (l.map f)
  | [] => rfl
  | y :: l => by
    rw [List.map_cons, insB, insB, hk, hk]
    split
    · rfl
    · rw [List.map_cons, insB_map key key' f hk x l]
theorem stb_map {γ : Type} (key : β → List UInt8) (key' : γ → List UInt8) (f : γ → β) (hk : ∀ x, key (f x) = key' x) (l : List γ) : (stb key' l).map f = stb key (l.map f) := by
  have h : ∀ (l m : List γ), (l.foldl (fun m x => insB key' x m) m).map f = (l.map f).foldl (fun m x => insB key x m) (m.map f) := by
    intro l
    induction l with
    | nil => intro m; rfl
    | cons x l ih => intro m; rw [List.foldl_cons, ih, List.map_cons, List.foldl_cons, insB_map key key' f hk]
  exact h l []
theorem mem_insB {key : β → List UInt8} {x z : β} : ∀ {l : List β}, z ∈ insB key x l ↔ z = x ∨ z ∈ l
  | [] => by simp [insB]
  | y :: l => by
    rw [insB]
    split
    · simp
    · rw [List.mem_cons, mem_insB, List.mem_cons]
      constructor
      · rintro (h | h | h)
        · exact .inr (.inl h)
        · exact .inl h
        · exact .inr (.inr h)
      · rintro (h | h | h)
        · exact .inr (.inl h)
        · exact .inl h
        · exact .inr (.inr h)
theorem insB_length {key : β → List UInt8} {x : β} : ∀ {l : List β}, (insB key x l).length = l.length + 1
  | [] => rfl
  | y :: l => by
    rw [insB]
    split
    · rfl
    · rw [List.length_cons, insB_length, List.length_cons]
theorem stb_length (key : β → List UInt8) (l : List β) : (stb key l).length = l.length := by
  have h : ∀ (l m : List β), (l.foldl (fun m x => insB key x m) m).length = m.length + l.length := by
    intro l
    induction l with
    | nil => intro m; rfl
    | cons x l ih => intro m; rw [List.foldl_cons, ih, insB_length, List.length_cons]; omega
  rw [stb, h]
  simp
theorem mem_stb {key : β → List UInt8} {z : β} (l : List β) : z ∈ stb key l ↔ z ∈ l := by
  have h : ∀ (l m : List β), z ∈ l.foldl (fun m x => insB key x m) m ↔ z ∈ m ∨ z ∈ l := by
    intro l
    induction l with
    | nil => intro m; simp
    | cons x l ih =>
      intro m
      rw [List.foldl_cons, ih, mem_insB, List.mem_cons]
      constructor
      · rintro ((h | h) | h)
        · exact .inr (.inl h)
        · exact .inl h
        · exact .inr (.inr h)
      · rintro (h | h | h)
        · exact .inl (.inr h)
        · exact .inl (.inl h)
        · exact .inr h
  rw [stb, h]
  simp

theorem insB_sorted {key : β → List UInt8} {x : β} : ∀ {l : List β}, l.Pairwise (fun a b => blt (key b) (key a) = false) → (insB key x l).Pairwise (fun a b => blt (key b) (key a) = false)
  | [], _ => by simp [insB]
  | y :: l, h => by
    rw [insB]
    rw [List.pairwise_cons] at h
    split
    · rename_i hb
      rw [List.pairwise_cons]
      refine ⟨fun z hz => ?_, List.pairwise_cons.2 h⟩
      rcases List.mem_cons.1 hz with rfl | hz
      · exact blt_asymm _ _ hb
      · exact ble_trans (blt_asymm _ _ hb) (h.1 z hz)
    · rename_i hb
      rw [List.pairwise_cons]
      refine ⟨fun z hz => ?_, insB_sorted h.2⟩
      rcases mem_insB.1 hz with rfl | hz
      · simpa using hb
      · exact h.1 z hz
theorem stb_sorted (key : β → List UInt8) (l : List β) : (stb key l).Pairwise (fun a b => blt (key b) (key a) = false) := by
  have h : ∀ (l m : List β), m.Pairwise (fun a b => blt (key b) (key a) = false) → (l.foldl (fun m x => insB key x m) m).Pairwise (fun a b => blt (key b) (key a) = false) := by
    intro l
    induction l with
    | nil => intro m h; exact h
    | cons x l ih => intro m h; rw [List.foldl_cons]; exact ih _ (insB_sorted h)
  exact h l [] List.Pairwise.nil
theorem insB_filter {key : β → List UInt8} {u : List UInt8} {x : β} : ∀ {l : List β}, l.Pairwise (fun a b => blt (key b) (key a) = false) → (insB key x l).filter (fun y => decide (key y = u)) = l.filter (fun y => decide (key y = u)) ++ [x].filter (fun y => decide (key y = u))
  | [], _ => by simp [insB]
  | y :: l, h => by
    rw [insB]
    rw [List.pairwise_cons] at h
    split
    · rename_i hb
      by_cases hx : key x = u
      · have hno : (y :: l).filter (fun y => decide (key y = u)) = [] := by
          rw [List.filter_eq_nil_iff]
          intro z hz
          have h1 : blt (key x) (key z) = true := by
            rcases List.mem_cons.1 hz with rfl | hz
            · exact hb
            · exact blt_of_lt_le hb (h.1 z hz)
          intro h2
          rw [of_decide_eq_true h2, hx, blt_irrefl] at h1
          cases h1
        rw [List.filter_cons_of_pos (by simpa using hx), hno]
        simp [hx]
      · rw [List.filter_cons_of_neg (by simpa using hx)]
        simp [hx]
    · rw [List.filter_cons, List.filter_cons, insB_filter h.2]
      split <;> simp
/-- Those of one key stand in the order in which they came. -/
theorem stb_filter (key : β → List UInt8) (u : List UInt8) (l : List β) : (stb key l).filter (fun y => decide (key y = u)) = l.filter (fun y => decide (key y = u)) := by
  have h : ∀ (l m : List β), m.Pairwise (fun a b => blt (key b) (key a) = false) → (l.foldl (fun m x => insB key x m) m).filter (fun y => decide (key y = u)) = m.filter (fun y => decide (key y = u)) ++ l.filter (fun y => decide (key y = u)) := by
    intro l
    induction l with
    | nil => intro m _; simp
    | cons x l ih =>
      intro m h
      rw [List.foldl_cons, ih _ (insB_sorted h), insB_filter h, List.append_assoc, ← List.filter_append]
      rfl
  have := h l [] List.Pairwise.nil
  simpa [stb] using this

/-- What a walk gathers that takes the items of one key from the front, at most so many. -/
def takeStep {γ : Type} (key : β → List UInt8) (off : β → γ) (u : List UInt8) (most : Nat) (s : List γ) (x : β) : Bool × List γ := if key x = u then (decide (s.length + 1 < most), s ++ [off x]) else (false, s)
theorem take_scan {γ : Type} (key : β → List UInt8) (off : β → γ) (u : List UInt8) (most : Nat) : ∀ (l : List β) (s : List γ), l.Pairwise (fun a b => blt (key b) (key a) = false) → (∀ x ∈ l, blt (key x) u = false) → s.length + (l.filter (fun y => decide (key y = u))).length ≤ most →
    (scan (takeStep key off u most) s l).2 = s ++ (l.filter (fun y => decide (key y = u))).map off
  | [], s, _, _, _ => by simp [scan]
  | x :: l, s, hs, hg, hm => by
    obtain ⟨hx, hl⟩ := List.pairwise_cons.1 hs
    by_cases hk : key x = u
    · have ih := take_scan key off u most l (s ++ [off x]) hl (fun z hz => hg z (by simp [hz]))
      rw [List.filter_cons_of_pos (by simpa using hk)] at hm ⊢
      rw [List.length_cons] at hm
      by_cases hlt : s.length + 1 < most
      · have hst : takeStep key off u most s x = (true, s ++ [off x]) := by unfold takeStep; rw [if_pos hk, decide_eq_true hlt]
        rw [scan, hst, if_pos rfl, ih (by rw [List.length_append, List.length_singleton]; omega)]
        simp
      · have hst : takeStep key off u most s x = (false, s ++ [off x]) := by unfold takeStep; rw [if_pos hk, decide_eq_false hlt]
        rw [scan, hst, if_neg (by simp)]
        have h0 : (l.filter (fun y => decide (key y = u))).length = 0 := by omega
        rw [List.eq_nil_of_length_eq_zero h0]
        simp
    · have hno : (x :: l).filter (fun y => decide (key y = u)) = [] := by
        rw [List.filter_eq_nil_iff]
        intro z hz h2
        have h3 := of_decide_eq_true h2
        rcases List.mem_cons.1 hz with rfl | hz
        · exact hk h3
        · have h1 := hx z hz
          rw [h3] at h1
          exact hk (blt_total _ _ (hg x (by simp)) h1)
      have hst : takeStep key off u most s x = (false, s) := by unfold takeStep; rw [if_neg hk]
      rw [scan, hst, if_neg (by simp), hno]
      simp
theorem filter_ge {key : β → List UInt8} {u : List UInt8} (l : List β) : (l.filter (fun x => !blt (key x) u)).filter (fun y => decide (key y = u)) = l.filter (fun y => decide (key y = u)) := by
  rw [List.filter_filter]
  apply List.filter_congr
  intro x _
  by_cases h : key x = u
  · rw [h, blt_irrefl]; simp
  · simp [h]

/-- The key first, then the place. -/
def soK (key : β → List UInt8) : SoK (β × Nat) where
  lt x y := blt (key x.1) (key y.1)
  tg x := x.2
  irr _ := blt_irrefl _
  tr _ _ _ h k := blt_trans _ _ _ h k
  tl _ _ _ h k := ble_trans k h
/-- The row at first: each element with its place. -/
def row0 (e0 : β) (l : List β) : Nat → β × Nat := fun i => ((l[i]?).getD e0, i)
theorem insB_ah {key : β → List UInt8} {x : β × Nat} : ∀ {l : List (β × Nat)}, l.Pairwise (soK key).ah → (∀ y ∈ l, y.2 < x.2) → (insB (fun y => key y.1) x l).Pairwise (soK key).ah
  | [], _, _ => by simp [insB]
  | y :: l, h, ht => by
    rw [insB]
    rw [List.pairwise_cons] at h
    split
    · rename_i hb
      rw [List.pairwise_cons]
      refine ⟨fun z hz => ?_, List.pairwise_cons.2 h⟩
      rcases List.mem_cons.1 hz with rfl | hz
      · exact Or.inl hb
      · exact (soK key).ah_trans (Or.inl hb) (h.1 z hz)
    · rename_i hb
      rw [List.pairwise_cons]
      refine ⟨fun z hz => ?_, insB_ah h.2 (fun z hz => ht z (List.mem_cons_of_mem _ hz))⟩
      rcases mem_insB.1 hz with rfl | hz
      · exact Or.inr ⟨by simpa [soK] using hb, ht y (List.mem_cons_self ..)⟩
      · exact h.1 z hz
theorem stb_ah (key : β → List UInt8) (l : List β) : (stb (fun y : β × Nat => key y.1) (l.zipIdx)).Pairwise (soK key).ah := by

  have h : ∀ (l : List (β × Nat)) (m : List (β × Nat)), m.Pairwise (soK key).ah → (∀ x ∈ m, ∀ y ∈ l, x.2 < y.2) → l.Pairwise (fun a b => a.2 < b.2) → (l.foldl (fun m x => insB (fun y : β × Nat => key y.1) x m) m).Pairwise (soK key).ah := by
    intro l
    induction l with
    | nil => intro m h1 _ _; exact h1
    | cons x l ih =>
      intro m h1 h2 h3
      rw [List.pairwise_cons] at h3
      rw [List.foldl_cons]
      refine ih _ (insB_ah h1 (fun y hy => h2 y hy x (List.mem_cons_self ..))) (fun y hy z hz => ?_) h3.2
      rcases mem_insB.1 hy with rfl | hy
      · exact h3.1 z hz
      · exact h2 y hy z (List.mem_cons_of_mem _ hz)
  refine h _ [] List.Pairwise.nil (fun x hx => by simp at hx) ?_
  rw [List.pairwise_iff_getElem]
  intro i j hi hj hij
  simp only [List.getElem_zipIdx]
  omega
theorem zipIdx_fst (l : List β) : (l.zipIdx).map (fun x => x.1) = l := by
  apply List.ext_getElem
  · simp
  · intro i h1 h2
    simp

theorem uniq_sorted {R : β → β → Prop} (irr : ∀ x y, R x y → R y x → False) : ∀ {l m : List β}, l.Pairwise R → m.Pairwise R → (∀ x, x ∈ l ↔ x ∈ m) → l = m
  | [], [], _, _, _ => rfl
  | [], y :: m, _, _, h => by have := (h y).2 (List.mem_cons_self ..); simp at this
  | x :: l, [], _, _, h => by have := (h x).1 (List.mem_cons_self ..); simp at this
  | x :: l, y :: m, h1, h2, h => by
    rw [List.pairwise_cons] at h1 h2
    have e : x = y := by
      rcases List.mem_cons.1 ((h x).1 (List.mem_cons_self ..)) with e | hx
      · exact e
      · rcases List.mem_cons.1 ((h y).2 (List.mem_cons_self ..)) with e | hy
        · exact e.symm
        · exact absurd (h2.1 x hx) (fun h3 => irr _ _ h3 (h1.1 y hy))
    subst e
    rw [uniq_sorted irr h1.2 h2.2 (fun z => ?_)]
    constructor
    · intro hz
      rcases List.mem_cons.1 ((h z).1 (List.mem_cons_of_mem _ hz)) with e | h3
      · subst e; exact absurd (h1.1 z hz) (fun h3 => irr _ _ h3 h3)
      · exact h3
    · intro hz
      rcases List.mem_cons.1 ((h z).2 (List.mem_cons_of_mem _ hz)) with e | h3
      · subst e; exact absurd (h2.1 z hz) (fun h3 => irr _ _ h3 h3)
      · exact h3
/-- A sorted row holds the stable order. -/
theorem stb_of_row (key : β → List UInt8) (e0 : β) (l : List β) (d : Nat → β × Nat) (hp : Prm 0 l.length (row0 e0 l) d) (hs : (soK key).srt 0 l.length d) : (List.range l.length).map (fun i => (d i).1) = stb key l := by
  have h : (List.range l.length).map d = stb (fun y : β × Nat => key y.1) (l.zipIdx) := by
    refine uniq_sorted (R := (soK key).ah) (fun x y h1 h2 => (soK key).ah_asym h1 h2) ?_ (stb_ah key l) (fun x => ?_)
    · rw [List.pairwise_iff_getElem]
      intro i j hi hj hij
      simp only [List.getElem_map, List.getElem_range]
      simp only [List.length_map, List.length_range] at hi hj
      exact hs i j (Nat.zero_le _) hij hj
    · rw [mem_stb, List.mem_map]
      constructor
      · rintro ⟨i, hi, rfl⟩
        rw [List.mem_range] at hi
        obtain ⟨j, _, h2, h3⟩ := hp.back (Nat.zero_le i) hi
        rw [h3]
        rw [List.mem_zipIdx_iff_getElem?]
        unfold row0
        rw [List.getElem?_eq_getElem h2]
        rfl
      · intro hx
        rw [List.mem_zipIdx_iff_getElem?] at hx
        obtain ⟨h1, h2⟩ := List.getElem?_eq_some_iff.1 hx
        obtain ⟨j, _, h4, h5⟩ := hp.there (Nat.zero_le x.2) h1
        refine ⟨j, List.mem_range.2 h4, ?_⟩
        rw [h5]
        unfold row0
        rw [hx]
        rfl
  have h2 := congrArg (List.map (fun x : β × Nat => x.1)) h
  rw [List.map_map, stb_map key (fun y : β × Nat => key y.1) (fun x => x.1) (fun _ => rfl), zipIdx_fst] at h2
  exact h2
end Go.Proofs.YthehmnpbepmnpaaGreatDoorR
/- Contracts: GetAll's function; GetAll; impl.found; impl.IiAll. -/
namespace Go.Proofs.YthehmnpbepmnpaaGreatDoorR
open Go.RowKit

/-- The places that GetAll's function asks: the entry asked for, the function, the offsets, how many at most, whether there was any. -/
structure GaN (eb fnb ob mb ab B0 : Nat) : Prop where
  e : eb < B0 ∧ eb ≠ ob ∧ eb ≠ ab
  f : fnb < B0 ∧ fnb ≠ ob ∧ fnb ≠ ab
  o : ob < B0 ∧ ob ≠ ab
  m : mb < B0 ∧ mb ≠ ob ∧ mb ≠ ab
  a : ab < B0
structure GaAt (eb fnb ob mb ab B0 : Nat) (A : Option Addr) (c : Nat) (u : List UInt8) (most : Nat) (s : List Int) (W : World) : Prop where
  ent : W.heap[eb]? = some (.cells #[.slice A u.length c, .string ⟨#[]⟩, .int .u64 0] 154 (0, 0))
  fn : W.heap[fnb]? = some (.cells #[.func (.func 39) #[] #[.pointer (some ⟨ob, 0, none⟩), .pointer (some ⟨mb, 0, none⟩)]] 88 (0, 0))
  mo : W.heap[mb]? = some (.cells #[.int .i64 most] 3 (0, 0))
  bs : BSo (GaS ob ab B0) W (.slice A u.length c) u
  out : ∃ v, W.heap[ob]? = some (ouO 33 v) ∧ W.ownsRow B0 23 1 v s.length (s.map (fun x => .int .u64 x))
  any : W.heap[ab]? = some (fbO (decide (0 < s.length)))
  size : B0 ≤ W.heap.size
theorem GaAt.below {eb fnb ob mb ab B0 : Nat} {A : Option Addr} {c : Nat} {u : List UInt8} {most : Nat} (s : List Int) (W W' : World) (h : GaAt eb fnb ob mb ab B0 A c u most s W) (hb : Below W.heap.size W W') : GaAt eb fnb ob mb ab B0 A c u most s W' :=
  ⟨row_below hb (block_of_row h.ent) h.ent, row_below hb (block_of_row h.fn) h.fn, row_below hb (block_of_row h.mo) h.mo, h.bs.keep hb.keep, by
    obtain ⟨v, h1, h2⟩ := h.out
    exact ⟨v, row_below hb (block_of_row h1) h1, own_below h2 hb⟩, row_below hb (block_of_row h.any) h.any, Nat.le_trans h.size hb.size⟩
/-- How many offsets may follow. -/
def gaLive (most : Nat) (s : List Int) (_ : Nat) : Prop := s.length < most ∧ most ≤ 1000
theorem gaLives (u : List UInt8) (most : Nat) : Lives (gaLive most) (takeStep ItD.dig ItD.off u most) :=
  ⟨fun _ _ _ h => h, fun s x k h hs => by
    unfold takeStep at hs ⊢
    split at hs
    · rename_i hk
      rw [if_pos hk]
      have := of_decide_eq_true hs
      exact ⟨by rw [List.length_append, List.length_singleton]; exact this, h.2⟩
    · cases hs⟩

theorem enters_ga : ∀ args w, (callFunc 79 args).run Tryz.prog w = .ok (.enter 79 args) w := enters_of Tryz.func79 (by kernel_rfl) rfl
theorem enters_a1 : ∀ args w, (callFunc 39 args).run Tryz.prog w = .ok (.enter 39 args) w := enters_of Tryz.func39 (by kernel_rfl) rfl

set_option maxRecDepth 100000 in
set_option maxHeartbeats 4000000 in
theorem gaGathers (eb fnb ob mb ab B0 : Nat) (N : GaN eb fnb ob mb ab B0) (A : Option Addr) (c : Nat) (u : List UInt8) (most : Nat) :
    Gathers 79 #[.pointer (some ⟨eb, 0, none⟩), .pointer (some ⟨ab, 0, none⟩), .pointer (some ⟨fnb, 0, none⟩)] (GaS ob ab B0) (GaAt eb fnb ob mb ab B0 A c u most) (fun _ => True) (gaLive most) (takeStep ItD.dig ItD.off u most) := by
  rintro ⟨B, d, dg, us, off⟩ s W _ hlv hE hin
  obtain ⟨w1, hw1⟩ : ∃ w1, w1 = W.alloc (.cells #[.slice B dg.length d, .string us, .int .u64 off] 154) := ⟨_, rfl⟩
  have hb : Below W.heap.size W w1 := hw1 ▸ (Below.refl _ W).alloc (Nat.le_refl _) _
  have hbs : BS W (.slice B dg.length d) dg := hin.bs
  have HQ : Hid (Calls Tryz.prog 80 #[.slice B dg.length d, .slice A u.length c] w1 fun e w' => e = .returned (.bool (decide (dg = u))) ∧ w' = w1) := Lib.hid (bytesEq (BS.below hbs hb) (hE.bs.1.below hb))
  have hE1 := GaAt.below _ _ _ hE hb
  have k0 := cell_of_row' (cur := [_, _, _]) hE1.ent 0
  have hra := heap_alloc_new W (.cells #[.slice B dg.length d, .string us, .int .u64 off] 154)
  rw [← hw1] at hra
  have hta := fun v W => assert_one v W
  have eA := enters_a1
  have hKb : Keep (GaS ob ab B0) W w1 := hb.keep
  have HKB := Lib.hid hKb
  have HE1 := Lib.hid hE1
  have HRA := Lib.hid hra
  have HLV := Lib.hid hlv
  have HB0 := Lib.hid hE.size
  have HN := Lib.hid N
  rw [hw1] at HQ k0
  have HW1 := Lib.hid hw1
  clear hin hE hbs hw1 hra hKb hE1 hlv N hb
  show Calls Tryz.prog _ #[.iface 154 (.agg #[.slice B dg.length d, .string us, .int .u64 off]), _, _, _] W _
  unfold takeStep
  dsimp only [ItD.dig, ItD.off]
  by_cases h1 : dg = u
  · rw [decide_eq_true h1] at HQ
    rw [if_pos h1]
    clear h1
    generalize dg.length = n at *
    generalize u.length = m at *
    go_enter Tryz.func79, Tryz.ntmps79
    go_wp2_with fail
    refine HQ.out.mono ?_
    rw [← HW1.out]
    rintro e w2 ⟨rfl, rfl⟩
    have f0 := frozen_of_row' (cur := [_]) HE1.out.any 0
    have j0 := cell_of_row' (cur := [_]) HE1.out.any 0
    have hset : (w2.setCell ⟨ab, 0, none⟩ (.bool true)).heap[ab]? = some (fbO true) := Lib.heap_setCell_same (i := 0) HE1.out.any (.bool true)
    have oth : ∀ k, k ≠ ab → (w2.setCell ⟨ab, 0, none⟩ (.bool true)).heap[k]? = w2.heap[k]? := fun k hk => Below.heap_setCell _ _ _ _ hk
    have hwlt : W.heap.size < w2.heap.size := block_of_row HRA.out
    have hB : B0 ≤ W.heap.size := HB0.out
    have hfn := (oth fnb HN.out.f.2.2).trans HE1.out.fn
    have hrec := (oth W.heap.size (by have := HN.out.a; omega)).trans HRA.out
    have g0 := cell_of_row' (cur := [_]) hfn 0
    have q2 := cell_of_row' (cur := [_, _, _]) hrec 2
    obtain ⟨v, hv1, hv2⟩ := HE1.out.out
    have HC := Lib.hid (allOne ob mb B0 most s.length v _ off (w2.setCell ⟨ab, 0, none⟩ (.bool true)) ((oth ob HN.out.o.2).trans hv1) (own_keep hv2 (fun g o hg h => (oth g (by have := HN.out.a; omega)).trans h)) ((oth mb HN.out.m.2.2).trans HE1.out.mo) HN.out.m.2.1 HN.out.o.1 HN.out.m.1 (by simp [World.setCell]; omega) (by have := HLV.out; unfold gaLive at this; omega))
    have hks : Keep (GaS ob ab B0) w2 (w2.setCell ⟨ab, 0, none⟩ (.bool true)) := (Keep.refl _ w2).setCell (p := ab) (Or.inr (Or.inl rfl)) 0 (.bool true)
    have HKS := Lib.hid hks
    have HSET := Lib.hid hset
    rw [HW1.out] at f0 j0 g0 q2 HC
    clear hset oth hwlt hB hfn hrec hv1 hv2 hks HQ k0
    rw [HW1.out]
    go_wp2_with (go_at_fn 39; refine HC.out.mono ?_; rintro e w4 ⟨v', rfl, h5, h6, h7⟩)
    go_ret
    rw [← HW1.out] at h7
    have hn : ∀ k, k < B0 → k ≠ ob → k ≠ ab → ∀ o, w2.heap[k]? = some o → w4.heap[k]? = some o := fun k hk h1 h2 o ho =>
      h7.row ((Below.heap_setCell _ _ _ _ h2).trans ho) (fun h => by omega)
    have hk2 : Keep (GaS ob ab B0) w2 w4 := HKS.out.trans (h7.mono (fun k _ h => by
      rcases h with h | h
      · exact Or.inl h
      · exact Or.inr (Or.inr h)))
    refine ⟨by rw [show decide ((s.length : Int) + 1 < most) = decide (s.length + 1 < most) from decide_eq_decide.2 (by omega)]; rfl, ⟨hn eb HN.out.e.1 HN.out.e.2.1 HN.out.e.2.2 _ HE1.out.ent, hn fnb HN.out.f.1 HN.out.f.2.1 HN.out.f.2.2 _ HE1.out.fn, hn mb HN.out.m.1 HN.out.m.2.1 HN.out.m.2.2 _ HE1.out.mo, HE1.out.bs.keep hk2, ⟨v', h5, ?_⟩, ?_, Nat.le_trans HE1.out.size hk2.size⟩, HKB.out.trans hk2⟩
    · rw [List.length_append, List.length_singleton, List.map_append]
      exact h6
    · rw [show decide (0 < (s ++ [off]).length) = true from decide_eq_true (by simp)]
      exact h7.row HSET.out (fun h => by have := HN.out.a; have := HN.out.o.2; omega)
  · rw [decide_eq_false h1] at HQ
    rw [if_neg h1]
    clear h1
    generalize dg.length = n at *
    generalize u.length = m at *
    go_enter Tryz.func79, Tryz.ntmps79
    go_wp2_with fail
    refine HQ.out.mono ?_
    rw [← HW1.out]
    rintro e w2 ⟨rfl, rfl⟩
    go_wp2
    go_ret
    exact ⟨rfl, HE1.out, HKB.out⟩
end Go.Proofs.YthehmnpbepmnpaaGreatDoorR
