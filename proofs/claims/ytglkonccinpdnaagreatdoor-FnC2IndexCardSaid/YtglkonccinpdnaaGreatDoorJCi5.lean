/- Contracts, joined (Each OrA OrB OrC UvC UvD IxA LdA). -/
import Derived.Test.YtglkonccinpdnaaGreatDoorJCi1
import Derived.Test.YtglkonccinpdnaaGreatDoorJCi2
import Derived.Deep.QuietTactic
import Derived.BigQuiet
import Derived.Below
import Derived.KernelRfl
import Derived.Outline
/- A region that draws its order: each operation is shown once, out of what it waits for (a rule of this session's). -/
namespace Go.Proofs.YtglkonccinpdnaaGreatDoor
open Go Go.RowKit

section
variable {P : Program}

/-- What is asked of an operation that was carried out: a value and a world of which R holds. -/
def givesUpon (P : Program) (R : Value → World → Prop) : Result Next → Prop
  | .ok (.value u) w' => R u w'
  | .ok .skip w' => R undef w'
  | .ok (.enter f args) w' => Calls P f args w' (fun e w'' => ∃ v, e = .returned v ∧ R v w'')
  | _ => False

def gives (P : Program) (o : Oper) (ev : Operand → Value) (w : World) (R : Value → World → Prop) : Prop := givesUpon P R ((execOp ev o).run P w)

theorem wp_of_gives {o : Oper} {a : Act} {w : World} {R : Value → World → Prop} {K : Act → World → Prop} {Q : Exit → Act → World → Prop}
    (h : ∀ v w', R v w' → K (a.put o.dst v) w') (hg : gives P o a.eval w R) : o.wp P a w K Q := by
  unfold gives at hg
  unfold Oper.wp
  generalize (execOp a.eval o).run P w = r at *
  cases r with
  | ok n w' =>
    cases n <;> simp only [givesUpon] at hg <;> simp only [Oper.upon]
    case value u => exact h _ _ hg
    case skip => exact h _ _ hg
    case enter f args => exact hg.mono fun e w'' ⟨v, he, hr⟩ => by subst he; exact h _ _ hr
  | halt x w' => simp only [givesUpon] at hg

/-- The frame with the values u in the temporaries of the operations. -/
def fillD (u : Nat → Value) : List (Option Tmp) → Nat → Act → Act
  | [], _, a => a
  | d :: l, k, a => fillD u l (k + 1) (a.put d (u k))

def look (u : Nat → Value) : List (Option Tmp) → Nat → Tmp → Value → Value
  | [], _, _, z => z
  | some d :: l, k, t, z => look u l (k + 1) t (bif d == t then u k else z)
  | none :: l, k, t, z => look u l (k + 1) t z

def evalOf (u : Nat → Value) (ds : List (Option Tmp)) (a : Act) : Operand → Value
  | .tmp t => look u ds 0 t (a.tmps.getD t undef)
  | .const v => v
  | .global g => .pointer (some ⟨g, 0, none⟩)
  | .func f => .func (.func f) #[] #[]

def upd (u : Nat → Value) (i : Nat) (v : Value) : Nat → Value := fun j => if j = i then v else u j

def dstB (n : Nat) : List (Option Tmp) → Bool
  | [] => true
  | none :: l => dstB n l
  | some d :: l => decide (d < n) && !(l.contains (some d)) && dstB n l

theorem put_same (a : Act) (d : Option Tmp) (x y : Value) : (a.put d x).put d y = a.put d y := by
  cases d with
  | none => rfl
  | some d => simp [Act.put]

theorem fillD_put (u : Nat → Value) (d : Tmp) (v : Value) : ∀ (l : List (Option Tmp)) (k : Nat) (a : Act), l.contains (some d) = false → (fillD u l k a).put (some d) v = fillD u l k (a.put (some d) v)
  | [], _, _, _ => rfl
  | x :: l, k, a, h => by
    simp only [List.contains_cons, Bool.or_eq_false_iff] at h
    obtain ⟨h1, h2⟩ := h
    simp only [fillD]
    rw [fillD_put u d v l (k + 1) _ h2]
    congr 1
    exact Act.put_comm a _ _ (fun d' hd' he => by subst hd'; injection he with he; subst he; simp at h1)

theorem fillD_none (v : Value) (a : Act) : a.put none v = a := rfl

theorem fillD_congr {u u' : Nat → Value} : ∀ (l : List (Option Tmp)) (k : Nat) (a : Act), (∀ j, k ≤ j → u j = u' j) → fillD u l k a = fillD u' l k a
  | [], _, _, _ => rfl
  | x :: l, k, a, h => by
    simp only [fillD]
    rw [h k (Nat.le_refl _)]
    exact fillD_congr l (k + 1) _ (fun j hj => h j (by omega))

theorem fillD_congr_none {u u' : Nat → Value} : ∀ (l : List (Option Tmp)) (k : Nat) (a : Act), (∀ j d, l[j]? = some (some d) → u (k + j) = u' (k + j)) → fillD u l k a = fillD u' l k a
  | [], _, _, _ => rfl
  | none :: l, k, a, h => by
    simp only [fillD, fillD_none]
    exact fillD_congr_none l (k + 1) _ (fun j d hj => by have := h (j + 1) d (by simpa using hj); rwa [Nat.add_assoc, Nat.add_comm 1 j])
  | some d :: l, k, a, h => by
    simp only [fillD]
    rw [show u k = u' k from h 0 d rfl]
    exact fillD_congr_none l (k + 1) _ (fun j d hj => by have := h (j + 1) d (by simpa using hj); rwa [Nat.add_assoc, Nat.add_comm 1 j])

theorem fillD_upd (n : Nat) (u : Nat → Value) (v : Value) : ∀ (l : List (Option Tmp)) (k i : Nat) (a : Act) (d : Option Tmp), dstB n l = true → l[i]? = some d → (fillD u l k a).put d v = fillD (upd u (k + i) v) l k a
  | [], _, _, _, _, _, h => by simp at h
  | x :: l, k, 0, a, d, hB, h => by
    obtain rfl : x = d := by simpa using h
    simp only [fillD]
    have e : upd u (k + 0) v k = v := by simp [upd]
    have e2 : ∀ b, fillD (upd u (k + 0) v) l (k + 1) b = fillD u l (k + 1) b := fun b => fillD_congr _ _ _ (fun j hj => by simp [upd]; omega)
    rw [e2, e]
    cases x with
    | none => rfl
    | some d =>
      simp only [dstB, Bool.and_eq_true, Bool.not_eq_true'] at hB
      rw [fillD_put u d v l (k + 1) _ hB.1.2, put_same]
  | x :: l, k, i + 1, a, d, hB, h => by
    simp only [fillD]
    have hB' : dstB n l = true := by cases x <;> simp only [dstB, Bool.and_eq_true] at hB <;> first | exact hB | exact hB.2
    have := fillD_upd n u v l (k + 1) i (a.put x (u k)) d hB' (by simpa using h)
    rw [this, show k + 1 + i = k + (i + 1) by omega]
    congr 2
    simp [upd]

theorem put_own (a : Act) (d : Tmp) : a.put (some d) (a.tmps.getD d undef) = a := by
  unfold Act.put
  cases a with
  | mk tmps defers =>
    simp only [Act.mk.injEq, and_true]
    apply Array.ext_getElem?
    intro j
    rw [Array.getElem?_setIfInBounds]
    by_cases h : d = j
    · subst h
      by_cases h2 : d < tmps.size
      · simp [h2]
      · simp [h2]
    · simp [h]

theorem fillD_own (a : Act) : ∀ (l : List (Option Tmp)) (k : Nat) (u : Nat → Value), (∀ j d, l[j]? = some (some d) → u (k + j) = a.tmps.getD d undef) → fillD u l k a = a
  | [], _, _, _ => rfl
  | x :: l, k, u, h => by
    simp only [fillD]
    have e : a.put x (u k) = a := by
      cases x with
      | none => rfl
      | some d => rw [show u k = _ from h 0 d rfl]; exact put_own a d
    rw [e]
    exact fillD_own a l (k + 1) u (fun j d hj => by have := h (j + 1) d (by simpa using hj); rw [← this]; congr 1; omega)

theorem put_getD (a : Act) (d t : Tmp) (v : Value) (h : d < a.tmps.size) : (a.put (some d) v).tmps.getD t undef = bif d == t then v else a.tmps.getD t undef := by
  by_cases e : d = t
  · subst e; simp [Act.put, h]
  · have e' : (d == t) = false := by simpa using e
    simp [Act.put, Array.getElem?_setIfInBounds_ne e, e']

theorem put_size (a : Act) (d : Option Tmp) (v : Value) : (a.put d v).tmps.size = a.tmps.size := by
  cases d <;> simp [Act.put]

theorem fillD_size (u : Nat → Value) : ∀ (l : List (Option Tmp)) (k : Nat) (a : Act), (fillD u l k a).tmps.size = a.tmps.size
  | [], _, _ => rfl
  | x :: l, k, a => by simp only [fillD]; rw [fillD_size u l (k + 1), put_size]

theorem fillD_look (u : Nat → Value) (t : Tmp) : ∀ (l : List (Option Tmp)) (k : Nat) (a : Act), dstB a.tmps.size l = true → (fillD u l k a).tmps.getD t undef = look u l k t (a.tmps.getD t undef)
  | [], _, _, _ => rfl
  | none :: l, k, a, hB => by simp only [fillD, look, fillD_none]; exact fillD_look u t l (k + 1) a hB
  | some d :: l, k, a, hB => by
    simp only [dstB, Bool.and_eq_true, decide_eq_true_eq] at hB
    simp only [fillD, look]
    rw [fillD_look u t l (k + 1) _ (by rw [put_size]; exact hB.2), put_getD _ _ _ _ hB.1.1]

theorem fillD_eval (u : Nat → Value) (l : List (Option Tmp)) (a : Act) (hB : dstB a.tmps.size l = true) : (fillD u l 0 a).eval = evalOf u l a := by
  funext x
  cases x with
  | tmp t => exact fillD_look u t l 0 a hB
  | _ => rfl

theorem look_none (u : Nat → Value) (t : Tmp) : ∀ (l : List (Option Tmp)) (k : Nat) (z : Value), l.contains (some t) = false → look u l k t z = z
  | [], _, _, _ => rfl
  | none :: l, k, z, h => by simp only [look]; exact look_none u t l (k + 1) z (by simpa using h)
  | some d :: l, k, z, h => by
    simp only [List.contains_cons, Bool.or_eq_false_iff] at h
    have e : (d == t) = false := by
      have := h.1
      rw [beq_eq_false_iff_ne] at this ⊢
      intro e; subst e; exact this rfl
    simp only [look, e, cond_false]
    exact look_none u t l (k + 1) z h.2

theorem look_at (n : Nat) (u : Nat → Value) (t : Tmp) : ∀ (l : List (Option Tmp)) (k i : Nat) (z : Value), dstB n l = true → l[i]? = some (some t) → look u l k t z = u (k + i)
  | [], _, _, _, _, h => by simp at h
  | none :: l, k, 0, z, hB, h => by simp at h
  | none :: l, k, i + 1, z, hB, h => by
    simp only [look]
    rw [look_at n u t l (k + 1) i z hB (by simpa using h)]
    congr 1; omega
  | some d :: l, k, 0, z, hB, h => by
    obtain rfl : d = t := by simpa using h
    simp only [dstB, Bool.and_eq_true, Bool.not_eq_true'] at hB
    simp only [look, beq_self_eq_true, cond_true]
    rw [look_none u d l (k + 1) _ hB.1.2]; rfl
  | some d :: l, k, i + 1, z, hB, h => by
    simp only [dstB, Bool.and_eq_true] at hB
    simp only [look]
    rw [look_at n u t l (k + 1) i _ hB.2 (by simpa using h)]
    congr 1; omega

def asBool : Value → Option Bool
  | .bool b => some b
  | _ => none

/-- Is the operation wanted, by the value of the one that guards it? -/
def wants (u : Nat → Value) : Option (Nat × Bool) → Bool
  | none => true
  | some (g, b) => asBool (u g) == some b

def okB (ops : List Oper) : Bool :=
  (List.range ops.length).all fun i => match ops[i]? with
    | none => true
    | some o => o.after.toList.all (fun e => !Region.binds .any e || decide (e.on < i)) &&
      (match o.guard with
       | none => true
       | some (g, _) => match ops[g]? with
         | some og => og.dst.isSome
         | none => false)

def factAt (F : List (Value → World → Prop)) (i : Nat) (v : Value) (w : World) : Prop := match F[i]? with
  | some Φ => Φ v w
  | none => True

def knows (u : Nat → Value) (w : World) (F : List (Value → World → Prop)) : List Edge → Prop
  | [] => True
  | e :: es => (if Region.binds .any e = true then factAt F e.on (u e.on) w else True) ∧ knows u w F es

def allFacts (u : Nat → Value) (w : World) : List (Value → World → Prop) → Nat → Prop
  | [], _ => True
  | Φ :: F, k => Φ (u k) w ∧ allFacts u w F (k + 1)

/-- The obligation of one operation. -/
def Ob (P : Program) (Le : World → World → Prop) (w0 : World) (a : Act) (ds : List (Option Tmp)) (F : List (Value → World → Prop)) (o : Oper) (Φ : Value → World → Prop) : Prop :=
  (∀ v w1 w2, Le w1 w2 → Φ v w1 → Φ v w2) ∧
  ∀ u w', Le w0 w' → knows u w' F o.after.toList → if wants u o.guard = true then gives P o (evalOf u ds a) w' (fun v w'' => Le w' w'' ∧ Φ v w'') else Φ undef w'

/-- The operations one by one; F: what the earlier ones leave. -/
def Each (P : Program) (Le : World → World → Prop) (w0 : World) (a : Act) (ds : List (Option Tmp)) (Q : (Nat → Value) → World → Prop) : List Oper → List (Value → World → Prop) → Prop
  | [], F => ∀ u w', Le w0 w' → allFacts u w' F 0 → Q u w'
  | o :: rest, F => ∃ Φ : Value → World → Prop, Ob P Le w0 a ds F o Φ ∧ Each P Le w0 a ds Q rest (F ++ [Φ])

theorem allFacts_of {u : Nat → Value} {w : World} : ∀ (F : List (Value → World → Prop)) (k : Nat), (∀ (i : Nat) (Φ : Value → World → Prop), F[i]? = some Φ → Φ (u (k + i)) w) → allFacts u w F k
  | [], _, _ => trivial
  | Φ :: F, k, h => ⟨h 0 Φ rfl, allFacts_of F (k + 1) (fun i Ψ hi => by have := h (i + 1) Ψ (by simpa using hi); rwa [show k + 1 + i = k + (i + 1) by omega])⟩

theorem knows_of {u : Nat → Value} {w : World} {F : List (Value → World → Prop)} : ∀ (es : List Edge), (∀ e ∈ es, Region.binds .any e = true → factAt F e.on (u e.on) w) → knows u w F es
  | [], _ => trivial
  | e :: es, h => ⟨by split; exact h e (by simp) (by assumption); trivial, knows_of es (fun e he => h e (by simp [he]))⟩

theorem Each.out {Le : World → World → Prop} {w0 : World} {a : Act} {ds : List (Option Tmp)} {Q : (Nat → Value) → World → Prop} :
    ∀ (l : List Oper) (F : List (Value → World → Prop)), Each P Le w0 a ds Q l F →
      ∃ G : List (Value → World → Prop), G.length = l.length ∧ (∀ k o, l[k]? = some o → ∃ Φ, G[k]? = some Φ ∧ Ob P Le w0 a ds (F ++ G.take k) o Φ) ∧ (∀ u w', Le w0 w' → allFacts u w' (F ++ G) 0 → Q u w')
  | [], F, h => ⟨[], rfl, fun k o hk => by simp at hk, by simpa [Each] using h⟩
  | o :: l, F, ⟨Φ, h1, h2⟩ => by
    obtain ⟨G, g1, g2, g3⟩ := Each.out l _ h2
    refine ⟨Φ :: G, by simp [g1], fun k o' hk => ?_, fun u w' hw hf => g3 u w' hw (by simpa using hf)⟩
    cases k with
    | zero =>
      obtain rfl : o = o' := by simpa using hk
      exact ⟨Φ, rfl, by simpa using h1⟩
    | succ k =>
      obtain ⟨Ψ, hΨ, hO⟩ := g2 k o' (by simpa using hk)
      exact ⟨Ψ, by simpa using hΨ, by simpa using hO⟩

def leftN (listed : Array Bool) : Nat := (listed.toList.filter (!·)).length

theorem left_set : ∀ (l : List Bool) (i : Nat), l[i]? = some false → ((l.set i true).filter (!·)).length + 1 = (l.filter (!·)).length
  | [], _, h => by simp at h
  | b :: l, 0, h => by
    obtain rfl : b = false := by simpa using h
    simp
  | b :: l, i + 1, h => by
    have := left_set l i (by simpa using h)
    cases b <;> simp at * <;> omega

theorem yielded_fill (ops : List Oper) (ds : List (Option Tmp)) (hds : ops.map (·.dst) = ds) (u : Nat → Value) (a : Act) (hB : dstB a.tmps.size ds = true) (g : Nat) (og : Oper) (hg : ops[g]? = some og) (d : Tmp) (hd : og.dst = some d) :
    yielded ops.toArray (fillD u ds 0 a).tmps g = asBool (u g) := by
  have hat : ds[g]? = some (some d) := by rw [← hds, List.getElem?_map, hg]; simp [hd]
  have hmem : ∀ (l : List (Option Tmp)) (j : Nat), dstB a.tmps.size l = true → l[j]? = some (some d) → d < a.tmps.size := by
    intro l
    induction l with
    | nil => intro j _ h; simp at h
    | cons x l ih =>
      intro j hb hj
      cases j with
      | zero =>
        obtain rfl : x = some d := by simpa using hj
        simp only [dstB, Bool.and_eq_true, decide_eq_true_eq] at hb
        exact hb.1.1
      | succ j =>
        refine ih j ?_ (by simpa using hj)
        cases x <;> simp only [dstB, Bool.and_eq_true] at hb <;> first | exact hb | exact hb.2
  have hlt : d < (fillD u ds 0 a).tmps.size := by rw [fillD_size]; exact hmem ds g hB hat
  have hv : (fillD u ds 0 a).tmps.getD d undef = u g := by
    rw [fillD_look u d ds 0 a hB, look_at _ u d ds 0 g _ hB hat, Nat.zero_add]
  have hv2 : (fillD u ds 0 a).tmps[d]? = some (u g) := by
    rw [← hv]; simp [hlt]
  unfold yielded
  have : (ops.toArray[g]?).bind (·.dst) = some d := by simp [hg, hd]
  rw [this]
  simp only [Option.bind_some, hv2]
  cases u g <;> rfl

theorem wanted_fill (ops : List Oper) (ds : List (Option Tmp)) (hds : ops.map (·.dst) = ds) (u : Nat → Value) (a : Act) (hB : dstB a.tmps.size ds = true) (hok : okB ops = true) (i : Nat) (o : Oper) (hi : ops[i]? = some o) :
    Region.wanted o (yielded ops.toArray (fillD u ds 0 a).tmps) = wants u o.guard := by
  unfold Region.wanted wants
  have hlt : i < ops.length := by
    rcases Nat.lt_or_ge i ops.length with h | h
    · exact h
    · rw [List.getElem?_eq_none h] at hi; cases hi
  have h1 := (List.all_eq_true.1 hok) i (List.mem_range.2 hlt)
  simp only [hi, Bool.and_eq_true] at h1
  have h2 := h1.2
  cases hgd : o.guard with
  | none => rfl
  | some gb =>
    obtain ⟨g, b⟩ := gb
    simp only [hgd] at h2
    cases hog : ops[g]? with
    | none => simp [hog] at h2
    | some og =>
      simp only [hog] at h2
      obtain ⟨d, hd⟩ := Option.isSome_iff_exists.1 h2
      simp only [yielded_fill ops ds hds u a hB g og hog d hd]

theorem all_listed {ops : List Oper} (hok : okB ops = true) {listed : Array Bool} (hs : listed.size = ops.length) (hr : Region.ready .any ops.toArray listed = []) : ∀ n i, i < n → i < ops.length → listed.getD i true = true := by
  intro n
  induction n with
  | zero => intro i hi; omega
  | succ n ih =>
    intro i hi hlt
    by_cases hn : i < n
    · exact ih i hn hlt
    · cases hli : listed.getD i true with
      | true => rfl
      | false =>
        exfalso
        obtain ⟨o, ho⟩ : ∃ o, ops[i]? = some o := ⟨_, List.getElem?_eq_getElem hlt⟩
        have h1 := (List.all_eq_true.1 hok) i (List.mem_range.2 hlt)
        simp only [ho, Bool.and_eq_true] at h1
        have hmem : i ∈ Region.ready .any ops.toArray listed := by
          refine mem_ready.2 ⟨hli, o, by simpa using ho, fun e he hb => ?_⟩
          have h3 := (List.all_eq_true.1 h1.1) e (by simpa using he)
          simp only [hb, Bool.not_true, Bool.false_or, decide_eq_true_eq] at h3
          have h4 := ih e.on (by omega) (by omega)
          have hsz : e.on < listed.size := by omega
          simpa [hsz] using h4
        rw [hr] at hmem
        cases hmem

theorem each_any {Le : World → World → Prop} (hrefl : ∀ w, Le w w) (htrans : ∀ x y z, Le x y → Le y z → Le x z) {w0 : World} {a : Act} {ops : List Oper} {ds : List (Option Tmp)} {Q : Exit → Act → World → Prop}
    (hds : ops.map (·.dst) = ds) (hB : dstB a.tmps.size ds = true) (hok : okB ops = true) (G : List (Value → World → Prop)) (hG : G.length = ops.length)
    (hO : ∀ k o, ops[k]? = some o → ∃ Φ, G[k]? = some Φ ∧ Ob P Le w0 a ds (G.take k) o Φ) (hQ : ∀ u w', Le w0 w' → allFacts u w' G 0 → Q .normal (fillD u ds 0 a) w') :
    ∀ (fuel : Nat) (listed : Array Bool) (u : Nat → Value) (w' : World), Le w0 w' → listed.size = ops.length → leftN listed ≤ fuel →
      (∀ i Φ, listed.getD i false = true → G[i]? = some Φ → Φ (u i) w') → wpAny P .any ops.toArray Q fuel listed (fillD u ds 0 a) w' := by
  have hend : ∀ (listed : Array Bool) (u : Nat → Value) (w' : World), Le w0 w' → listed.size = ops.length → (∀ i Φ, listed.getD i false = true → G[i]? = some Φ → Φ (u i) w') →
      Region.ready .any ops.toArray listed = [] → Q .normal (fillD u ds 0 a) w' := by
    intro listed u w' hw hs hf hr
    refine hQ u w' hw (allFacts_of _ _ fun i Φ hi => ?_)
    rw [Nat.zero_add]
    have hlt : i < ops.length := by
      rcases Nat.lt_or_ge i ops.length with h | h
      · exact h
      · rw [List.getElem?_eq_none (by omega)] at hi; cases hi
    have hl := all_listed hok hs hr (i + 1) i (by omega) hlt
    refine hf i Φ ?_ hi
    have hsz : i < listed.size := by omega
    simpa [hsz] using hl
  intro fuel
  induction fuel with
  | zero =>
    intro listed u w' hw hs hl hf
    have hr : Region.ready .any ops.toArray listed = [] := by
      rw [List.eq_nil_iff_forall_not_mem]
      intro i hi
      have h0 := (mem_ready.1 hi).1
      have hlt : i < listed.size := by
        rcases Nat.lt_or_ge i listed.size with h | h
        · exact h
        · simp [Array.getElem?_eq_none h] at h0
      have hz : listed.toList.filter (!·) = [] := List.length_eq_zero_iff.1 (by unfold leftN at hl; omega)
      have hm : listed[i] ∈ listed.toList := by simp
      have := List.filter_eq_nil_iff.1 hz _ hm
      simp [hlt] at h0
      simp [h0] at this
    exact ⟨hr, hend listed u w' hw hs hf hr⟩
  | succ fuel ih =>
    intro listed u w' hw hs hl hf
    refine ⟨fun hr => hend listed u w' hw hs hf hr, fun i hi => ?_⟩
    obtain ⟨h0, o, ho, hall⟩ := mem_ready.1 hi
    have ho' : ops[i]? = some o := by simpa using ho
    have hlt : i < ops.length := by
      rcases Nat.lt_or_ge i ops.length with h | h
      · exact h
      · rw [List.getElem?_eq_none h] at ho'; cases ho'
    obtain ⟨Φ, hΦ, hstab, hob⟩ := hO i o ho'
    have hli : listed.toList[i]? = some false := by
      have hsz : i < listed.size := by omega
      simp [hsz] at h0
      simp [hsz, h0]
    have hleft : leftN (listed.setIfInBounds i true) ≤ fuel := by
      have := left_set listed.toList i hli
      unfold leftN at hl ⊢
      rw [Array.toList_setIfInBounds]
      omega
    have hkn : knows u w' (G.take i) o.after.toList := knows_of _ fun e he hb => by
      unfold factAt
      split
      · rename_i Ψ hΨ
        have h1 := hall e (by simpa using he) hb
        refine hf e.on Ψ h1 ?_
        rw [List.getElem?_take] at hΨ
        split at hΨ
        · exact hΨ
        · cases hΨ
      · trivial
    have hstep := hob u w' hw hkn
    have hnext : ∀ v w'', Le w' w'' → Φ v w'' → wpAny P .any ops.toArray Q fuel (listed.setIfInBounds i true) ((fillD u ds 0 a).put o.dst v) w'' := by
      intro v w'' hle hv
      have hat : ds[i]? = some o.dst := by rw [← hds, List.getElem?_map, ho']; rfl
      rw [fillD_upd _ u v ds 0 i a o.dst hB hat, Nat.zero_add]
      refine ih _ _ _ (htrans _ _ _ hw hle) (by simpa using hs) hleft fun j Ψ hj hΨ => ?_
      by_cases hji : j = i
      · subst hji
        obtain rfl : Φ = Ψ := by rw [hΦ] at hΨ; injection hΨ
        simpa [upd] using hv
      · rw [show upd u i v j = u j by simp [upd, hji]]
        rw [getD_set_ne false (Ne.symm hji)] at hj
        obtain ⟨oj, hoj⟩ : ∃ oj, ops[j]? = some oj := by
          rcases Nat.lt_or_ge j ops.length with h | h
          · exact ⟨_, List.getElem?_eq_getElem h⟩
          · rw [List.getElem?_eq_none (by omega)] at hΨ; cases hΨ
        obtain ⟨Ψ', hΨ', hst, _⟩ := hO j oj hoj
        obtain rfl : Ψ' = Ψ := by rw [hΨ'] at hΨ; injection hΨ
        exact hst _ _ _ hle (hf j _ hj hΨ)
    unfold wpOp
    simp only [ho]
    rw [wanted_fill ops ds hds u a hB hok i o ho']
    by_cases hw2 : wants u o.guard = true
    · simp only [hw2, if_true] at hstep ⊢
      refine .inl (wp_of_gives (R := fun v w'' => Le w' w'' ∧ Φ v w'') (fun v w'' h => hnext v w'' h.1 h.2) ?_)
      rw [fillD_eval u ds a hB]
      exact hstep
    · simp only [hw2] at hstep ⊢
      exact hnext undef w' (hrefl _) hstep

/-- **A region that draws its order, each operation shown once**: out of what the operations that it waits for leave (in whatever world has come about), it gives a value and a world of which its own fact holds; facts hold on in all later worlds. -/
theorem wp_region_each (Le : World → World → Prop) (hrefl : ∀ w, Le w w) (htrans : ∀ x y z, Le x y → Le y z → Le x z) {id : Nat} {a : Act} {w : World} {l : List Oper} (ds : List (Option Tmp)) {Q : Exit → Act → World → Prop}
    (hm : P.follows .mixedOrders = true) (hds : l.map (·.dst) = ds) (hB : dstB a.tmps.size ds = true) (hok : okB l = true)
    (h : Each P Le w.drew a ds (fun u w' => Q .normal (fillD u ds 0 a) w') l []) : (Code.region id l.toArray true).wp P Q a w := by
  obtain ⟨G, h1, h2, h3⟩ := Each.out l [] h
  refine wp_region_any hm ?_
  have hown := fillD_own a ds 0 (fun i => match ds[i]? with | some (some d) => a.tmps.getD d undef | _ => undef) (fun j d hj => by rw [Nat.zero_add]; simp only [hj])
  rw [← hown]
  refine each_any (Q := Q) hrefl htrans hds hB hok G h1 (by simpa using h2) (by simpa using h3) _ _ _ _ (hrefl _) (by simp) (by simp [leftN]) (fun i Φ hi _ => ?_)
  exfalso
  rcases Nat.lt_or_ge i l.length with h | h
  · simp [h] at hi
  · have hz : (Array.replicate l.toArray.size false)[i]? = none := Array.getElem?_eq_none (by simpa using h)
    simp only [Array.getD_eq_getD_getElem?, hz] at hi
    cases hi

/-- What was there has stayed; how the world goes on. -/
def BLe (x y : World) : Prop := Below x.heap.size x y
theorem BLe.refl' (w : World) : BLe w w := Below.refl _ _
theorem BLe.trans' (x y z : World) (h : BLe x y) (k : BLe y z) : BLe x z := h.trans (k.mono h.size)

theorem wp_region_below {id : Nat} {a : Act} {w : World} {l : List Oper} (ds : List (Option Tmp)) {Q : Exit → Act → World → Prop}
    (hm : P.follows .mixedOrders = true) (hds : l.map (·.dst) = ds) (hB : dstB a.tmps.size ds = true) (hok : okB l = true)
    (h : Each P BLe w.drew a ds (fun u w' => Q .normal (fillD u ds 0 a) w') l []) : (Code.region id l.toArray true).wp P Q a w :=
  wp_region_each BLe BLe.refl' BLe.trans' ds hm hds hB hok h

/-- One value, in every world. -/
theorem Each.fixed {w0 : World} {a : Act} {ds : List (Option Tmp)} {Q : (Nat → Value) → World → Prop} {o : Oper} {rest : List Oper} {F : List (Value → World → Prop)} (v : Value)
    (h : ∀ u w', Below w0.heap.size w0 w' → knows u w' F o.after.toList → wants u o.guard = true ∧ gives P o (evalOf u ds a) w' (fun x w'' => w'' = w' ∧ x = v))
    (hrest : Each P BLe w0 a ds Q rest (F ++ [fun x _ => x = v])) : Each P BLe w0 a ds Q (o :: rest) F := by
  refine ⟨_, ⟨fun _ _ _ _ h => h, fun u w' hw hk => ?_⟩, hrest⟩
  obtain ⟨h1, h2⟩ := h u w' hw hk
  simp only [h1, if_true]
  unfold gives at *
  generalize (execOp (evalOf u ds a) o).run P w' = r at *
  cases r with
  | ok n w' =>
    cases n <;> simp only [givesUpon] at h2 ⊢
    · obtain ⟨rfl, rfl⟩ := h2; exact ⟨BLe.refl' _, rfl⟩
    · obtain ⟨rfl, rfl⟩ := h2; exact ⟨BLe.refl' _, rfl⟩
    · exact h2.mono fun e w'' ⟨x, he, hw, hx⟩ => ⟨x, he, by subst hw; exact BLe.refl' _, hx⟩
  | halt x w' => simp only [givesUpon] at h2

/-- It is not wanted. -/
theorem Each.skipped {w0 : World} {a : Act} {ds : List (Option Tmp)} {Q : (Nat → Value) → World → Prop} {o : Oper} {rest : List Oper} {F : List (Value → World → Prop)}
    (h : ∀ u w', Below w0.heap.size w0 w' → knows u w' F o.after.toList → wants u o.guard = false)
    (hrest : Each P BLe w0 a ds Q rest (F ++ [fun x _ => x = undef])) : Each P BLe w0 a ds Q (o :: rest) F := by
  refine ⟨_, ⟨fun _ _ _ _ h => h, fun u w' hw hk => ?_⟩, hrest⟩
  rw [h u w' hw hk]
  simp

/-- A call or a making: one fact of the value in the world behind, that holds on. -/
theorem Each.made {w0 : World} {a : Act} {ds : List (Option Tmp)} {Q : (Nat → Value) → World → Prop} {o : Oper} {rest : List Oper} {F : List (Value → World → Prop)} (Φ : Value → World → Prop)
    (hst : ∀ v w1 w2, Below w1.heap.size w1 w2 → Φ v w1 → Φ v w2)
    (h : ∀ u w', Below w0.heap.size w0 w' → knows u w' F o.after.toList → wants u o.guard = true ∧ gives P o (evalOf u ds a) w' (fun x w'' => Below w'.heap.size w' w'' ∧ Φ x w''))
    (hrest : Each P BLe w0 a ds Q rest (F ++ [Φ])) : Each P BLe w0 a ds Q (o :: rest) F := by
  refine ⟨Φ, ⟨hst, fun u w' hw hk => ?_⟩, hrest⟩
  obtain ⟨h1, h2⟩ := h u w' hw hk
  simp only [h1, if_true]
  exact h2
end
end Go.Proofs.YtglkonccinpdnaaGreatDoor
/- Contracts: (*bytes.Reader).ReadAt into a row that is known whole. -/
namespace Go.Proofs.YtglkonccinpdnaaGreatDoor
open Go.RowKit

set_option maxRecDepth 100000 in
set_option maxHeartbeats 2000000 in
/-- Bytes that are there are read, all that are asked for, or fewer and the end. -/
theorem rdAt_some (p g o m c : Nat) (v : Value) (l : List UInt8) (i off : Nat) (cur : List Value) (t : TypeId) (A : Option Addr) (w : World) (hr : Rdr w p v l i) (hi : off < l.length) (hpg : p < g)
    (hg : w.heap[g]? = some (.cells cur.toArray t (0, 0))) (hA : 0 < m → A = some ⟨g, o, none⟩) (hfit : o + m ≤ cur.length) (hm : m ≤ 9223372036854775807) (e0 : Addr) (he : ErrAt p w 0 e0) :
    Calls Tryz.prog 189 #[.pointer (some ⟨p, 0, none⟩), .slice A m c, .int .i64 off] w fun e w' => e = .returned (.tuple #[.int .i64 (min m (l.length - off) : Nat), if l.length - off < m then errV e0 else .nilIface]) ∧
      Hid (w'.heap[g]? = some (.cells (splice cur o (Lib.byteCells ((l.drop off).take m))).toArray t (0, 0))) ∧ Keep (fun k => k = g) w w' := by
  obtain ⟨⟨r, hrow⟩, ⟨⟨A0, c0, rfl, hc0, hcl⟩, hout⟩, hle, hfits⟩ := hr
  have h0 : w.cell? ⟨p, 0, none⟩ = some (.slice A0 l.length c0) := by rw [cell_of_row' (cur := [_, _, _]) hrow]; rfl
  have hsl := fun W => run_from (P := Tryz.prog) Tryz.underlying58 info_u8 A0 l.length c0 off (by omega) W
  obtain ⟨N, hN⟩ : ∃ N, N = l.length := ⟨_, rfl⟩
  have HN := Lib.hid hN
  have HG := Lib.hid hg
  have HC := Lib.hid hcl
  have HO := Lib.hid hout
  have HF := Lib.hid hfit
  have HROW := Lib.hid hrow
  have HC0 := Lib.hid hc0
  have HE := Lib.hid he
  rw [← hN] at hsl h0 hi hfits ⊢
  clear hg hcl hout hfit hle hc0 hrow hN he
  have hb3 : BSo (fun k => p ≤ k) w (.slice A0 l.length c0) l := ⟨⟨A0, c0, rfl, by have := HC0.out; omega, HC.out⟩, HO.out⟩
  have hfrom := (hb3.bs.from_ (P := Tryz.prog) Tryz.underlying58 info_u8 off (by rw [← HN.out]; omega)).2
  have hlenD : (l.drop off).length = N - off := by rw [List.length_drop, HN.out]
  obtain ⟨K, hK⟩ : ∃ K, K = min m (N - off) := ⟨_, rfl⟩
  have hlen : (Lib.byteCells ((l.drop off).take m)).length = K := by rw [Lib.byteCells_length, List.length_take, hlenD, hK]
  have hpos : 0 < (Lib.byteCells ((l.drop off).take m)).length → A = some ⟨g, o, none⟩ ∧ ∃ ad, cutA A0 c0 off = some ad ∧ ∀ j v, (Lib.byteCells ((l.drop off).take m))[j]? = some v → w.cell? (ad.add j) = some v := by
    intro hp
    rw [hlen] at hp
    refine ⟨hA (by omega), ?_⟩
    rw [← HN.out] at hfrom
    obtain ⟨b, o', e, hcell⟩ := hfrom.at_ (by omega)
    refine ⟨_, e, fun j v hv => ?_⟩
    have hj : j < ((l.drop off).take m).length := by
      rcases Nat.lt_or_ge j ((l.drop off).take m).length with h | h
      · exact h
      · rw [List.getElem?_eq_none (by rw [Lib.byteCells_length]; exact h)] at hv; cases hv
    have ead : (⟨b, o', none⟩ : Addr).add j = ⟨b, o' + j, none⟩ := by by_cases h : j = 0 <;> simp [Addr.add, h]
    have hj2 : j < (l.drop off).length := by rw [List.length_take] at hj; omega
    rw [ead, hcell j hj2]
    simp only [Lib.byteCells, List.getElem?_map, List.getElem?_eq_getElem hj, Option.map_some, Option.some.injEq] at hv
    rw [← hv, List.getElem_take]
  have hn : (Lib.byteCells ((l.drop off).take m)).length = Nat.min (N - off) m := by rw [hlen, hK]; exact Nat.min_comm _ _
  have hfit2 : o + (Lib.byteCells ((l.drop off).take m)).length ≤ cur.length := by rw [hlen]; have := HF.out; omega
  have h1c := Lib.byteCells_one ((l.drop off).take m)
  have HLEN := Lib.hid hlen
  have HK := Lib.hid hK
  have HPOS := Lib.hid hpos
  have HNN := Lib.hid hn
  have HFIT2 := Lib.hid hfit2
  have H1C := Lib.hid h1c
  have keof : ∀ w', Keep (fun k => k = g) w w' → w'.cell? ⟨0, 0, none⟩ = some (errV e0) := fun w' hk => (HE.out.keep hk (fun k h => by omega)).cell
  clear hb3 hfrom hlenD hlen hpos hn hfit2 h1c hK hA
  by_cases hall : N - off < m
  · have e1 : (K : Int) < m := by have := HK.out; omega
    rw [if_pos hall, ← HK.out]
    clear hall
    go_enter Tryz.func189, Tryz.ntmps189
    go_wp2_with (refine wpList_copy_keep rfl (.tmp 19) (.tmp 25) 58 58 rfl 5 Tryz.underlying58 hsz1 A (cutA A0 c0 off) m c (N - off) (c0 - off) rfl rfl g o cur t HG.out _ HNN.out HPOS.out HFIT2.out H1C.out ?_)
    intro w4 hg4 hk4
    rw [HLEN.out]
    have k0 := keof w4 hk4
    have HK4 := Lib.hid hk4
    clear keof hk4
    go_wp2
    go_ret2
    exact ⟨rfl, hg4, HK4.out⟩
  · have e1 : ¬ ((K : Int) < m) := by have := HK.out; omega
    rw [if_neg hall, ← HK.out]
    clear hall
    go_enter Tryz.func189, Tryz.ntmps189
    go_wp2_with (refine wpList_copy_keep rfl (.tmp 19) (.tmp 25) 58 58 rfl 5 Tryz.underlying58 hsz1 A (cutA A0 c0 off) m c (N - off) (c0 - off) rfl rfl g o cur t HG.out _ HNN.out HPOS.out HFIT2.out H1C.out ?_)
    intro w4 hg4 hk4
    rw [HLEN.out]
    have HK4 := Lib.hid hk4
    clear keof hk4
    go_wp2
    go_ret2
    exact ⟨rfl, hg4, HK4.out⟩

set_option maxRecDepth 100000 in
/-- Behind the last byte the end is told. -/
theorem rdAt_end (p m c : Nat) (v : Value) (l : List UInt8) (i off : Nat) (A : Option Addr) (w : World) (hr : Rdr w p v l i) (hi : l.length ≤ off) (e0 : Addr) (he : ErrAt p w 0 e0) :
    Calls Tryz.prog 189 #[.pointer (some ⟨p, 0, none⟩), .slice A m c, .int .i64 off] w fun e w' => e = .returned (.tuple #[.int .i64 0, errV e0]) ∧ Keep (fun _ => False) w w' := by
  obtain ⟨⟨r, hrow⟩, ⟨⟨A0, c0, rfl, hc0, hcl⟩, hout⟩, hle, hfits⟩ := hr
  have h0 : w.cell? ⟨p, 0, none⟩ = some (.slice A0 l.length c0) := by rw [cell_of_row' (cur := [_, _, _]) hrow]; rfl
  have k0 := he.cell
  clear hcl hout hle hc0 hrow he
  go_enter Tryz.func189, Tryz.ntmps189
  go_wp2
  go_quiet (fail)
  go_wp2
  go_ret2
  exact ⟨rfl, keep_drewN _ _ _⟩
end Go.Proofs.YtglkonccinpdnaaGreatDoor
/- Contracts: a reader over a reader at places: its Read, its ReadByte. -/
namespace Go.Proofs.YtglkonccinpdnaaGreatDoor
open Go.RowKit

theorem nil_rdAt (a : Addr) (w : World) : (nilAhead 381 72 (.pointer (some a)) "ReadAt").run Tryz.prog w = .ok (some false) w := by kernel_rfl
theorem method_rdAt (a : Addr) (w : World) : (method 381 72 (.pointer (some a)) "ReadAt").run Tryz.prog w = .ok (189, .pointer (some a)) w := by kernel_rfl

abbrev orsO (p : Nat) (base off by_ : Int) : Obj := .cells #[rdV p, .int .i64 base, .int .i64 off, .int .u8 by_] 138 (0, 0)
/-- A reader in block q over the reader in block p, at byte off of its bytes l. -/
structure Ors (w : World) (q p : Nat) (v : Value) (l : List UInt8) (i base off : Nat) : Prop where
  row : ∃ b : Int, w.heap[q]? = some (orsO p base off b)
  rdr : Rdr w p v l i
  lt : p < q
  fits : off ≤ 4611686018427387904 ∧ l.length ≤ 4611686018427387904
theorem Ors.keep {w w' : World} {q p : Nat} {v : Value} {l : List UInt8} {i base off : Nat} (h : Ors w q p v l i base off) {S : Nat → Prop} (hk : Keep S w w') (hS : ∀ k, S k → p < k ∧ k ≠ q) : Ors w' q p v l i base off := by
  obtain ⟨⟨b, hr⟩, hd, hl, hf⟩ := h
  exact ⟨⟨b, hk.row hr (fun hh => (hS _ hh).2 rfl)⟩, hd.keep hk (fun k hh => (hS k hh).1), hl, hf⟩
theorem Ors.below {w w' : World} {q p : Nat} {v : Value} {l : List UInt8} {i base off : Nat} (h : Ors w q p v l i base off) (hb : Below w.heap.size w w') : Ors w' q p v l i base off := h.keep (S := fun _ => False) hb.keep (fun _ h => h.elim)

set_option maxRecDepth 100000 in
set_option maxHeartbeats 2000000 in
theorem orsRead_some (q p g o m c : Nat) (v : Value) (l : List UInt8) (i base off : Nat) (cur : List Value) (t : TypeId) (A : Option Addr) (w : World) (hr : Ors w q p v l i base off) (hi : off < l.length) (hpg : p < g) (hgq : g ≠ q)
    (hg : w.heap[g]? = some (.cells cur.toArray t (0, 0))) (hA : 0 < m → A = some ⟨g, o, none⟩) (hfit : o + m ≤ cur.length) (hm : m ≤ 9223372036854775807) (e0 : Addr) (he : ErrAt p w 0 e0) :
    Calls Tryz.prog 158 #[.pointer (some ⟨q, 0, none⟩), .slice A m c] w fun e w' => e = .returned (.tuple #[.int .i64 (min m (l.length - off) : Nat), if l.length - off < m then errV e0 else .nilIface]) ∧
      Ors w' q p v l i base (off + min m (l.length - off)) ∧ Hid (w'.heap[g]? = some (.cells (splice cur o (Lib.byteCells ((l.drop off).take m))).toArray t (0, 0))) ∧ Keep (fun k => k = g ∨ k = q) w w' := by
  have HC := Lib.hid (rdAt_some p g o m c v l i off cur t A w.drew hr.rdr.drew hi hpg hg hA hfit hm e0 he.drew)
  obtain ⟨b, hrow⟩ := hr.row
  have h0 := cell_of_row' (cur := [_, _, _, _]) hrow 0
  have h2 := cell_of_row' (cur := [_, _, _, _]) hrow 2
  have f2 := frozen_of_row' (cur := [_, _, _, _]) hrow 2
  have hna := fun w => nil_rdAt ⟨p, 0, none⟩ w
  have hme := fun w => method_rdAt ⟨p, 0, none⟩ w
  have hfo := hr.fits.1
  have hfl := hr.fits.2
  obtain ⟨K, hK⟩ : ∃ K, K = min m (l.length - off) := ⟨_, rfl⟩
  have hKl : off + K ≤ l.length := by omega
  obtain ⟨EV, hEV⟩ : ∃ EV : Value, EV = if l.length - off < m then errV e0 else .nilIface := ⟨_, rfl⟩
  rw [← hK, ← hEV] at HC ⊢
  have HROW := Lib.hid hrow
  have HR := Lib.hid hr
  have HK := Lib.hid hK
  clear hr hg hA hfit he hrow hK hEV hi
  go_enter Tryz.func158, Tryz.ntmps158
  go_wp2_with fail
  go_region_with (go_at_call 189; (with_reducible refine HC.out.mono ?_); rintro e w1 ⟨rfl, hg1, hk1⟩; have hr1 := hk1.row (HROW.out : w.drew.heap[q]? = _) (by omega); have i2 := cell_of_row' (cur := [_, _, _, _]) hr1 2; have j2 := frozen_of_row' (cur := [_, _, _, _]) hr1 2; have HR1 := Lib.hid hr1; have HG1 := Lib.hid hg1; have HK1 := Lib.hid hk1; clear hr1 hg1 hk1)
  all_goals
    clear h0 h2 f2
    go_wp2
    go_ret2
    have hk3 : Keep (fun k => k = g ∨ k = q) w (w1.setCell ⟨q, 2, none⟩ (.int .i64 ((off : Int) + K))) := Keep.setCell (S := fun k => k = g ∨ k = q) (((keep_drew _ w).trans HK1.out).mono fun _ _ h => Or.inl h) (Or.inr rfl) 2 _
    refine ⟨rfl, ⟨⟨b, ?_⟩, HR.out.rdr.keep hk3 (fun k h => by have := HR.out.lt; omega), HR.out.lt, by omega, hfl⟩, Lib.hid ?_, hk3⟩
    · have h := Lib.heap_setCell_same (i := 2) HR1.out (.int .i64 ((off : Int) + K))
      rw [h]; rfl
    · exact (Below.heap_setCell _ _ _ _ (show g ≠ q from hgq)).trans HG1.out.out

set_option maxRecDepth 100000 in
set_option maxHeartbeats 2000000 in
theorem orsRead_end (q p m c : Nat) (v : Value) (l : List UInt8) (i base off : Nat) (A : Option Addr) (w : World) (hr : Ors w q p v l i base off) (hi : l.length ≤ off) (e0 : Addr) (he : ErrAt p w 0 e0) :
    Calls Tryz.prog 158 #[.pointer (some ⟨q, 0, none⟩), .slice A m c] w fun e w' => e = .returned (.tuple #[.int .i64 0, errV e0]) ∧ Ors w' q p v l i base off ∧ Keep (fun k => k = q) w w' := by
  have HC := Lib.hid (rdAt_end p m c v l i off A w.drew hr.rdr.drew hi e0 he.drew)
  obtain ⟨b, hrow⟩ := hr.row
  have h0 := cell_of_row' (cur := [_, _, _, _]) hrow 0
  have h2 := cell_of_row' (cur := [_, _, _, _]) hrow 2
  have f2 := frozen_of_row' (cur := [_, _, _, _]) hrow 2
  have hna := fun w => nil_rdAt ⟨p, 0, none⟩ w
  have hme := fun w => method_rdAt ⟨p, 0, none⟩ w
  have hfo := hr.fits.1
  have HROW := Lib.hid hrow
  have HR := Lib.hid hr
  clear hr he hrow hi
  go_enter Tryz.func158, Tryz.ntmps158
  go_wp2_with fail
  go_region_with (go_at_call 189; (with_reducible refine HC.out.mono ?_); rintro e w1 ⟨rfl, hk1⟩; have hr1 := hk1.row (HROW.out : w.drew.heap[q]? = _) (fun h => h); have i2 := cell_of_row' (cur := [_, _, _, _]) hr1 2; have j2 := frozen_of_row' (cur := [_, _, _, _]) hr1 2; have HR1 := Lib.hid hr1; have HK1 := Lib.hid hk1; clear hr1 hk1)
  all_goals
    clear h0 h2 f2
    go_wp2
    go_ret2
    have hk3 : Keep (fun k => k = q) w (w1.setCell ⟨q, 2, none⟩ (.int .i64 off)) := Keep.setCell (S := fun k => k = q) (((keep_drew _ w).trans HK1.out).mono fun _ _ h => h.elim) rfl 2 _
    refine ⟨rfl, ⟨⟨b, ?_⟩, HR.out.rdr.keep hk3 (fun k h => by have := HR.out.lt; omega), HR.out.lt, HR.out.fits⟩, hk3⟩
    have h := Lib.heap_setCell_same (i := 2) HR1.out (.int .i64 off)
    rw [h]; rfl

set_option maxRecDepth 100000 in
set_option maxHeartbeats 2000000 in
/-- One byte read into the reader's own row. -/
theorem orsRead_own (q p : Nat) (v : Value) (l : List UInt8) (i base off c : Nat) (w : World) (hr : Ors w q p v l i base off) (hi : off < l.length) (e0 : Addr) (he : ErrAt p w 0 e0) :
    Calls Tryz.prog 158 #[.pointer (some ⟨q, 0, none⟩), .slice (some ⟨q, 3, none⟩) 1 c] w fun e w' => e = .returned (.tuple #[.int .i64 1, .nilIface]) ∧
      Ors w' q p v l i base (off + 1) ∧ Hid (w'.heap[q]? = some (orsO p base (off + 1 : Nat) (l[off]'hi).toNat)) ∧ Keep (fun k => k = q) w w' := by
  obtain ⟨b, hrow⟩ := hr.row
  have hC := rdAt_some p q 3 1 c v l i off [rdV p, .int .i64 base, .int .i64 off, .int .u8 b] _ (some ⟨q, 3, none⟩) w.drew hr.rdr.drew hi hr.lt hrow (fun _ => rfl) (by simp) (by omega) e0 he.drew
  rw [show min 1 (l.length - off) = 1 by omega, if_neg (by omega)] at hC
  have hsp : splice [rdV p, Value.int .i64 base, .int .i64 off, .int .u8 b] 3 (Lib.byteCells ((l.drop off).take 1)) = [rdV p, .int .i64 base, .int .i64 off, .int .u8 (l[off]'hi).toNat] := by
    rw [List.drop_eq_getElem_cons hi]
    rfl
  rw [hsp] at hC
  have HC := Lib.hid hC
  have h0 := cell_of_row' (cur := [_, _, _, _]) hrow 0
  have h2 := cell_of_row' (cur := [_, _, _, _]) hrow 2
  have hna := fun w => nil_rdAt ⟨p, 0, none⟩ w
  have hme := fun w => method_rdAt ⟨p, 0, none⟩ w
  have hfo := hr.fits.1
  have hfl := hr.fits.2
  have HR := Lib.hid hr
  clear hr he hrow hC hsp
  obtain ⟨B, hB⟩ : ∃ B : Int, B = (l[off]'hi).toNat := ⟨_, rfl⟩
  rw [← hB] at HC ⊢
  clear hB
  go_enter Tryz.func158, Tryz.ntmps158
  go_wp2_with fail
  go_region_with (go_at_call 189; (with_reducible refine HC.out.mono ?_); rintro e w1 ⟨rfl, hg1, hk1⟩; have hr1 := hg1.out; have i2 := cell_of_row' (cur := [_, _, _, _]) hr1 2; have j2 := frozen_of_row' (cur := [_, _, _, _]) hr1 2; have HR1 := Lib.hid hr1; have HK1 := Lib.hid hk1; clear hr1 hg1 hk1)
  all_goals
    clear h0 h2
    go_wp2
    go_ret2
    have hk3 : Keep (fun k => k = q) w (w1.setCell ⟨q, 2, none⟩ (.int .i64 ((off : Int) + 1))) := Keep.setCell (S := fun k => k = q) ((keep_drew _ w).trans HK1.out) rfl 2 _
    have hrow2 : (w1.setCell ⟨q, 2, none⟩ (.int .i64 ((off : Int) + 1))).heap[q]? = some (orsO p base (off + 1 : Nat) B) := by
      have h := Lib.heap_setCell_same (i := 2) HR1.out (.int .i64 ((off : Int) + 1))
      rw [h]; rfl
    exact ⟨rfl, ⟨⟨B, hrow2⟩, HR.out.rdr.keep hk3 (fun k h => by have := HR.out.lt; omega), HR.out.lt, by omega, hfl⟩, Lib.hid hrow2, hk3⟩
end Go.Proofs.YtglkonccinpdnaaGreatDoor
/- Contracts: ReadByte of a reader at places; varint.ReadUvarint over one. -/
namespace Go.Proofs.YtglkonccinpdnaaGreatDoor
open Go.RowKit

abbrev orsV (q : Nat) : Value := .iface 134 (.pointer (some ⟨q, 0, none⟩))
theorem nil_orsByte (a : Addr) (w : World) : (nilAhead 381 134 (.pointer (some a)) "ReadByte").run Tryz.prog w = .ok (some false) w := by kernel_rfl
theorem method_orsByte (a : Addr) (w : World) : (method 381 134 (.pointer (some a)) "ReadByte").run Tryz.prog w = .ok (160, .pointer (some a)) w := by kernel_rfl

set_option maxRecDepth 100000 in
set_option maxHeartbeats 1000000 in
theorem orsByte_some (q p : Nat) (v : Value) (l : List UInt8) (z base i : Nat) (w : World) (hr : Ors w q p v l z base i) (hi : i < l.length) (e0 : Addr) (he : ErrAt p w 0 e0) :
    Calls Tryz.prog 160 #[.pointer (some ⟨q, 0, none⟩)] w fun e w' => e = .returned (.tuple #[.int .u8 (l[i].toNat), .nilIface]) ∧ Ors w' q p v l z base (i + 1) ∧ Keep (fun k => k = q) w w' := by
  have HC := Lib.hid (orsRead_own q p v l z base i 1 w hr hi e0 he)
  obtain ⟨B, hB⟩ : ∃ B : Int, B = l[i].toNat := ⟨_, rfl⟩
  rw [← hB] at HC ⊢
  clear hB hr he
  go_enter Tryz.func160, Tryz.ntmps160
  go_wp2_with fail
  refine HC.out.mono ?_
  rintro e w1 ⟨rfl, hr1, hrow, hk1⟩
  have c3 := cell_of_row' (cur := [_, _, _, _]) hrow.out 3
  have HR1 := Lib.hid hr1
  have HK1 := Lib.hid hk1
  clear hr1 hrow hk1 HC
  go_wp2
  go_ret2
  exact ⟨rfl, HR1.out, HK1.out⟩

set_option maxRecDepth 100000 in
set_option maxHeartbeats 1000000 in
theorem orsByte_end (q p : Nat) (v : Value) (l : List UInt8) (z base i : Nat) (w : World) (hr : Ors w q p v l z base i) (hi : l.length ≤ i) (e0 : Addr) (he : ErrAt p w 0 e0) :
    Calls Tryz.prog 160 #[.pointer (some ⟨q, 0, none⟩)] w fun e w' => (∃ b : Int, e = .returned (.tuple #[.int .u8 b, errV e0])) ∧ Ors w' q p v l z base i ∧ Keep (fun k => k = q) w w' := by
  have HC := Lib.hid (orsRead_end q p 1 1 v l z base i (some ⟨q, 3, none⟩) w hr hi e0 he)
  clear hr he
  go_enter Tryz.func160, Tryz.ntmps160
  go_wp2_with fail
  refine HC.out.mono ?_
  rintro e w1 ⟨rfl, hr1, hk1⟩
  obtain ⟨b, hrow⟩ := hr1.row
  have c3 := cell_of_row' (cur := [_, _, _, _]) hrow 3
  have HR1 := Lib.hid hr1
  have HK1 := Lib.hid hk1
  clear hr1 hrow hk1 HC
  go_wp2
  go_ret2
  exact ⟨⟨b, rfl⟩, HR1.out, HK1.out⟩

set_option maxRecDepth 100000 in
set_option maxHeartbeats 4000000 in
theorem orsUv (q p : Nat) (v : Value) (l : List UInt8) (z base i : Nat) (w : World) (hr : Ors w q p v l z base i) (hil0 : i ≤ l.length) (e0 e1 : Addr) (t2 t3 : TypeId) (p2 p3 : Value) (he : UvErrs p w e0 e1 (.iface t2 p2) (.iface t3 p3)) :
    Calls Tryz.prog 91 #[orsV q] w fun e w' =>
      e = .returned ((uvDec (l.drop i)).rd (.iface t2 p2) (.iface t3 p3) (if i = l.length then errV e0 else errV e1)) ∧ (∃ j, (uvDec (l.drop i)).at_ i j ∧ Ors w' q p v l z base j) ∧ Keep (fun k => k = q) w w' := by
  have hna := fun w => nil_orsByte ⟨q, 0, none⟩ w
  have hme := fun w => method_orsByte ⟨q, 0, none⟩ w
  have hmf : ∀ (fn : Fn) (first cap : Array Value) (w : World), (Instr.makeFunc fn first cap).run Tryz.prog w = .ok (.func fn first cap) w := fun _ _ _ _ => rfl
  have heq := fun w => run_eqErr_same e0 w
  obtain ⟨hi0, hf0⟩ : i ≤ l.length ∧ l.length ≤ 9223372036854775807 := ⟨hil0, by have := hr.fits.2; omega⟩
  have hpq := hr.lt
  have HR0 := Lib.hid hr
  have HE0 := Lib.hid he
  clear hr he
  go_enter Tryz.func91, Tryz.ntmps91
  go_wp2
  go_loopw [4, 5] (fun x s wr => ∃ (k X : Nat), i + k ≤ l.length ∧ k ≤ 9 ∧ X < 2 ^ (7 * k) ∧ s = .int .u64 (7 * k : Nat) ∧ x = .int .u64 X ∧ Hid (uvDec (l.drop i) = uvGo k X (l.drop (i + k))) ∧ Hid (Ors wr q p v l z base (i + k)) ∧ Keep (fun k => k = q) w wr) (fun _ s _ => 70 - (intOf s).toNat)
  case atStart => exact ⟨0, 0, by omega, by omega, by decide, rfl, rfl, Lib.hid rfl, HR0, Keep.refl _ _⟩
  case round =>
    obtain ⟨k, X, hk, hk10, hX, rfl, rfl, hd, HR, hkw⟩ := hrel
    have HE := Lib.hid (HE0.out.keep hkw (fun k hk => by omega))
    by_cases hlt : i + k < l.length
    · have HB := Lib.hid (orsByte_some q p v l z base (i + k) wr HR.out hlt e0 HE.out.eof)
      have hb : l[i + k].toNat < 256 := UInt8.toNat_lt _
      obtain ⟨B, hB⟩ : ∃ B, B = l[i + k].toNat := ⟨_, rfl⟩
      rw [← hB] at HB hb
      have HBB := Lib.hid hB
      clear hB
      have hstep : uvGo k X (l.drop (i + k)) = (if (k = 8 ∧ 128 ≤ B) ∨ 9 ≤ k then .over
          else if B < 128 then (if B = 0 ∧ 0 < k then .notMin else .ok (X + B * 2 ^ (7 * k)) (k + 1))
          else uvGo (k + 1) (X + (B % 128) * 2 ^ (7 * k)) (l.drop (i + k + 1))) := by
        rw [List.drop_eq_getElem_cons hlt, uvGo, ← HBB.out]
      clear HBB
      go_wp2_with fail
      refine HB.out.mono ?_
      rintro e w1 ⟨rfl, hr1, hk1⟩
      have hkw1 := hkw.trans hk1
      have HE1 := HE.out.keep hk1 (fun k hk => by omega)
      have hc2 := HE1.over
      have hc3 := HE1.notMin
      have HR1 := Lib.hid hr1
      clear hr1 hk1 HE1 HB
      by_cases h9 : k = 9
      · subst h9
        have hfin : Hid (uvDec (l.drop i) = .over) := Lib.hid (by rw [hd.out, hstep, if_pos (Or.inr (by omega))])
        clear hd hstep
        go_wp2
        go_quiet (fail)
        go_wp2
        go_ret2
        exact ⟨by rw [hfin.out]; rfl, ⟨_, by rw [hfin.out]; trivial, HR1.out.keep (keep_drewN (fun _ => False) _ _) (fun _ h => h.elim)⟩, hkw1.drewN _⟩
      by_cases hge : 128 ≤ B
      · by_cases h8 : k = 8
        · subst h8
          have hfin : Hid (uvDec (l.drop i) = .over) := Lib.hid (by rw [hd.out, hstep, if_pos (Or.inl ⟨rfl, hge⟩)])
          clear hd hstep
          go_wp2
          go_quiet (fail)
          go_wp2
          go_ret2
          exact ⟨by rw [hfin.out]; rfl, ⟨_, by rw [hfin.out]; trivial, HR1.out.keep (keep_drewN (fun _ => False) _ _) (fun _ h => h.elim)⟩, hkw1.drewN _⟩
        · have hfin : Hid (uvDec (l.drop i) = uvGo (k + 1) (X + (B % 128) * 2 ^ (7 * k)) (l.drop (i + k + 1))) := Lib.hid (by
            rw [hd.out, hstep, if_neg (by omega), if_neg (by omega)])
          clear hd hstep
          have hk8 : ((7 * k : Nat) : Int) < 56 := by omega
          have hor := Lib.hid (uv_or_and k X B (by omega) hX hb)
          have hlt2 := uv_step_lt k X (B % 128) hX (by omega)
          go_wp2
          exact ⟨⟨k + 1, X + B % 128 * 2 ^ (7 * k), by omega, by omega, hlt2, by go_num, by rw [hor.out], hfin, HR1, hkw1⟩, by simp [intOf]; omega⟩
      · by_cases hz : B = 0 ∧ 0 < k
        · obtain ⟨rfl, hz⟩ := hz
          have hfin : Hid (uvDec (l.drop i) = .notMin) := Lib.hid (by rw [hd.out, hstep, if_neg (by omega), if_pos (by omega), if_pos ⟨rfl, hz⟩])
          clear hd hstep
          have hk9' : ((7 * k : Nat) : Int) < 63 := by omega
          by_cases hk8 : k = 8
          · subst hk8
            go_wp2
            go_quiet (fail)
            go_wp2
            go_ret2
            exact ⟨by rw [hfin.out]; rfl, ⟨_, by rw [hfin.out]; trivial, HR1.out.keep (keep_drewN (fun _ => False) _ _) (fun _ h => h.elim)⟩, hkw1.drewN _⟩
          · have hk8' : (((7 * k : Nat) : Int) == 56) = false := by simp; omega
            go_wp2
            go_quiet (fail)
            go_wp2
            go_ret2
            exact ⟨by rw [hfin.out]; rfl, ⟨_, by rw [hfin.out]; trivial, HR1.out.keep (keep_drewN (fun _ => False) _ _) (fun _ h => h.elim)⟩, hkw1.drewN _⟩
        · have hfin : Hid (uvDec (l.drop i) = .ok (X + B * 2 ^ (7 * k)) (k + 1)) := Lib.hid (by rw [hd.out, hstep, if_neg (by omega), if_pos (by omega), if_neg hz])
          have hor := Lib.hid (uv_or k X B (by omega) hX (by omega))
          clear hd hstep
          have hk9' : ((7 * k : Nat) : Int) < 63 := by omega
          by_cases hB0 : B = 0
          · subst hB0
            have hk0 : k = 0 := by omega
            subst hk0
            have hfin' : Hid (uvDec (l.drop i) = .ok X 1) := Lib.hid (by rw [hfin.out]; simp)
            clear hor hfin
            have hor0 : Hid (bits .or .u64 (X : Int) 0 = (X : Nat)) := Lib.hid (by rw [u64_orv0 _ _ (by omega) (by omega) (by omega) (by omega) (by omega)]; omega)
            go_wp2
            go_ret2
            exact ⟨by rw [hfin'.out, hor0.out]; rfl, ⟨_, by rw [hfin'.out]; exact rfl, HR1.out⟩, hkw1⟩
          · have hB0' : ((B : Int) == 0) = false := by simp; omega
            by_cases hk8 : k = 8
            · subst hk8
              have hor8 : Hid (bits .or .u64 (X : Int) ((B : Int) * 72057594037927936) = ((X + B * 2 ^ (7 * 8) : Nat) : Int)) := Lib.hid (by
                rw [← hor.out, IntWalk.u64_in _ (by omega)]; rfl)
              clear hor
              go_wp2
              go_ret2
              exact ⟨by rw [hfin.out, hor8.out]; rfl, ⟨_, by rw [hfin.out]; exact rfl, HR1.out⟩, hkw1⟩
            · have hk8' : (((7 * k : Nat) : Int) == 56) = false := by simp; omega
              go_wp2
              go_ret2
              exact ⟨by rw [hfin.out, hor.out]; rfl, ⟨_, by rw [hfin.out]; exact rfl, HR1.out⟩, hkw1⟩
    · have hkn : i + k = l.length := by omega
      have hfin : Hid (uvDec (l.drop i) = .under) := Lib.hid (by rw [hd.out, hkn, List.drop_length]; rfl)
      have HB := Lib.hid (orsByte_end q p v l z base (i + k) wr HR.out (by omega) e0 HE.out.eof)
      clear hd
      go_wp2_with fail
      refine HB.out.mono ?_
      rintro e w1 ⟨⟨b9, rfl⟩, hr1, hk1⟩
      have hkw1 := hkw.trans hk1
      have HE1 := HE.out.keep hk1 (fun k hk => by omega)
      have hc1 := HE1.eof.cell
      have hc4 := HE1.unex.cell
      have HR1 := Lib.hid hr1
      clear hr1 hk1 HE1 HB
      by_cases hk0 : k = 0
      · subst hk0
        have hil : i = l.length := by omega
        clear hkn hlt hk
        go_wp2
        go_ret2
        exact ⟨rfl, ⟨_, trivial, HR1.out⟩, hkw1⟩
      · have hk0' : (((7 * k : Nat) : Int) == 0) = false := by simp; omega
        have hil : ¬ i = l.length := by omega
        go_wp2
        go_ret2
        exact ⟨by rw [hfin.out]; rfl, ⟨_, by rw [hfin.out]; trivial, HR1.out⟩, hkw1⟩
end Go.Proofs.YtglkonccinpdnaaGreatDoor
namespace Go.Proofs.YtglkonccinpdnaaGreatDoor
open Go.RowKit

set_option maxRecDepth 100000 in
set_option maxHeartbeats 1000000 in
theorem fromUv_none (A : Option Addr) (c : Nat) (w : World) (T : TypeId) (p3 : Value) (h3 : w.cell? ⟨8, 0, none⟩ = some (.iface T p3)) :
    Calls Tryz.prog 88 #[.slice A 0 c] w fun e w' =>
      e = .returned (.tuple #[.int .u64 0, .int .i64 0, .iface T p3]) ∧ ∃ q, w' = w.drewN q := by
  go_enter Tryz.func88, Tryz.ntmps88
  go_wp2
  refine wp_loop_rounds 1 ?_
  rw [rounds_succ]
  go_wp2
  go_quiet (fail)
  go_wp2
  go_ret3
  exact ⟨rfl, _, rfl⟩

/-- varint.FromUvarint at whatever slice: it reads as uvDec says; its errors are the three sentinels. -/
theorem fromUv (A : Option Addr) (n c : Nat) (l : List UInt8) (w : World) (hs : BS w (.slice A n c) l) (hm : l.length ≤ 9223372036854775807)
    (T : TypeId) (p1 p2 p3 : Value)
    (h1 : w.cell? ⟨6, 0, none⟩ = some (.iface T p1)) (h2 : w.cell? ⟨7, 0, none⟩ = some (.iface T p2)) (h3 : w.cell? ⟨8, 0, none⟩ = some (.iface T p3)) :
    Calls Tryz.prog 88 #[.slice A n c] w fun e w' =>
      e = .returned ((uvDec l).val (.iface T p1) (.iface T p2) (.iface T p3)) ∧ ∃ q, w' = w.drewN q := by
  obtain ⟨hn, _⟩ := hs.slice
  rcases Nat.eq_zero_or_pos n with h0 | h0
  · subst h0
    have hl : l = [] := List.eq_nil_of_length_eq_zero hn.symm
    subst hl
    exact fromUv_none A c w T p3 h3
  · obtain ⟨b, o, rfl, hc⟩ := hs.at_ h0
    exact fromUv_any b o n c l w hn.symm (by omega) hc T p1 p2 p3 h1 h2 h3



/-- What impl.UvRead answers. -/
def UvR.plain : UvR → Value
  | .ok x m => .tuple #[.int .u64 x, .int .i64 m, .bool true]
  | _ => .tuple #[.int .u64 0, .int .i64 0, .bool false]

end Go.Proofs.YtglkonccinpdnaaGreatDoor
namespace Go.Proofs.YtglkonccinpdnaaGreatDoor
open Go.RowKit

/-- What spec.ReadVarint answers. -/
def UvR.spec : UvR → Value
  | .ok x m => .tuple #[.int .u64 x, .int .i64 m, .int .i64 0]
  | .under => .tuple #[.int .u64 0, .int .i64 0, .int .i64 1]
  | .over => .tuple #[.int .u64 0, .int .i64 0, .int .i64 2]
  | .notMin => .tuple #[.int .u64 0, .int .i64 0, .int .i64 3]

theorem UvR.spec_eq {Y M : Int} {x m : Nat} (h : Y = x) (h2 : M = m) : Ending.returned (.tuple #[.int .u64 Y, .int .i64 M, .int .i64 0]) = .returned (UvR.ok x m).spec := by
  rw [h, h2]; rfl

end Go.Proofs.YtglkonccinpdnaaGreatDoor
/- Contracts: internalio.ToByteReader, index.ReadCodec, impl.IxCodec. FnIxCodec's walk. -/
namespace Go.Proofs.YtglkonccinpdnaaGreatDoor
open Go.RowKit

set_option maxRecDepth 100000 in
set_option maxHeartbeats 1000000 in
theorem toByteReader (p : Nat) (w : World) : Calls Tryz.prog 92 #[rdV p] w fun e w' => e = .returned (rdV p) ∧ w' = w := by
  have hta : ∀ W, (Instr.typeAssert (rdV p) 53 187 true).run Tryz.prog W = .ok (.tuple #[rdV p, .bool true]) W := fun W => by kernel_rfl
  go_enter Tryz.func92, Tryz.ntmps92
  go_wp2
  go_ret
  exact ⟨rfl, rfl⟩

/-- What impl.IxCodec answers. -/
def UvR.ix : UvR → Value
  | .ok x _ => .tuple #[.int .u64 x, .bool true]
  | _ => .tuple #[.int .u64 0, .bool false]

theorem uvDec_1025 : uvDec (⟨#[129, 8]⟩ : ByteArray).data.toList = .ok 1025 2 := rfl

end Go.Proofs.YtglkonccinpdnaaGreatDoor
/- Contracts: (*bytes.Reader).Len, impl.kind, util.LdReadSize, util.LdRead over a reader of bytes. -/
namespace Go.Proofs.YtglkonccinpdnaaGreatDoor
open Go.RowKit

section
variable {P : Program}
/-- 'make([]byte, n)' of a uint64. -/
theorem make_bytes64 {t e : TypeId} (ht : P.underlying t = some (.slice e)) (hinfo : (P.info? e).map (fun i => (i.zero, i.size, i.bytes)) = some (some (.int .u8 0), 1, 1)) (w : World) (n : Nat) (hn : n ≤ 281474976710656) :
    ∃ w1, (Instr.makeSlice t (.int .u64 (n : Int)) (.int .u64 (n : Int))).run P w = .ok (.slice (some ⟨w.heap.size, 0, none⟩) n n) w1 ∧ Below w.heap.size w w1 ∧ w1.heap.size = w.heap.size + 1 ∧
      w1.heap[w.heap.size]? = some (.cells (List.replicate n (Value.int .u8 0)).toArray e (0, 0)) := by
  obtain ⟨i, hi, h2⟩ := Option.map_eq_some_iff.1 hinfo
  simp only [Prod.mk.injEq] at h2
  obtain ⟨hz, hsz, hby⟩ := h2
  have hr := run_make (P := P) w t e i _ ht hi hz .u64 .u64 (n : Int) (n : Int) (by omega) (by omega) (by rw [hby]; omega) (by omega)
  simp only [Int.toNat_natCast, hsz, Nat.mul_one] at hr
  refine ⟨_, hr, (Below.refl _ _).alloc (Nat.le_refl _) _, by simp, ?_⟩
  rw [heap_alloc_new]
  congr 2
  apply Array.ext
  · simp [size_madeCells]
  · intro j h1 h2
    have h0 : [Value.int IntKind.u8 0][j % 1]?.getD default = Value.int IntKind.u8 0 := by rw [Nat.mod_one]; rfl
    simp [madeCells, Value.cells, h0]
end


set_option maxRecDepth 100000 in
set_option maxHeartbeats 1000000 in
theorem ldSize_ok (p : Nat) (v : Value) (l : List UInt8) (i : Nat) (w : World) (hr : Rdr w p v l i) (e0 e1 : Addr) (t2 t3 : TypeId) (p2 p3 : Value) (he : UvErrs p w e0 e1 (.iface t2 p2) (.iface t3 p3)) (x m : Nat) (hd : uvDec (l.drop i) = .ok x m) (z : Bool) (most : Nat) (hm : x ≤ most) (hz : z = true → x ≠ 0) :
    Calls Tryz.prog 79 #[rdV p, .bool z, .int .u64 most] w fun e w' => e = .returned (.tuple #[.int .u64 x, .nilIface]) ∧ Rdr w' p v l (i + m) ∧ Keep (fun k => k = p) w w' := by
  have HB := Lib.hid (readUv p v l i w hr e0 e1 t2 t3 p2 p3 he)
  rw [hd] at HB
  have HT := fun W => Lib.hid (toByteReader p W)
  clear hr he hd
  go_enter Tryz.func79, Tryz.ntmps79
  go_wp2_with fail
  refine (HT _).out.mono ?_
  rintro e w1 ⟨rfl, rfl⟩
  go_wp2_with fail
  refine HB.out.mono ?_
  unfold UvR.rd UvR.at_
  dsimp only
  rintro e w2 ⟨rfl, ⟨j, rfl, hr2⟩, hk⟩
  have HR2 := Lib.hid hr2
  clear hr2 HB HT
  cases z
  · by_cases h0 : x = 0
    · subst h0
      go_wp2
      go_ret2
      exact ⟨rfl, HR2.out, hk⟩
    · have hx : ((x : Int) == 0) = false := by simp; omega
      go_wp2
      go_ret2
      exact ⟨rfl, HR2.out, hk⟩
  · have hx : ((x : Int) == 0) = false := by have := hz rfl; simp; omega
    go_wp2
    go_ret2
    exact ⟨rfl, HR2.out, hk⟩

set_option maxRecDepth 100000 in
set_option maxHeartbeats 1000000 in
theorem ldSize_end (p : Nat) (v : Value) (l : List UInt8) (i : Nat) (w : World) (hr : Rdr w p v l i) (e0 e1 : Addr) (t2 t3 : TypeId) (p2 p3 : Value) (he : UvErrs p w e0 e1 (.iface t2 p2) (.iface t3 p3)) (m : Nat) (hd : uvDec (l.drop i) = .ok 0 m) (most : Nat) :
    Calls Tryz.prog 79 #[rdV p, .bool true, .int .u64 most] w fun e w' => e = .returned (.tuple #[.int .u64 0, errV e0]) ∧ Rdr w' p v l (i + m) ∧ Keep (fun k => k = p) w w' := by
  have HB := Lib.hid (readUv p v l i w hr e0 e1 t2 t3 p2 p3 he)
  rw [hd] at HB
  have HE := Lib.hid he
  have HT := fun W => Lib.hid (toByteReader p W)
  clear hr he hd
  go_enter Tryz.func79, Tryz.ntmps79
  go_wp2_with fail
  refine (HT _).out.mono ?_
  rintro e w1 ⟨rfl, rfl⟩
  go_wp2_with fail
  refine HB.out.mono ?_
  unfold UvR.rd UvR.at_
  dsimp only
  rintro e w2 ⟨rfl, ⟨j, rfl, hr2⟩, hk⟩
  have HR2 := Lib.hid hr2
  have hc := (HE.out.keep hk (fun k h => by omega)).eof.cell
  clear hr2 HB HT HE
  go_wp2
  go_quiet (fail)
  go_wp2
  go_ret2
  exact ⟨rfl, HR2.out.keep (keep_drewN (fun _ => False) _ _) (fun _ h => h.elim), hk.drewN _⟩
end Go.Proofs.YtglkonccinpdnaaGreatDoor
