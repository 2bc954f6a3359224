/- Contracts, joined (Each EachW IiPa IiR). -/
import Derived.Test.YthehmnpbepmnpaaGreatDoorRJIo7
import Derived.Deep.QuietTactic
import Derived.BigQuiet
import Derived.Below
import Derived.KernelRfl
import Derived.Deep.RegionHeld3
/- A region that draws its order: each operation is shown once, out of what it waits for (a rule of this session's). -/
namespace Go.Proofs.YthehmnpbepmnpaaGreatDoorR
open Go Go.RowKit

section
variable {P : Program}

/-- What is asked of an operation that was carried out: a value and a world of which R holds. -/
def givesUpon (P : Program) (R : Value → World → Prop) : Result Next → Prop
  | .ok (.value u) w' => R u w'
  | .ok .skip w' => R undef w'
  | .ok (.enter f args) w' => Calls P f args w' (fun e w'' => ∃ v, e = .returned v ∧ R v w'')
  | _ => False

def gives (P : Program) (o : Oper) (ev : Operand → Value) (w : World) (R : Value → World → Prop) : Prop := givesUpon P R ((execOp ev o).run P w)

theorem wp_of_gives {o : Oper} {a : Act} {w : World} {R : Value → World → Prop} {K : Act → World → Prop} {Q : Exit → Act → World → Prop}
    (h : ∀ v w', R v w' → K (a.put o.dst v) w') (hg : gives P o a.eval w R) : o.wp P a w K Q := by
  unfold gives at hg
  unfold Oper.wp
  generalize (execOp a.eval o).run P w = r at *
  cases r with
  | ok n w' =>
    cases n <;> simp only [givesUpon] at hg <;> simp only [Oper.upon]
    case value u => exact h _ _ hg
    case skip => exact h _ _ hg
    case enter f args => exact hg.mono fun e w'' ⟨v, he, hr⟩ => by subst he; exact h _ _ hr
  | halt x w' => simp only [givesUpon] at hg

/-- The frame with the values u in the temporaries of the operations. -/
def fillD (u : Nat → Value) : List (Option Tmp) → Nat → Act → Act
  | [], _, a => a
  | d :: l, k, a => fillD u l (k + 1) (a.put d (u k))

def look (u : Nat → Value) : List (Option Tmp) → Nat → Tmp → Value → Value
  | [], _, _, z => z
  | some d :: l, k, t, z => look u l (k + 1) t (bif d == t then u k else z)
  | none :: l, k, t, z => look u l (k + 1) t z

def evalOf (u : Nat → Value) (ds : List (Option Tmp)) (a : Act) : Operand → Value
  | .tmp t => look u ds 0 t (a.tmps.getD t undef)
  | .const v => v
  | .global g => .pointer (some ⟨g, 0, none⟩)
  | .func f => .func (.func f) #[] #[]

def upd (u : Nat → Value) (i : Nat) (v : Value) : Nat → Value := fun j => if j = i then v else u j

def dstB (n : Nat) : List (Option Tmp) → Bool
  | [] => true
  | none :: l => dstB n l
  | some d :: l => decide (d < n) && !(l.contains (some d)) && dstB n l

theorem put_same (a : Act) (d : Option Tmp) (x y : Value) : (a.put d x).put d y = a.put d y := by
  cases d with
  | none => rfl
  | some d => simp [Act.put]

theorem fillD_put (u : Nat → Value) (d : Tmp) (v : Value) : ∀ (l : List (Option Tmp)) (k : Nat) (a : Act), l.contains (some d) = false → (fillD u l k a).put (some d) v = fillD u l k (a.put (some d) v)
  | [], _, _, _ => rfl
  | x :: l, k, a, h => by
    simp only [List.contains_cons, Bool.or_eq_false_iff] at h
    obtain ⟨h1, h2⟩ := h
    simp only [fillD]
    rw [fillD_put u d v l (k + 1) _ h2]
    congr 1
    exact Act.put_comm a _ _ (fun d' hd' he => by subst hd'; injection he with he; subst he; simp at h1)

theorem fillD_none (v : Value) (a : Act) : a.put none v = a := rfl

theorem fillD_congr {u u' : Nat → Value} : ∀ (l : List (Option Tmp)) (k : Nat) (a : Act), (∀ j, k ≤ j → u j = u' j) → fillD u l k a = fillD u' l k a
  | [], _, _, _ => rfl
  | x :: l, k, a, h => by
    simp only [fillD]
    rw [h k (Nat.le_refl _)]
    exact fillD_congr l (k + 1) _ (fun j hj => h j (by omega))

theorem fillD_congr_none {u u' : Nat → Value} : ∀ (l : List (Option Tmp)) (k : Nat) (a : Act), (∀ j d, l[j]? = some (some d) → u (k + j) = u' (k + j)) → fillD u l k a = fillD u' l k a
  | [], _, _, _ => rfl
  | none :: l, k, a, h => by
    simp only [fillD, fillD_none]
    exact fillD_congr_none l (k + 1) _ (fun j d hj => by have := h (j + 1) d (by simpa using hj); rwa [Nat.add_assoc, Nat.add_comm 1 j])
  | some d :: l, k, a, h => by
    simp only [fillD]
    rw [show u k = u' k from h 0 d rfl]
    exact fillD_congr_none l (k + 1) _ (fun j d hj => by have := h (j + 1) d (by simpa using hj); rwa [Nat.add_assoc, Nat.add_comm 1 j])

theorem fillD_upd (n : Nat) (u : Nat → Value) (v : Value) : ∀ (l : List (Option Tmp)) (k i : Nat) (a : Act) (d : Option Tmp), dstB n l = true → l[i]? = some d → (fillD u l k a).put d v = fillD (upd u (k + i) v) l k a
  | [], _, _, _, _, _, h => by simp at h
  | x :: l, k, 0, a, d, hB, h => by
    obtain rfl : x = d := by simpa using h
    simp only [fillD]
    have e : upd u (k + 0) v k = v := by simp [upd]
    have e2 : ∀ b, fillD (upd u (k + 0) v) l (k + 1) b = fillD u l (k + 1) b := fun b => fillD_congr _ _ _ (fun j hj => by simp [upd]; omega)
    rw [e2, e]
    cases x with
    | none => rfl
    | some d =>
      simp only [dstB, Bool.and_eq_true, Bool.not_eq_true'] at hB
      rw [fillD_put u d v l (k + 1) _ hB.1.2, put_same]
  | x :: l, k, i + 1, a, d, hB, h => by
    simp only [fillD]
    have hB' : dstB n l = true := by cases x <;> simp only [dstB, Bool.and_eq_true] at hB <;> first | exact hB | exact hB.2
    have := fillD_upd n u v l (k + 1) i (a.put x (u k)) d hB' (by simpa using h)
    rw [this, show k + 1 + i = k + (i + 1) by omega]
    congr 2
    simp [upd]

theorem put_own (a : Act) (d : Tmp) : a.put (some d) (a.tmps.getD d undef) = a := by
  unfold Act.put
  cases a with
  | mk tmps defers =>
    simp only [Act.mk.injEq, and_true]
    apply Array.ext_getElem?
    intro j
    rw [Array.getElem?_setIfInBounds]
    by_cases h : d = j
    · subst h
      by_cases h2 : d < tmps.size
      · simp [h2]
      · simp [h2]
    · simp [h]

theorem fillD_own (a : Act) : ∀ (l : List (Option Tmp)) (k : Nat) (u : Nat → Value), (∀ j d, l[j]? = some (some d) → u (k + j) = a.tmps.getD d undef) → fillD u l k a = a
  | [], _, _, _ => rfl
  | x :: l, k, u, h => by
    simp only [fillD]
    have e : a.put x (u k) = a := by
      cases x with
      | none => rfl
      | some d => rw [show u k = _ from h 0 d rfl]; exact put_own a d
    rw [e]
    exact fillD_own a l (k + 1) u (fun j d hj => by have := h (j + 1) d (by simpa using hj); rw [← this]; congr 1; omega)

theorem put_getD (a : Act) (d t : Tmp) (v : Value) (h : d < a.tmps.size) : (a.put (some d) v).tmps.getD t undef = bif d == t then v else a.tmps.getD t undef := by
  by_cases e : d = t
  · subst e; simp [Act.put, h]
  · have e' : (d == t) = false := by simpa using e
    simp [Act.put, Array.getElem?_setIfInBounds_ne e, e']

theorem put_size (a : Act) (d : Option Tmp) (v : Value) : (a.put d v).tmps.size = a.tmps.size := by
  cases d <;> simp [Act.put]

theorem fillD_size (u : Nat → Value) : ∀ (l : List (Option Tmp)) (k : Nat) (a : Act), (fillD u l k a).tmps.size = a.tmps.size
  | [], _, _ => rfl
  | x :: l, k, a => by simp only [fillD]; rw [fillD_size u l (k + 1), put_size]

theorem fillD_look (u : Nat → Value) (t : Tmp) : ∀ (l : List (Option Tmp)) (k : Nat) (a : Act), dstB a.tmps.size l = true → (fillD u l k a).tmps.getD t undef = look u l k t (a.tmps.getD t undef)
  | [], _, _, _ => rfl
  | none :: l, k, a, hB => by simp only [fillD, look, fillD_none]; exact fillD_look u t l (k + 1) a hB
  | some d :: l, k, a, hB => by
    simp only [dstB, Bool.and_eq_true, decide_eq_true_eq] at hB
    simp only [fillD, look]
    rw [fillD_look u t l (k + 1) _ (by rw [put_size]; exact hB.2), put_getD _ _ _ _ hB.1.1]

theorem fillD_eval (u : Nat → Value) (l : List (Option Tmp)) (a : Act) (hB : dstB a.tmps.size l = true) : (fillD u l 0 a).eval = evalOf u l a := by
  funext x
  cases x with
  | tmp t => exact fillD_look u t l 0 a hB
  | _ => rfl

theorem look_none (u : Nat → Value) (t : Tmp) : ∀ (l : List (Option Tmp)) (k : Nat) (z : Value), l.contains (some t) = false → look u l k t z = z
  | [], _, _, _ => rfl
  | none :: l, k, z, h => by simp only [look]; exact look_none u t l (k + 1) z (by simpa using h)
  | some d :: l, k, z, h => by
    simp only [List.contains_cons, Bool.or_eq_false_iff] at h
    have e : (d == t) = false := by
      have := h.1
      rw [beq_eq_false_iff_ne] at this ⊢
      intro e; subst e; exact this rfl
    simp only [look, e, cond_false]
    exact look_none u t l (k + 1) z h.2

theorem look_at (n : Nat) (u : Nat → Value) (t : Tmp) : ∀ (l : List (Option Tmp)) (k i : Nat) (z : Value), dstB n l = true → l[i]? = some (some t) → look u l k t z = u (k + i)
  | [], _, _, _, _, h => by simp at h
  | none :: l, k, 0, z, hB, h => by simp at h
  | none :: l, k, i + 1, z, hB, h => by
    simp only [look]
    rw [look_at n u t l (k + 1) i z hB (by simpa using h)]
    congr 1; omega
  | some d :: l, k, 0, z, hB, h => by
    obtain rfl : d = t := by simpa using h
    simp only [dstB, Bool.and_eq_true, Bool.not_eq_true'] at hB
    simp only [look, beq_self_eq_true, cond_true]
    rw [look_none u d l (k + 1) _ hB.1.2]; rfl
  | some d :: l, k, i + 1, z, hB, h => by
    simp only [dstB, Bool.and_eq_true] at hB
    simp only [look]
    rw [look_at n u t l (k + 1) i _ hB.2 (by simpa using h)]
    congr 1; omega

def asBool : Value → Option Bool
  | .bool b => some b
  | _ => none

/-- Is the operation wanted, by the value of the one that guards it? -/
def wants (u : Nat → Value) : Option (Nat × Bool) → Bool
  | none => true
  | some (g, b) => asBool (u g) == some b

def okB (ops : List Oper) : Bool :=
  (List.range ops.length).all fun i => match ops[i]? with
    | none => true
    | some o => o.after.toList.all (fun e => !Region.binds .any e || decide (e.on < i)) &&
      (match o.guard with
       | none => true
       | some (g, _) => match ops[g]? with
         | some og => og.dst.isSome
         | none => false)

def factAt (F : List (Value → World → Prop)) (i : Nat) (v : Value) (w : World) : Prop := match F[i]? with
  | some Φ => Φ v w
  | none => True

def knows (u : Nat → Value) (w : World) (F : List (Value → World → Prop)) : List Edge → Prop
  | [] => True
  | e :: es => (if Region.binds .any e = true then factAt F e.on (u e.on) w else True) ∧ knows u w F es

def allFacts (u : Nat → Value) (w : World) : List (Value → World → Prop) → Nat → Prop
  | [], _ => True
  | Φ :: F, k => Φ (u k) w ∧ allFacts u w F (k + 1)

/-- The obligation of one operation. -/
def Ob (P : Program) (Le : World → World → Prop) (w0 : World) (a : Act) (ds : List (Option Tmp)) (F : List (Value → World → Prop)) (o : Oper) (Φ : Value → World → Prop) : Prop :=
  (∀ v w1 w2, Le w1 w2 → Φ v w1 → Φ v w2) ∧
  ∀ u w', Le w0 w' → knows u w' F o.after.toList → if wants u o.guard = true then gives P o (evalOf u ds a) w' (fun v w'' => Le w' w'' ∧ Φ v w'') else Φ undef w'

/-- The operations one by one; F: what the earlier ones leave. -/
def Each (P : Program) (Le : World → World → Prop) (w0 : World) (a : Act) (ds : List (Option Tmp)) (Q : (Nat → Value) → World → Prop) : List Oper → List (Value → World → Prop) → Prop
  | [], F => ∀ u w', Le w0 w' → allFacts u w' F 0 → Q u w'
  | o :: rest, F => ∃ Φ : Value → World → Prop, Ob P Le w0 a ds F o Φ ∧ Each P Le w0 a ds Q rest (F ++ [Φ])

theorem allFacts_of {u : Nat → Value} {w : World} : ∀ (F : List (Value → World → Prop)) (k : Nat), (∀ (i : Nat) (Φ : Value → World → Prop), F[i]? = some Φ → Φ (u (k + i)) w) → allFacts u w F k
  | [], _, _ => trivial
  | Φ :: F, k, h => ⟨h 0 Φ rfl, allFacts_of F (k + 1) (fun i Ψ hi => by have := h (i + 1) Ψ (by simpa using hi); rwa [show k + 1 + i = k + (i + 1) by omega])⟩

theorem knows_of {u : Nat → Value} {w : World} {F : List (Value → World → Prop)} : ∀ (es : List Edge), (∀ e ∈ es, Region.binds .any e = true → factAt F e.on (u e.on) w) → knows u w F es
  | [], _ => trivial
  | e :: es, h => ⟨by split; exact h e (by simp) (by assumption); trivial, knows_of es (fun e he => h e (by simp [he]))⟩

theorem Each.out {Le : World → World → Prop} {w0 : World} {a : Act} {ds : List (Option Tmp)} {Q : (Nat → Value) → World → Prop} :
    ∀ (l : List Oper) (F : List (Value → World → Prop)), Each P Le w0 a ds Q l F →
      ∃ G : List (Value → World → Prop), G.length = l.length ∧ (∀ k o, l[k]? = some o → ∃ Φ, G[k]? = some Φ ∧ Ob P Le w0 a ds (F ++ G.take k) o Φ) ∧ (∀ u w', Le w0 w' → allFacts u w' (F ++ G) 0 → Q u w')
  | [], F, h => ⟨[], rfl, fun k o hk => by simp at hk, by simpa [Each] using h⟩
  | o :: l, F, ⟨Φ, h1, h2⟩ => by
    obtain ⟨G, g1, g2, g3⟩ := Each.out l _ h2
    refine ⟨Φ :: G, by simp [g1], fun k o' hk => ?_, fun u w' hw hf => g3 u w' hw (by simpa using hf)⟩
    cases k with
    | zero =>
      obtain rfl : o = o' := by simpa using hk
      exact ⟨Φ, rfl, by simpa using h1⟩
    | succ k =>
      obtain ⟨Ψ, hΨ, hO⟩ := g2 k o' (by simpa using hk)
      exact ⟨Ψ, by simpa using hΨ, by simpa using hO⟩

def leftN (listed : Array Bool) : Nat := (listed.toList.filter (!·)).length

theorem left_set : ∀ (l : List Bool) (i : Nat), l[i]? = some false → ((l.set i true).filter (!·)).length + 1 = (l.filter (!·)).length
  | [], _, h => by simp at h
  | b :: l, 0, h => by
    obtain rfl : b = false := by simpa using h
    simp
  | b :: l, i + 1, h => by
    have := left_set l i (by simpa using h)
    cases b <;> simp at * <;> omega

theorem yielded_fill (ops : List Oper) (ds : List (Option Tmp)) (hds : ops.map (·.dst) = ds) (u : Nat → Value) (a : Act) (hB : dstB a.tmps.size ds = true) (g : Nat) (og : Oper) (hg : ops[g]? = some og) (d : Tmp) (hd : og.dst = some d) :
    yielded ops.toArray (fillD u ds 0 a).tmps g = asBool (u g) := by
  have hat : ds[g]? = some (some d) := by rw [← hds, List.getElem?_map, hg]; simp [hd]
  have hmem : ∀ (l : List (Option Tmp)) (j : Nat), dstB a.tmps.size l = true → l[j]? = some (some d) → d < a.tmps.size := by
    intro l
    induction l with
    | nil => intro j _ h; simp at h
    | cons x l ih =>
      intro j hb hj
      cases j with
      | zero =>
        obtain rfl : x = some d := by simpa using hj
        simp only [dstB, Bool.and_eq_true, decide_eq_true_eq] at hb
        exact hb.1.1
      | succ j =>
        refine ih j ?_ (by simpa using hj)
        cases x <;> simp only [dstB, Bool.and_eq_true] at hb <;> first | exact hb | exact hb.2
  have hlt : d < (fillD u ds 0 a).tmps.size := by rw [fillD_size]; exact hmem ds g hB hat
  have hv : (fillD u ds 0 a).tmps.getD d undef = u g := by
    rw [fillD_look u d ds 0 a hB, look_at _ u d ds 0 g _ hB hat, Nat.zero_add]
  have hv2 : (fillD u ds 0 a).tmps[d]? = some (u g) := by
    rw [← hv]; simp [hlt]
  unfold yielded
  have : (ops.toArray[g]?).bind (·.dst) = some d := by simp [hg, hd]
  rw [this]
  simp only [Option.bind_some, hv2]
  cases u g <;> rfl

theorem wanted_fill (ops : List Oper) (ds : List (Option Tmp)) (hds : ops.map (·.dst) = ds) (u : Nat → Value) (a : Act) (hB : dstB a.tmps.size ds = true) (hok : okB ops = true) (i : Nat) (o : Oper) (hi : ops[i]? = some o) :
    Region.wanted o (yielded ops.toArray (fillD u ds 0 a).tmps) = wants u o.guard := by
  unfold Region.wanted wants
  have hlt : i < ops.length := by
    rcases Nat.lt_or_ge i ops.length with h | h
    · exact h
    · rw [List.getElem?_eq_none h] at hi; cases hi
  have h1 := (List.all_eq_true.1 hok) i (List.mem_range.2 hlt)
  simp only [hi, Bool.and_eq_true] at h1
  have h2 := h1.2
  cases hgd : o.guard with
  | none => rfl
  | some gb =>
    obtain ⟨g, b⟩ := gb
    simp only [hgd] at h2
    cases hog : ops[g]? with
    | none => simp [hog] at h2
    | some og =>
      simp only [hog] at h2
      obtain ⟨d, hd⟩ := Option.isSome_iff_exists.1 h2
      simp only [yielded_fill ops ds hds u a hB g og hog d hd]

theorem all_listed {ops : List Oper} (hok : okB ops = true) {listed : Array Bool} (hs : listed.size = ops.length) (hr : Region.ready .any ops.toArray listed = []) : ∀ n i, i < n → i < ops.length → listed.getD i true = true := by
  intro n
  induction n with
  | zero => intro i hi; omega
  | succ n ih =>
    intro i hi hlt
    by_cases hn : i < n
    · exact ih i hn hlt
    · cases hli : listed.getD i true with
      | true => rfl
      | false =>
        exfalso
        obtain ⟨o, ho⟩ : ∃ o, ops[i]? = some o := ⟨_, List.getElem?_eq_getElem hlt⟩
        have h1 := (List.all_eq_true.1 hok) i (List.mem_range.2 hlt)
        simp only [ho, Bool.and_eq_true] at h1
        have hmem : i ∈ Region.ready .any ops.toArray listed := by
          refine mem_ready.2 ⟨hli, o, by simpa using ho, fun e he hb => ?_⟩
          have h3 := (List.all_eq_true.1 h1.1) e (by simpa using he)
          simp only [hb, Bool.not_true, Bool.false_or, decide_eq_true_eq] at h3
          have h4 := ih e.on (by omega) (by omega)
          have hsz : e.on < listed.size := by omega
          simpa [hsz] using h4
        rw [hr] at hmem
        cases hmem

theorem each_any {Le : World → World → Prop} (hrefl : ∀ w, Le w w) (htrans : ∀ x y z, Le x y → Le y z → Le x z) {w0 : World} {a : Act} {ops : List Oper} {ds : List (Option Tmp)} {Q : Exit → Act → World → Prop}
    (hds : ops.map (·.dst) = ds) (hB : dstB a.tmps.size ds = true) (hok : okB ops = true) (G : List (Value → World → Prop)) (hG : G.length = ops.length)
    (hO : ∀ k o, ops[k]? = some o → ∃ Φ, G[k]? = some Φ ∧ Ob P Le w0 a ds (G.take k) o Φ) (hQ : ∀ u w', Le w0 w' → allFacts u w' G 0 → Q .normal (fillD u ds 0 a) w') :
    ∀ (fuel : Nat) (listed : Array Bool) (u : Nat → Value) (w' : World), Le w0 w' → listed.size = ops.length → leftN listed ≤ fuel →
      (∀ i Φ, listed.getD i false = true → G[i]? = some Φ → Φ (u i) w') → wpAny P .any ops.toArray Q fuel listed (fillD u ds 0 a) w' := by
  have hend : ∀ (listed : Array Bool) (u : Nat → Value) (w' : World), Le w0 w' → listed.size = ops.length → (∀ i Φ, listed.getD i false = true → G[i]? = some Φ → Φ (u i) w') →
      Region.ready .any ops.toArray listed = [] → Q .normal (fillD u ds 0 a) w' := by
    intro listed u w' hw hs hf hr
    refine hQ u w' hw (allFacts_of _ _ fun i Φ hi => ?_)
    rw [Nat.zero_add]
    have hlt : i < ops.length := by
      rcases Nat.lt_or_ge i ops.length with h | h
      · exact h
      · rw [List.getElem?_eq_none (by omega)] at hi; cases hi
    have hl := all_listed hok hs hr (i + 1) i (by omega) hlt
    refine hf i Φ ?_ hi
    have hsz : i < listed.size := by omega
    simpa [hsz] using hl
  intro fuel
  induction fuel with
  | zero =>
    intro listed u w' hw hs hl hf
    have hr : Region.ready .any ops.toArray listed = [] := by
      rw [List.eq_nil_iff_forall_not_mem]
      intro i hi
      have h0 := (mem_ready.1 hi).1
      have hlt : i < listed.size := by
        rcases Nat.lt_or_ge i listed.size with h | h
        · exact h
        · simp [Array.getElem?_eq_none h] at h0
      have hz : listed.toList.filter (!·) = [] := List.length_eq_zero_iff.1 (by unfold leftN at hl; omega)
      have hm : listed[i] ∈ listed.toList := by simp
      have := List.filter_eq_nil_iff.1 hz _ hm
      simp [hlt] at h0
      simp [h0] at this
    exact ⟨hr, hend listed u w' hw hs hf hr⟩
  | succ fuel ih =>
    intro listed u w' hw hs hl hf
    refine ⟨fun hr => hend listed u w' hw hs hf hr, fun i hi => ?_⟩
    obtain ⟨h0, o, ho, hall⟩ := mem_ready.1 hi
    have ho' : ops[i]? = some o := by simpa using ho
    have hlt : i < ops.length := by
      rcases Nat.lt_or_ge i ops.length with h | h
      · exact h
      · rw [List.getElem?_eq_none h] at ho'; cases ho'
    obtain ⟨Φ, hΦ, hstab, hob⟩ := hO i o ho'
    have hli : listed.toList[i]? = some false := by
      have hsz : i < listed.size := by omega
      simp [hsz] at h0
      simp [hsz, h0]
    have hleft : leftN (listed.setIfInBounds i true) ≤ fuel := by
      have := left_set listed.toList i hli
      unfold leftN at hl ⊢
      rw [Array.toList_setIfInBounds]
      omega
    have hkn : knows u w' (G.take i) o.after.toList := knows_of _ fun e he hb => by
      unfold factAt
      split
      · rename_i Ψ hΨ
        have h1 := hall e (by simpa using he) hb
        refine hf e.on Ψ h1 ?_
        rw [List.getElem?_take] at hΨ
        split at hΨ
        · exact hΨ
        · cases hΨ
      · trivial
    have hstep := hob u w' hw hkn
    have hnext : ∀ v w'', Le w' w'' → Φ v w'' → wpAny P .any ops.toArray Q fuel (listed.setIfInBounds i true) ((fillD u ds 0 a).put o.dst v) w'' := by
      intro v w'' hle hv
      have hat : ds[i]? = some o.dst := by rw [← hds, List.getElem?_map, ho']; rfl
      rw [fillD_upd _ u v ds 0 i a o.dst hB hat, Nat.zero_add]
      refine ih _ _ _ (htrans _ _ _ hw hle) (by simpa using hs) hleft fun j Ψ hj hΨ => ?_
      by_cases hji : j = i
      · subst hji
        obtain rfl : Φ = Ψ := by rw [hΦ] at hΨ; injection hΨ
        simpa [upd] using hv
      · rw [show upd u i v j = u j by simp [upd, hji]]
        rw [getD_set_ne false (Ne.symm hji)] at hj
        obtain ⟨oj, hoj⟩ : ∃ oj, ops[j]? = some oj := by
          rcases Nat.lt_or_ge j ops.length with h | h
          · exact ⟨_, List.getElem?_eq_getElem h⟩
          · rw [List.getElem?_eq_none (by omega)] at hΨ; cases hΨ
        obtain ⟨Ψ', hΨ', hst, _⟩ := hO j oj hoj
        obtain rfl : Ψ' = Ψ := by rw [hΨ'] at hΨ; injection hΨ
        exact hst _ _ _ hle (hf j _ hj hΨ)
    unfold wpOp
    simp only [ho]
    rw [wanted_fill ops ds hds u a hB hok i o ho']
    by_cases hw2 : wants u o.guard = true
    · simp only [hw2, if_true] at hstep ⊢
      refine .inl (wp_of_gives (R := fun v w'' => Le w' w'' ∧ Φ v w'') (fun v w'' h => hnext v w'' h.1 h.2) ?_)
      rw [fillD_eval u ds a hB]
      exact hstep
    · simp only [hw2] at hstep ⊢
      exact hnext undef w' (hrefl _) hstep

/-- **A region that draws its order, each operation shown once**: out of what the operations that it waits for leave (in whatever world has come about), it gives a value and a world of which its own fact holds; facts hold on in all later worlds. -/
theorem wp_region_each (Le : World → World → Prop) (hrefl : ∀ w, Le w w) (htrans : ∀ x y z, Le x y → Le y z → Le x z) {id : Nat} {a : Act} {w : World} {l : List Oper} (ds : List (Option Tmp)) {Q : Exit → Act → World → Prop}
    (hm : P.follows .mixedOrders = true) (hds : l.map (·.dst) = ds) (hB : dstB a.tmps.size ds = true) (hok : okB l = true)
    (h : Each P Le w.drew a ds (fun u w' => Q .normal (fillD u ds 0 a) w') l []) : (Code.region id l.toArray true).wp P Q a w := by
  obtain ⟨G, h1, h2, h3⟩ := Each.out l [] h
  refine wp_region_any hm ?_
  have hown := fillD_own a ds 0 (fun i => match ds[i]? with | some (some d) => a.tmps.getD d undef | _ => undef) (fun j d hj => by rw [Nat.zero_add]; simp only [hj])
  rw [← hown]
  refine each_any (Q := Q) hrefl htrans hds hB hok G h1 (by simpa using h2) (by simpa using h3) _ _ _ _ (hrefl _) (by simp) (by simp [leftN]) (fun i Φ hi _ => ?_)
  exfalso
  rcases Nat.lt_or_ge i l.length with h | h
  · simp [h] at hi
  · have hz : (Array.replicate l.toArray.size false)[i]? = none := Array.getElem?_eq_none (by simpa using h)
    simp only [Array.getD_eq_getD_getElem?, hz] at hi
    cases hi

/-- What was there has stayed; how the world goes on. -/
def BLe (x y : World) : Prop := Below x.heap.size x y
theorem BLe.refl' (w : World) : BLe w w := Below.refl _ _
theorem BLe.trans' (x y z : World) (h : BLe x y) (k : BLe y z) : BLe x z := h.trans (k.mono h.size)

theorem wp_region_below {id : Nat} {a : Act} {w : World} {l : List Oper} (ds : List (Option Tmp)) {Q : Exit → Act → World → Prop}
    (hm : P.follows .mixedOrders = true) (hds : l.map (·.dst) = ds) (hB : dstB a.tmps.size ds = true) (hok : okB l = true)
    (h : Each P BLe w.drew a ds (fun u w' => Q .normal (fillD u ds 0 a) w') l []) : (Code.region id l.toArray true).wp P Q a w :=
  wp_region_each BLe BLe.refl' BLe.trans' ds hm hds hB hok h

/-- One value, in every world. -/
theorem Each.fixed {w0 : World} {a : Act} {ds : List (Option Tmp)} {Q : (Nat → Value) → World → Prop} {o : Oper} {rest : List Oper} {F : List (Value → World → Prop)} (v : Value)
    (h : ∀ u w', Below w0.heap.size w0 w' → knows u w' F o.after.toList → wants u o.guard = true ∧ gives P o (evalOf u ds a) w' (fun x w'' => w'' = w' ∧ x = v))
    (hrest : Each P BLe w0 a ds Q rest (F ++ [fun x _ => x = v])) : Each P BLe w0 a ds Q (o :: rest) F := by
  refine ⟨_, ⟨fun _ _ _ _ h => h, fun u w' hw hk => ?_⟩, hrest⟩
  obtain ⟨h1, h2⟩ := h u w' hw hk
  simp only [h1, if_true]
  unfold gives at *
  generalize (execOp (evalOf u ds a) o).run P w' = r at *
  cases r with
  | ok n w' =>
    cases n <;> simp only [givesUpon] at h2 ⊢
    · obtain ⟨rfl, rfl⟩ := h2; exact ⟨BLe.refl' _, rfl⟩
    · obtain ⟨rfl, rfl⟩ := h2; exact ⟨BLe.refl' _, rfl⟩
    · exact h2.mono fun e w'' ⟨x, he, hw, hx⟩ => ⟨x, he, by subst hw; exact BLe.refl' _, hx⟩
  | halt x w' => simp only [givesUpon] at h2

/-- It is not wanted. -/
theorem Each.skipped {w0 : World} {a : Act} {ds : List (Option Tmp)} {Q : (Nat → Value) → World → Prop} {o : Oper} {rest : List Oper} {F : List (Value → World → Prop)}
    (h : ∀ u w', Below w0.heap.size w0 w' → knows u w' F o.after.toList → wants u o.guard = false)
    (hrest : Each P BLe w0 a ds Q rest (F ++ [fun x _ => x = undef])) : Each P BLe w0 a ds Q (o :: rest) F := by
  refine ⟨_, ⟨fun _ _ _ _ h => h, fun u w' hw hk => ?_⟩, hrest⟩
  rw [h u w' hw hk]
  simp

/-- A call or a making: one fact of the value in the world behind, that holds on. -/
theorem Each.made {w0 : World} {a : Act} {ds : List (Option Tmp)} {Q : (Nat → Value) → World → Prop} {o : Oper} {rest : List Oper} {F : List (Value → World → Prop)} (Φ : Value → World → Prop)
    (hst : ∀ v w1 w2, Below w1.heap.size w1 w2 → Φ v w1 → Φ v w2)
    (h : ∀ u w', Below w0.heap.size w0 w' → knows u w' F o.after.toList → wants u o.guard = true ∧ gives P o (evalOf u ds a) w' (fun x w'' => Below w'.heap.size w' w'' ∧ Φ x w''))
    (hrest : Each P BLe w0 a ds Q rest (F ++ [Φ])) : Each P BLe w0 a ds Q (o :: rest) F := by
  refine ⟨Φ, ⟨hst, fun u w' hw hk => ?_⟩, hrest⟩
  obtain ⟨h1, h2⟩ := h u w' hw hk
  simp only [h1, if_true]
  exact h2
end
end Go.Proofs.YthehmnpbepmnpaaGreatDoorR
/- A region that draws its order, each operation shown once, where an operation may read what a later one assigns (a rule of this session's). -/
namespace Go.Proofs.YthehmnpbepmnpaaGreatDoorR
open Go Go.RowKit

section
variable {P : Program}

/-- Does operation j wait for operation i? -/
def waitsOn (ops : List Oper) (j i : Nat) : Bool := match ops[j]? with
  | some oj => oj.after.toList.any (fun e => Region.binds .any e && e.on == i)
  | none => false
/-- What waits for i has not been carried out: its temporary is as it was. -/
def freshAt (ops : List Oper) (ds : List (Option Tmp)) (a : Act) (u : Nat → Value) (i : Nat) : Prop := ∀ j d, waitsOn ops j i = true → ds[j]? = some (some d) → u j = a.tmps.getD d undef

/-- The obligation of one operation. -/
def ObW (P : Program) (Le : World → World → Prop) (w0 : World) (a : Act) (ds : List (Option Tmp)) (ops : List Oper) (F : List (Value → World → Prop)) (i : Nat) (o : Oper) (Φ : Value → World → Prop) : Prop :=
  (∀ v w1 w2, Le w1 w2 → Φ v w1 → Φ v w2) ∧
  ∀ u w', Le w0 w' → knows u w' F o.after.toList → freshAt ops ds a u i → if wants u o.guard = true then gives P o (evalOf u ds a) w' (fun v w'' => Le w' w'' ∧ Φ v w'') else Φ undef w'

/-- The operations one by one; F: what the earlier ones leave. -/
def EachW (P : Program) (Le : World → World → Prop) (w0 : World) (a : Act) (ds : List (Option Tmp)) (Q : (Nat → Value) → World → Prop) (ops : List Oper) : List Oper → List (Value → World → Prop) → Prop
  | [], F => ∀ u w', Le w0 w' → allFacts u w' F 0 → Q u w'
  | o :: rest, F => ∃ Φ : Value → World → Prop, ObW P Le w0 a ds ops F F.length o Φ ∧ EachW P Le w0 a ds Q ops rest (F ++ [Φ])

theorem EachW.out {Le : World → World → Prop} {w0 : World} {a : Act} {ds : List (Option Tmp)} {Q : (Nat → Value) → World → Prop} (ops : List Oper) :
    ∀ (l : List Oper) (F : List (Value → World → Prop)), EachW P Le w0 a ds Q ops l F →
      ∃ G : List (Value → World → Prop), G.length = l.length ∧ (∀ k o, l[k]? = some o → ∃ Φ, G[k]? = some Φ ∧ ObW P Le w0 a ds ops (F ++ G.take k) (F.length + k) o Φ) ∧ (∀ u w', Le w0 w' → allFacts u w' (F ++ G) 0 → Q u w')
  | [], F, h => ⟨[], rfl, fun k o hk => by simp at hk, by simpa [EachW] using h⟩
  | o :: l, F, ⟨Φ, h1, h2⟩ => by
    obtain ⟨G, g1, g2, g3⟩ := EachW.out ops l _ h2
    refine ⟨Φ :: G, by simp [g1], fun k o' hk => ?_, fun u w' hw hf => g3 u w' hw (by simpa using hf)⟩
    cases k with
    | zero =>
      obtain rfl : o = o' := by simpa using hk
      exact ⟨Φ, rfl, by simpa using h1⟩
    | succ k =>
      obtain ⟨Ψ, hΨ, hO⟩ := g2 k o' (by simpa using hk)
      refine ⟨Ψ, by simpa using hΨ, ?_⟩
      have e : (F ++ [Φ]).length + k = F.length + (k + 1) := by simp; omega
      rw [e] at hO
      simpa using hO

theorem each_anyW {Le : World → World → Prop} (hrefl : ∀ w, Le w w) (htrans : ∀ x y z, Le x y → Le y z → Le x z) {w0 : World} {a : Act} {ops : List Oper} {ds : List (Option Tmp)} {Q : Exit → Act → World → Prop}
    (hds : ops.map (·.dst) = ds) (hB : dstB a.tmps.size ds = true) (hok : okB ops = true) (G : List (Value → World → Prop)) (hG : G.length = ops.length)
    (hO : ∀ k o, ops[k]? = some o → ∃ Φ, G[k]? = some Φ ∧ ObW P Le w0 a ds ops (G.take k) k o Φ) (hQ : ∀ u w', Le w0 w' → allFacts u w' G 0 → Q .normal (fillD u ds 0 a) w') :
    ∀ (fuel : Nat) (listed : Array Bool) (u : Nat → Value) (w' : World), Le w0 w' → listed.size = ops.length → leftN listed ≤ fuel →
      (∀ i Φ, listed.getD i false = true → G[i]? = some Φ → Φ (u i) w') → (∀ j d, listed.getD j false = false → ds[j]? = some (some d) → u j = a.tmps.getD d undef) → (∀ j, listed.getD j false = true → ∀ i, waitsOn ops j i = true → listed.getD i false = true) → wpAny P .any ops.toArray Q fuel listed (fillD u ds 0 a) w' := by
  have hend : ∀ (listed : Array Bool) (u : Nat → Value) (w' : World), Le w0 w' → listed.size = ops.length → (∀ i Φ, listed.getD i false = true → G[i]? = some Φ → Φ (u i) w') →
      Region.ready .any ops.toArray listed = [] → Q .normal (fillD u ds 0 a) w' := by
    intro listed u w' hw hs hf hr
    refine hQ u w' hw (allFacts_of _ _ fun i Φ hi => ?_)
    rw [Nat.zero_add]
    have hlt : i < ops.length := by
      rcases Nat.lt_or_ge i ops.length with h | h
      · exact h
      · rw [List.getElem?_eq_none (by omega)] at hi; cases hi
    have hl := all_listed hok hs hr (i + 1) i (by omega) hlt
    refine hf i Φ ?_ hi
    have hsz : i < listed.size := by omega
    simpa [hsz] using hl
  intro fuel
  induction fuel with
  | zero =>
    intro listed u w' hw hs hl hf hown hdep
    have hr : Region.ready .any ops.toArray listed = [] := by
      rw [List.eq_nil_iff_forall_not_mem]
      intro i hi
      have h0 := (mem_ready.1 hi).1
      have hlt : i < listed.size := by
        rcases Nat.lt_or_ge i listed.size with h | h
        · exact h
        · simp [Array.getElem?_eq_none h] at h0
      have hz : listed.toList.filter (!·) = [] := List.length_eq_zero_iff.1 (by unfold leftN at hl; omega)
      have hm : listed[i] ∈ listed.toList := by simp
      have := List.filter_eq_nil_iff.1 hz _ hm
      simp [hlt] at h0
      simp [h0] at this
    exact ⟨hr, hend listed u w' hw hs hf hr⟩
  | succ fuel ih =>
    intro listed u w' hw hs hl hf hown hdep
    refine ⟨fun hr => hend listed u w' hw hs hf hr, fun i hi => ?_⟩
    obtain ⟨h0, o, ho, hall⟩ := mem_ready.1 hi
    have ho' : ops[i]? = some o := by simpa using ho
    have hlt : i < ops.length := by
      rcases Nat.lt_or_ge i ops.length with h | h
      · exact h
      · rw [List.getElem?_eq_none h] at ho'; cases ho'
    obtain ⟨Φ, hΦ, hstab, hob⟩ := hO i o ho'
    have hli : listed.toList[i]? = some false := by
      have hsz : i < listed.size := by omega
      simp [hsz] at h0
      simp [hsz, h0]
    have hleft : leftN (listed.setIfInBounds i true) ≤ fuel := by
      have := left_set listed.toList i hli
      unfold leftN at hl ⊢
      rw [Array.toList_setIfInBounds]
      omega
    have hkn : knows u w' (G.take i) o.after.toList := knows_of _ fun e he hb => by
      unfold factAt
      split
      · rename_i Ψ hΨ
        have h1 := hall e (by simpa using he) hb
        refine hf e.on Ψ h1 ?_
        rw [List.getElem?_take] at hΨ
        split at hΨ
        · exact hΨ
        · cases hΨ
      · trivial
    have hfr : freshAt ops ds a u i := fun j d hj hd => by
      refine hown j d ?_ hd
      cases hlj : listed.getD j false with
      | false => rfl
      | true =>
        have h1 := hdep j hlj i hj
        have hsz : i < listed.size := by omega
        simp [hsz] at h0
        simp [hsz, h0] at h1
    have hstep := hob u w' hw hkn hfr
    have hnext : ∀ v w'', Le w' w'' → Φ v w'' → wpAny P .any ops.toArray Q fuel (listed.setIfInBounds i true) ((fillD u ds 0 a).put o.dst v) w'' := by
      intro v w'' hle hv
      have hat : ds[i]? = some o.dst := by rw [← hds, List.getElem?_map, ho']; rfl
      rw [fillD_upd _ u v ds 0 i a o.dst hB hat, Nat.zero_add]
      refine ih _ _ _ (htrans _ _ _ hw hle) (by simpa using hs) hleft (fun j Ψ hj hΨ => ?_) (fun j d hj hd => ?_) (fun j hj i' hw' => ?_)
      rotate_left
      · have hji : j ≠ i := fun e => by
          subst e
          have hsz : j < listed.size := by omega
          simp [hsz] at hj
        rw [show upd u i v j = u j by simp [upd, hji]]
        refine hown j d ?_ hd
        rw [getD_set_ne false (Ne.symm hji)] at hj
        exact hj
      · by_cases hi' : i' = i
        · subst hi'
          have hsz : i' < listed.size := by omega
          simp [hsz]
        · rw [getD_set_ne false (Ne.symm hi')]
          by_cases hji : j = i
          · subst hji
            unfold waitsOn at hw'
            rw [ho'] at hw'
            obtain ⟨e, he, hb⟩ := List.any_eq_true.1 hw'
            simp only [Bool.and_eq_true, beq_iff_eq] at hb
            have h1 := hall e (by simpa using he) hb.1
            rw [hb.2] at h1
            exact h1
          · rw [getD_set_ne false (Ne.symm hji)] at hj
            exact hdep j hj i' hw'
      by_cases hji : j = i
      · subst hji
        obtain rfl : Φ = Ψ := by rw [hΦ] at hΨ; injection hΨ
        simpa [upd] using hv
      · rw [show upd u i v j = u j by simp [upd, hji]]
        rw [getD_set_ne false (Ne.symm hji)] at hj
        obtain ⟨oj, hoj⟩ : ∃ oj, ops[j]? = some oj := by
          rcases Nat.lt_or_ge j ops.length with h | h
          · exact ⟨_, List.getElem?_eq_getElem h⟩
          · rw [List.getElem?_eq_none (by omega)] at hΨ; cases hΨ
        obtain ⟨Ψ', hΨ', hst, _⟩ := hO j oj hoj
        obtain rfl : Ψ' = Ψ := by rw [hΨ'] at hΨ; injection hΨ
        exact hst _ _ _ hle (hf j _ hj hΨ)
    unfold wpOp
    simp only [ho]
    rw [wanted_fill ops ds hds u a hB hok i o ho']
    by_cases hw2 : wants u o.guard = true
    · simp only [hw2, if_true] at hstep ⊢
      refine .inl (wp_of_gives (R := fun v w'' => Le w' w'' ∧ Φ v w'') (fun v w'' h => hnext v w'' h.1 h.2) ?_)
      rw [fillD_eval u ds a hB]
      exact hstep
    · simp only [hw2] at hstep ⊢
      exact hnext undef w' (hrefl _) hstep

/-- **A region that draws its order, each operation shown once**: out of what the operations that it waits for leave (in whatever world has come about), it gives a value and a world of which its own fact holds; facts hold on in all later worlds. -/
theorem wp_region_eachW (Le : World → World → Prop) (hrefl : ∀ w, Le w w) (htrans : ∀ x y z, Le x y → Le y z → Le x z) {id : Nat} {a : Act} {w : World} {l : List Oper} (ds : List (Option Tmp)) {Q : Exit → Act → World → Prop}
    (hm : P.follows .mixedOrders = true) (hds : l.map (·.dst) = ds) (hB : dstB a.tmps.size ds = true) (hok : okB l = true)
    (h : EachW P Le w.drew a ds (fun u w' => Q .normal (fillD u ds 0 a) w') l l []) : (Code.region id l.toArray true).wp P Q a w := by
  obtain ⟨G, h1, h2, h3⟩ := EachW.out l l [] h
  refine wp_region_any hm ?_
  have hown := fillD_own a ds 0 (fun i => match ds[i]? with | some (some d) => a.tmps.getD d undef | _ => undef) (fun j d hj => by rw [Nat.zero_add]; simp only [hj])
  rw [← hown]
  have hnone : ∀ i, (Array.replicate l.toArray.size false).getD i false = true → False := fun i hi => by
    rcases Nat.lt_or_ge i l.length with h | h
    · simp [h] at hi
    · have hz : (Array.replicate l.toArray.size false)[i]? = none := Array.getElem?_eq_none (by simpa using h)
      simp only [Array.getD_eq_getD_getElem?, hz] at hi
      cases hi
  exact each_anyW (Q := Q) hrefl htrans hds hB hok G h1 (by simpa using h2) (by simpa using h3) _ _ _ _ (hrefl _) (by simp) (by simp [leftN]) (fun i Φ hi _ => (hnone i hi).elim) (fun j d _ hd => by simp only [hd]) (fun j hj => (hnone j hj).elim)

theorem wp_region_belowW {id : Nat} {a : Act} {w : World} {l : List Oper} (ds : List (Option Tmp)) {Q : Exit → Act → World → Prop}
    (hm : P.follows .mixedOrders = true) (hds : l.map (·.dst) = ds) (hB : dstB a.tmps.size ds = true) (hok : okB l = true)
    (h : EachW P BLe w.drew a ds (fun u w' => Q .normal (fillD u ds 0 a) w') l l []) : (Code.region id l.toArray true).wp P Q a w :=
  wp_region_eachW BLe BLe.refl' BLe.trans' ds hm hds hB hok h

/-- One value, in every world. -/
theorem EachW.fixed {w0 : World} {a : Act} {ds : List (Option Tmp)} {Q : (Nat → Value) → World → Prop} {ops : List Oper} {o : Oper} {rest : List Oper} {F : List (Value → World → Prop)} (v : Value)
    (h : ∀ u w', Below w0.heap.size w0 w' → knows u w' F o.after.toList → freshAt ops ds a u F.length → wants u o.guard = true ∧ gives P o (evalOf u ds a) w' (fun x w'' => w'' = w' ∧ x = v))
    (hrest : EachW P BLe w0 a ds Q ops rest (F ++ [fun x _ => x = v])) : EachW P BLe w0 a ds Q ops (o :: rest) F := by
  refine ⟨_, ⟨fun _ _ _ _ h => h, fun u w' hw hk hf => ?_⟩, hrest⟩
  obtain ⟨h1, h2⟩ := h u w' hw hk hf
  simp only [h1, if_true]
  unfold gives at *
  generalize (execOp (evalOf u ds a) o).run P w' = r at *
  cases r with
  | ok n w' =>
    cases n <;> simp only [givesUpon] at h2 ⊢
    · obtain ⟨rfl, rfl⟩ := h2; exact ⟨BLe.refl' _, rfl⟩
    · obtain ⟨rfl, rfl⟩ := h2; exact ⟨BLe.refl' _, rfl⟩
    · exact h2.mono fun e w'' ⟨x, he, hw, hx⟩ => ⟨x, he, by subst hw; exact BLe.refl' _, hx⟩
  | halt x w' => simp only [givesUpon] at h2

/-- It is not wanted. -/
theorem EachW.skipped {w0 : World} {a : Act} {ds : List (Option Tmp)} {Q : (Nat → Value) → World → Prop} {ops : List Oper} {o : Oper} {rest : List Oper} {F : List (Value → World → Prop)}
    (h : ∀ u w', Below w0.heap.size w0 w' → knows u w' F o.after.toList → wants u o.guard = false)
    (hrest : EachW P BLe w0 a ds Q ops rest (F ++ [fun x _ => x = undef])) : EachW P BLe w0 a ds Q ops (o :: rest) F := by
  refine ⟨_, ⟨fun _ _ _ _ h => h, fun u w' hw hk _ => ?_⟩, hrest⟩
  rw [h u w' hw hk]
  simp

/-- A call or a making: one fact of the value in the world behind, that holds on. -/
theorem EachW.made {w0 : World} {a : Act} {ds : List (Option Tmp)} {Q : (Nat → Value) → World → Prop} {ops : List Oper} {o : Oper} {rest : List Oper} {F : List (Value → World → Prop)} (Φ : Value → World → Prop)
    (hst : ∀ v w1 w2, Below w1.heap.size w1 w2 → Φ v w1 → Φ v w2)
    (h : ∀ u w', Below w0.heap.size w0 w' → knows u w' F o.after.toList → freshAt ops ds a u F.length → wants u o.guard = true ∧ gives P o (evalOf u ds a) w' (fun x w'' => Below w'.heap.size w' w'' ∧ Φ x w''))
    (hrest : EachW P BLe w0 a ds Q ops rest (F ++ [Φ])) : EachW P BLe w0 a ds Q ops (o :: rest) F := by
  refine ⟨Φ, ⟨hst, fun u w' hw hk hf => ?_⟩, hrest⟩
  obtain ⟨h1, h2⟩ := h u w' hw hk hf
  simp only [h1, if_true]
  exact h2
end
end Go.Proofs.YthehmnpbepmnpaaGreatDoorR
/- FnIiHas: the steps of its drawn region. -/
namespace Go.Proofs.YthehmnpbepmnpaaGreatDoorR
open Go.RowKit

attribute [local go_sem] gives givesUpon evalOf look wants asBool

theorem hasC_snoc {es : List EntD} {k : Nat} {x : EntD} (h : es[k]? = some x) (c : CidD) : hasC (es.take (k + 1)) c ↔ hasC (es.take k) c ∨ x.cid = c := by
  rw [show es.take (k + 1) = es.take k ++ [x] by rw [List.take_add_one, h]; rfl]
  unfold hasC
  constructor
  · rintro ⟨e, he, h1⟩
    rcases List.mem_append.1 he with h2 | h2
    · exact .inl ⟨e, h2, h1⟩
    · obtain rfl : e = x := by simpa using h2
      exact .inr h1
  · rintro (⟨e, he, h1⟩ | h1)
    · exact ⟨e, by simp [he], h1⟩
    · exact ⟨x, by simp, h1⟩
theorem hasM_snoc {es : List EntD} {k : Nat} {x : EntD} (h : es[k]? = some x) (c : CidD) : hasM (es.take (k + 1)) c ↔ hasM (es.take k) c ∨ (x.cid.code = c.code ∧ x.cid.dig = c.dig) := by
  rw [show es.take (k + 1) = es.take k ++ [x] by rw [List.take_add_one, h]; rfl]
  unfold hasM
  constructor
  · rintro ⟨e, he, h1⟩
    rcases List.mem_append.1 he with h2 | h2
    · exact .inl ⟨e, h2, h1⟩
    · obtain rfl : e = x := by simpa using h2
      exact .inr h1
  · rintro (⟨e, he, h1⟩ | h1)
    · exact ⟨e, by simp [he], h1⟩
    · exact ⟨x, by simp, h1⟩
theorem row4 {w : World} {g : Nat} {a b c d : Value} {t : TypeId} (h : w.heap[g]? = some (.cells #[a, b, c, d] t (0, 0))) : w.cell? ⟨g, 0, none⟩ = some a ∧ w.cell? ⟨g, 1, none⟩ = some b ∧ w.cell? ⟨g, 2, none⟩ = some c ∧ w.cell? ⟨g, 3, none⟩ = some d :=
  ⟨cell_of_row' (cur := [_, _, _, _]) h 0, cell_of_row' (cur := [_, _, _, _]) h 1, cell_of_row' (cur := [_, _, _, _]) h 2, cell_of_row' (cur := [_, _, _, _]) h 3⟩
theorem own_empty {w : World} {g B : Nat} (h : w.heap[g]? = some (.cells #[] 29 (0, 0))) (hB : B ≤ g) : w.ownsRow B 29 5 (.slice (some ⟨g, 0, none⟩) 0 0) 0 [] :=
  ⟨rfl, .inr ⟨g, 0, #[], rfl, hB, h, Nat.le_refl _, by unfold maxLen; omega, rfl, rfl⟩⟩
abbrev cidB (c : CidD) : Obj := .cells #[.int .u64 c.ver, .int .u64 c.codec, .int .u64 c.code, .string ⟨c.dig.toArray⟩] 25
abbrev entB (x : EntD) : Obj := .cells #[.int .u64 x.cid.ver, .int .u64 x.cid.codec, .int .u64 x.cid.code, .string ⟨x.cid.dig.toArray⟩, .int .u64 x.off] 29


theorem own_alloc {w : World} {base n : Nat} {t : TypeId} {v : Value} {xs : List Value} (h : w.ownsRow base t 5 v n xs) (o : Obj) : (w.alloc o).ownsRow base t 5 v n xs := by
  obtain ⟨hl, h⟩ := h
  rcases h with h | ⟨g, cap, cur, e, hbg, hg, h⟩
  · exact ⟨hl, .inl h⟩
  · exact ⟨hl, .inr ⟨g, cap, cur, e, hbg, (Below.heap_alloc _ _ _ (block_of_row hg)).trans hg, h⟩⟩
theorem heap_alloc_old' {w : World} {k : Nat} {o x : Obj} (h : w.heap[k]? = some x) : (w.alloc o).heap[k]? = some x := (Below.heap_alloc _ _ _ (block_of_row h)).trans h
theorem bel_alloc {a w : World} (h : Below a.heap.size a w) (o : Obj) : Below a.heap.size a (w.alloc o) := h.alloc h.size o

theorem step59 {ops : Array Oper} {o : Oper} {a : Act} {w : World} {K : Act → World → Prop} {Q : Exit → Act → World → Prop} {E : Prop} (hgd : o.guard = none)
    (ho : o.op = .call { callee := .builtin .append, args := #[.tmp 57, .tmp 58], argTypes := #[22, 22] })
    {w5 : World} (hb : Below w5.heap.size w5 w) (g : Nat) (hg : w5.heap.size ≤ g) (hs : a.eval (.tmp 57) = .slice (some ⟨g, 0, none⟩) 0 0) (he : w.heap[g]? = some (.cells #[] 29 (0, 0)))
    (A : Option Addr) (cc k : Nat) (es : List EntD) (hx : a.eval (.tmp 58) = .slice A k cc) (hv : ES w5 (.slice A k cc) es) (hk : k = es.length) (hn : k ≤ 60)
    (h : ∀ v' w', Below w5.heap.size w5 w' → w'.ownsRow w5.heap.size 29 5 v' k (cellsES es) → (∀ j ob, j ≠ g → w.heap[j]? = some ob → w'.heap[j]? = some ob) → K (a.put o.dst v') w') :
    if Region.wanted o (yielded ops a.tmps) = true then Oper.wp Tryz.prog o a w K Q else E := by
  have hv2 := hv.below hb
  subst hk
  refine step_append_es hgd (.tmp 57) (.tmp 58) ho w5.heap.size (.slice (some ⟨g, 0, none⟩) 0 0) 0 [] hs (own_empty he hg) A es.length cc (cellsES es) hx (cellsES_length es) ?_ (oneCell_ES es) (by omega) hb.size ?_
  · intro h0
    obtain ⟨A', c', e, _, hh⟩ := id hv2
    injection e with e1 e2 e3
    obtain ⟨b, o, e4, _⟩ := hh h0
    rw [e4] at e1
    subst e1
    exact ⟨_, rfl, news_of_es hv2⟩
  · intro v' w' hown hgrow _
    refine h v' w' (hb.grown hgrow hb.size fun j hj => ?_) (by simpa using hown) (fun j ob hj hh => ?_)
    · have : some g = some j := hj
      injection this with this
      omega
    · exact (hgrow.block j (block_of_row hh) (fun e => hj (by have e' : some j = some g := e; injection e'))).trans hh

theorem step63 {ops : Array Oper} {o : Oper} {a : Act} {w : World} {K : Act → World → Prop} {Q : Exit → Act → World → Prop} {E : Prop} (hgd : o.guard = none)
    (ho : o.op = .call { callee := .builtin .append, args := #[.tmp 59, .tmp 62], argTypes := #[22, 22] })
    {w5 : World} (hb : Below w5.heap.size w5 w) (v : Value) (hs : a.eval (.tmp 59) = v) (k : Nat) (es : List EntD) (hown : w.ownsRow w5.heap.size 29 5 v k (cellsES es)) (hk : k = es.length) (hn : k ≤ 60)
    (g : Nat) (hx : a.eval (.tmp 62) = .slice (some ⟨g, 0, none⟩) 1 1) (c : CidD) (hg : w.heap[g]? = some (entB ⟨c, 0⟩))
    (h : ∀ v' w', Below w5.heap.size w5 w' → ES w' v' (es ++ [⟨c, 0⟩]) → K (a.put o.dst v') w') :
    if Region.wanted o (yielded ops a.tmps) = true then Oper.wp Tryz.prog o a w K Q else E := by
  subst hk
  refine step_append_es hgd (.tmp 59) (.tmp 62) ho w5.heap.size v es.length (cellsES es) hs hown (some ⟨g, 0, none⟩) 1 1 (cellsE ⟨c, 0⟩) hx (by rfl) ?_ (oneCell_E _) (by omega) hb.size ?_
  · intro _
    exact ⟨_, rfl, World.news_of_block hg⟩
  · intro v' w' hown' hgrow _
    refine h v' w' (hb.grown hgrow hb.size fun j hj => ?_) (es_of_own (base := w5.heap.size) (by
      rw [cellsES_snoc, List.length_append]
      exact hown'))
    rcases hown.2 with ⟨e, _⟩ | ⟨g', cap, cur, e, hbg, _⟩
    · subst e; cases hj
    · subst e
      have : some g' = some j := hj
      injection this with this
      omega
theorem cells_of {w5 W : World} {g : Nat} {a b c d : Value} {t : TypeId} (h : w5.heap[g]? = some (.cells #[a, b, c, d] t (0, 0))) (hb : Below w5.heap.size w5 W) :
    (W.cell? ⟨g, 0, none⟩ = some a ∧ W.cell? ⟨g, 1, none⟩ = some b ∧ W.cell? ⟨g, 2, none⟩ = some c ∧ W.cell? ⟨g, 3, none⟩ = some d) ∧ Below w5.heap.size w5 W :=
  ⟨row4 (row_below hb (block_of_row h) h), hb⟩
theorem good_snoc {es : List EntD} {c : CidD} (h : esGood es) (hc : c.st) : (∀ e ∈ es ++ [(⟨c, 0⟩ : EntD)], e.good) ∧ (es ++ [(⟨c, 0⟩ : EntD)]).length ≤ 100 := by
  refine ⟨fun e he => ?_, ?_⟩
  · rcases List.mem_append.1 he with h' | h'
    · exact h.2 e h'
    · obtain rfl : e = ⟨c, 0⟩ := by simpa using h'
      exact hc
  · rw [List.length_append]
    have := h.1
    show es.length + 1 ≤ 100
    omega
end Go.Proofs.YthehmnpbepmnpaaGreatDoorR
/- Contracts: the functions of GetAll: an offset appended. -/
namespace Go.Proofs.YthehmnpbepmnpaaGreatDoorR
open Go.RowKit

theorem own_keep {w w' : World} {base k n : Nat} {t : TypeId} {v : Value} {xs : List Value} (h : w.ownsRow base t k v n xs) (hk : ∀ g o, base ≤ g → w.heap[g]? = some o → w'.heap[g]? = some o) : w'.ownsRow base t k v n xs := by
  obtain ⟨hl, h⟩ := h
  rcases h with h | ⟨g, cap, cur, e, hbg, hg, h⟩
  · exact ⟨hl, .inl h⟩
  · exact ⟨hl, .inr ⟨g, cap, cur, e, hbg, hk g _ hbg hg, h⟩⟩
theorem own_below {w w' : World} {base k n : Nat} {t : TypeId} {v : Value} {xs : List Value} (h : w.ownsRow base t k v n xs) (hb : Below w.heap.size w w') : w'.ownsRow base t k v n xs := own_keep h fun _ _ _ hg => row_below hb (block_of_row hg) hg
theorem keep_of_below {B : Nat} {w w' : World} (h : Below B w w') : Keep (fun k => B ≤ k) w w' := ⟨h.os, h.tape, h.output, h.size, fun k _ hs => h.block k (by omega)⟩

/-- The blocks that a gathering may turn. -/
abbrev GaS (ob ab B0 : Nat) : Nat → Prop := fun k => k = ob ∨ k = ab ∨ B0 ≤ k
abbrev ouO (t : TypeId) (v : Value) : Obj := .cells #[v] t (0, 0)

set_option maxRecDepth 100000 in
set_option maxHeartbeats 4000000 in
theorem allOne (ob mb B0 most m : Nat) (v : Value) (xs : List Value) (off : Int) (W : World) (h1 : W.heap[ob]? = some (ouO 33 v)) (h2 : W.ownsRow B0 23 1 v m xs) (h3 : W.heap[mb]? = some (.cells #[.int .i64 most] 3 (0, 0))) (hne : mb ≠ ob) (hob : ob < B0) (hmb : mb < B0) (hB : B0 ≤ W.heap.size) (hm : m ≤ 1000) :
    Calls Tryz.prog 39 #[.int .u64 off, .pointer (some ⟨ob, 0, none⟩), .pointer (some ⟨mb, 0, none⟩)] W fun e w' =>
      ∃ v', e = .returned (.bool (decide ((m : Int) + 1 < most))) ∧ w'.heap[ob]? = some (ouO 33 v') ∧ w'.ownsRow B0 23 1 v' (m + 1) (xs ++ [.int .u64 off]) ∧ Keep (fun k => k = ob ∨ B0 ≤ k) W w' := by
  obtain ⟨i0, hi, hz0, hz1, hz2⟩ := info_u64
  have c0 := cell_of_row' (cur := [_]) h1 0
  have HR := Lib.hid h1
  have HM := Lib.hid h3
  have HO := Lib.hid h2
  clear h1 h2 h3
  go_enter Tryz.func39, Tryz.ntmps39
  go_wp2_with (at_builtin; refine wpList_append_own_at _ rfl _ _ 33 rfl B0 23 i0 (.int .u64 0) 1 8 Tryz.underlying33 hi hz0 hz1 hz2 rfl (by decide) _ _ _ rfl (HO.out.alloc _) ⟨W.heap.size, 0, none⟩ 1 1 [.int .u64 off] rfl rfl ?c1 ?c2 ?c3 ?c4 ?c5 ?_)
  case c1 =>
    intro j u hj
    match j, hj with
    | 0, hj => simp at hj; subst hj; simp [Addr.add]
  case c2 => intro u hu; simp at hu; subst hu; rfl
  case c3 => unfold maxLen; omega
  case c4 => omega
  case c5 => simp; omega
  intro v' w2 hown' hgrow _ hat
  have hb2 : Below B0 W w2 := ((Below.refl B0 W).alloc hB _).grown hgrow (by simp; omega) (fun q hq => (HO.out.lt q hq).1)
  have hr2 := row_below hb2 hob HR.out
  have hm2 := row_below hb2 hmb HM.out
  have f0 := frozen_of_row' (cur := [_]) hr2 0
  have d0 := cell_of_row' (cur := [_]) hr2 0
  have hset : (w2.setCell ⟨ob, 0, none⟩ v').heap[ob]? = some (ouO 33 v') := Lib.heap_setCell_same (i := 0) hr2 v'
  have e0 := cell_of_row' (cur := [_]) hset 0
  have hmr : (w2.setCell ⟨ob, 0, none⟩ v').heap[mb]? = some (.cells #[.int .i64 most] 3 (0, 0)) := (Below.heap_setCell _ _ _ _ hne).trans hm2
  have g0 := cell_of_row' (cur := [_]) hmr 0
  have HSET := Lib.hid hset
  have HOW := Lib.hid (own_keep (w' := w2.setCell ⟨ob, 0, none⟩ v') hown' (fun g o hg h => (Below.heap_setCell _ _ _ _ (show g ≠ ob by omega)).trans h))
  have HK := Lib.hid (((keep_of_below hb2).mono (T := fun k => k = ob ∨ B0 ≤ k) (fun _ _ h => Or.inr h)).setCell (p := ob) (Or.inl rfl) 0 v')
  have HVL : Hid (∃ A c, v' = .slice A (m + 1) c) := Lib.hid (by
    rcases hown'.2 with ⟨_, h0⟩ | ⟨g, cap, cur, e, _⟩
    · omega
    · exact ⟨_, cap, e⟩)
  clear hown' hgrow hat hb2 hr2 hm2 hset hmr
  obtain ⟨A, c, rfl⟩ := HVL.out
  go_wp2
  go_ret
  exact ⟨_, rfl, HSET.out, HOW.out, HK.out⟩
end Go.Proofs.YthehmnpbepmnpaaGreatDoorR
