/- A region that draws its order: each operation is shown once, out of what it waits for (a rule of this session's). -/
import Derived.Deep.QuietTactic
import Derived.BigQuiet
import Derived.Below
import Derived.KernelRfl
namespace Go.Proofs.YthfgnhgijgjggaaDoor
open Go Go.RowKit

section
variable {P : Program}

/-- What is asked of an operation that was carried out: a value and a world of which R holds. -/
def givesUpon (P : Program) (R : Value → World → Prop) : Result Next → Prop
  | .ok (.value u) w' => R u w'
  | .ok .skip w' => R undef w'
  | .ok (.enter f args) w' => Calls P f args w' (fun e w'' => ∃ v, e = .returned v ∧ R v w'')
  | _ => False

def gives (P : Program) (o : Oper) (ev : Operand → Value) (w : World) (R : Value → World → Prop) : Prop := givesUpon P R ((execOp ev o).run P w)

theorem wp_of_gives {o : Oper} {a : Act} {w : World} {R : Value → World → Prop} {K : Act → World → Prop} {Q : Exit → Act → World → Prop}
    (h : ∀ v w', R v w' → K (a.put o.dst v) w') (hg : gives P o a.eval w R) : o.wp P a w K Q := by
  unfold gives at hg
  unfold Oper.wp
  generalize (execOp a.eval o).run P w = r at *
  cases r with
  | ok n w' =>
    cases n <;> simp only [givesUpon] at hg <;> simp only [Oper.upon]
    case value u => exact h _ _ hg
    case skip => exact h _ _ hg
    case enter f args => exact hg.mono fun e w'' ⟨v, he, hr⟩ => by subst he; exact h _ _ hr
  | halt x w' => simp only [givesUpon] at hg

/-- The frame with the values u in the temporaries of the operations. -/
def fillD (u : Nat → Value) : List (Option Tmp) → Nat → Act → Act
  | [], _, a => a
  | d :: l, k, a => fillD u l (k + 1) (a.put d (u k))

def look (u : Nat → Value) : List (Option Tmp) → Nat → Tmp → Value → Value
  | [], _, _, z => z
  | some d :: l, k, t, z => look u l (k + 1) t (bif d == t then u k else z)
  | none :: l, k, t, z => look u l (k + 1) t z

def evalOf (u : Nat → Value) (ds : List (Option Tmp)) (a : Act) : Operand → Value
  | .tmp t => look u ds 0 t (a.tmps.getD t undef)
  | .const v => v
  | .global g => .pointer (some ⟨g, 0, none⟩)
  | .func f => .func (.func f) #[] #[]

def upd (u : Nat → Value) (i : Nat) (v : Value) : Nat → Value := fun j => if j = i then v else u j

def dstB (n : Nat) : List (Option Tmp) → Bool
  | [] => true
  | none :: l => dstB n l
  | some d :: l => decide (d < n) && !(l.contains (some d)) && dstB n l

theorem put_same (a : Act) (d : Option Tmp) (x y : Value) : (a.put d x).put d y = a.put d y := by
  cases d with
  | none => rfl
  | some d => simp [Act.put]

theorem fillD_put (u : Nat → Value) (d : Tmp) (v : Value) : ∀ (l : List (Option Tmp)) (k : Nat) (a : Act), l.contains (some d) = false → (fillD u l k a).put (some d) v = fillD u l k (a.put (some d) v)
  | [], _, _, _ => rfl
  | x :: l, k, a, h => by
    simp only [List.contains_cons, Bool.or_eq_false_iff] at h
    obtain ⟨h1, h2⟩ := h
    simp only [fillD]
    rw [fillD_put u d v l (k + 1) _ h2]
    congr 1
    exact Act.put_comm a _ _ (fun d' hd' he => by subst hd'; injection he with he; subst he; simp at h1)

theorem fillD_none (v : Value) (a : Act) : a.put none v = a := rfl

theorem fillD_congr {u u' : Nat → Value} : ∀ (l : List (Option Tmp)) (k : Nat) (a : Act), (∀ j, k ≤ j → u j = u' j) → fillD u l k a = fillD u' l k a
  | [], _, _, _ => rfl
  | x :: l, k, a, h => by
    simp only [fillD]
    rw [h k (Nat.le_refl _)]
    exact fillD_congr l (k + 1) _ (fun j hj => h j (by omega))

theorem fillD_congr_none {u u' : Nat → Value} : ∀ (l : List (Option Tmp)) (k : Nat) (a : Act), (∀ j d, l[j]? = some (some d) → u (k + j) = u' (k + j)) → fillD u l k a = fillD u' l k a
  | [], _, _, _ => rfl
  | none :: l, k, a, h => by
    simp only [fillD, fillD_none]
    exact fillD_congr_none l (k + 1) _ (fun j d hj => by have := h (j + 1) d (by simpa using hj); rwa [Nat.add_assoc, Nat.add_comm 1 j])
  | some d :: l, k, a, h => by
    simp only [fillD]
    rw [show u k = u' k from h 0 d rfl]
    exact fillD_congr_none l (k + 1) _ (fun j d hj => by have := h (j + 1) d (by simpa using hj); rwa [Nat.add_assoc, Nat.add_comm 1 j])

theorem fillD_upd (n : Nat) (u : Nat → Value) (v : Value) : ∀ (l : List (Option Tmp)) (k i : Nat) (a : Act) (d : Option Tmp), dstB n l = true → l[i]? = some d → (fillD u l k a).put d v = fillD (upd u (k + i) v) l k a
  | [], _, _, _, _, _, h => by simp at h
  | x :: l, k, 0, a, d, hB, h => by
    obtain rfl : x = d := by simpa using h
    simp only [fillD]
    have e : upd u (k + 0) v k = v := by simp [upd]
    have e2 : ∀ b, fillD (upd u (k + 0) v) l (k + 1) b = fillD u l (k + 1) b := fun b => fillD_congr _ _ _ (fun j hj => by simp [upd]; omega)
    rw [e2, e]
    cases x with
    | none => rfl
    | some d =>
      simp only [dstB, Bool.and_eq_true, Bool.not_eq_true'] at hB
      rw [fillD_put u d v l (k + 1) _ hB.1.2, put_same]
  | x :: l, k, i + 1, a, d, hB, h => by
    simp only [fillD]
    have hB' : dstB n l = true := by cases x <;> simp only [dstB, Bool.and_eq_true] at hB <;> first | exact hB | exact hB.2
    have := fillD_upd n u v l (k + 1) i (a.put x (u k)) d hB' (by simpa using h)
    rw [this, show k + 1 + i = k + (i + 1) by omega]
    congr 2
    simp [upd]

theorem put_own (a : Act) (d : Tmp) : a.put (some d) (a.tmps.getD d undef) = a := by
  unfold Act.put
  cases a with
  | mk tmps defers =>
    simp only [Act.mk.injEq, and_true]
    apply Array.ext_getElem?
    intro j
    rw [Array.getElem?_setIfInBounds]
    by_cases h : d = j
    · subst h
      by_cases h2 : d < tmps.size
      · simp [h2]
      · simp [h2]
    · simp [h]

theorem fillD_own (a : Act) : ∀ (l : List (Option Tmp)) (k : Nat) (u : Nat → Value), (∀ j d, l[j]? = some (some d) → u (k + j) = a.tmps.getD d undef) → fillD u l k a = a
  | [], _, _, _ => rfl
  | x :: l, k, u, h => by
    simp only [fillD]
    have e : a.put x (u k) = a := by
      cases x with
      | none => rfl
      | some d => rw [show u k = _ from h 0 d rfl]; exact put_own a d
    rw [e]
    exact fillD_own a l (k + 1) u (fun j d hj => by have := h (j + 1) d (by simpa using hj); rw [← this]; congr 1; omega)

theorem put_getD (a : Act) (d t : Tmp) (v : Value) (h : d < a.tmps.size) : (a.put (some d) v).tmps.getD t undef = bif d == t then v else a.tmps.getD t undef := by
  by_cases e : d = t
  · subst e; simp [Act.put, h]
  · have e' : (d == t) = false := by simpa using e
    simp [Act.put, Array.getElem?_setIfInBounds_ne e, e']

theorem put_size (a : Act) (d : Option Tmp) (v : Value) : (a.put d v).tmps.size = a.tmps.size := by
  cases d <;> simp [Act.put]

theorem fillD_size (u : Nat → Value) : ∀ (l : List (Option Tmp)) (k : Nat) (a : Act), (fillD u l k a).tmps.size = a.tmps.size
  | [], _, _ => rfl
  | x :: l, k, a => by simp only [fillD]; rw [fillD_size u l (k + 1), put_size]

theorem fillD_look (u : Nat → Value) (t : Tmp) : ∀ (l : List (Option Tmp)) (k : Nat) (a : Act), dstB a.tmps.size l = true → (fillD u l k a).tmps.getD t undef = look u l k t (a.tmps.getD t undef)
  | [], _, _, _ => rfl
  | none :: l, k, a, hB => by simp only [fillD, look, fillD_none]; exact fillD_look u t l (k + 1) a hB
  | some d :: l, k, a, hB => by
    simp only [dstB, Bool.and_eq_true, decide_eq_true_eq] at hB
    simp only [fillD, look]
    rw [fillD_look u t l (k + 1) _ (by rw [put_size]; exact hB.2), put_getD _ _ _ _ hB.1.1]

theorem fillD_eval (u : Nat → Value) (l : List (Option Tmp)) (a : Act) (hB : dstB a.tmps.size l = true) : (fillD u l 0 a).eval = evalOf u l a := by
  funext x
  cases x with
  | tmp t => exact fillD_look u t l 0 a hB
  | _ => rfl

theorem look_none (u : Nat → Value) (t : Tmp) : ∀ (l : List (Option Tmp)) (k : Nat) (z : Value), l.contains (some t) = false → look u l k t z = z
  | [], _, _, _ => rfl
  | none :: l, k, z, h => by simp only [look]; exact look_none u t l (k + 1) z (by simpa using h)
  | some d :: l, k, z, h => by
    simp only [List.contains_cons, Bool.or_eq_false_iff] at h
    have e : (d == t) = false := by
      have := h.1
      rw [beq_eq_false_iff_ne] at this ⊢
      intro e; subst e; exact this rfl
    simp only [look, e, cond_false]
    exact look_none u t l (k + 1) z h.2

theorem look_at (n : Nat) (u : Nat → Value) (t : Tmp) : ∀ (l : List (Option Tmp)) (k i : Nat) (z : Value), dstB n l = true → l[i]? = some (some t) → look u l k t z = u (k + i)
  | [], _, _, _, _, h => by simp at h
  | none :: l, k, 0, z, hB, h => by simp at h
  | none :: l, k, i + 1, z, hB, h => by
    simp only [look]
    rw [look_at n u t l (k + 1) i z hB (by simpa using h)]
    congr 1; omega
  | some d :: l, k, 0, z, hB, h => by
    obtain rfl : d = t := by simpa using h
    simp only [dstB, Bool.and_eq_true, Bool.not_eq_true'] at hB
    simp only [look, beq_self_eq_true, cond_true]
    rw [look_none u d l (k + 1) _ hB.1.2]; rfl
  | some d :: l, k, i + 1, z, hB, h => by
    simp only [dstB, Bool.and_eq_true] at hB
    simp only [look]
    rw [look_at n u t l (k + 1) i _ hB.2 (by simpa using h)]
    congr 1; omega

def asBool : Value → Option Bool
  | .bool b => some b
  | _ => none

/-- Is the operation wanted, by the value of the one that guards it? -/
def wants (u : Nat → Value) : Option (Nat × Bool) → Bool
  | none => true
  | some (g, b) => asBool (u g) == some b

def okB (ops : List Oper) : Bool :=
  (List.range ops.length).all fun i => match ops[i]? with
    | none => true
    | some o => o.after.toList.all (fun e => !Region.binds .any e || decide (e.on < i)) &&
      (match o.guard with
       | none => true
       | some (g, _) => match ops[g]? with
         | some og => og.dst.isSome
         | none => false)

def factAt (F : List (Value → World → Prop)) (i : Nat) (v : Value) (w : World) : Prop := match F[i]? with
  | some Φ => Φ v w
  | none => True

def knows (u : Nat → Value) (w : World) (F : List (Value → World → Prop)) : List Edge → Prop
  | [] => True
  | e :: es => (if Region.binds .any e = true then factAt F e.on (u e.on) w else True) ∧ knows u w F es

def allFacts (u : Nat → Value) (w : World) : List (Value → World → Prop) → Nat → Prop
  | [], _ => True
  | Φ :: F, k => Φ (u k) w ∧ allFacts u w F (k + 1)

/-- The obligation of one operation. -/
def Ob (P : Program) (Le : World → World → Prop) (w0 : World) (a : Act) (ds : List (Option Tmp)) (F : List (Value → World → Prop)) (o : Oper) (Φ : Value → World → Prop) : Prop :=
  (∀ v w1 w2, Le w1 w2 → Φ v w1 → Φ v w2) ∧
  ∀ u w', Le w0 w' → knows u w' F o.after.toList → if wants u o.guard = true then gives P o (evalOf u ds a) w' (fun v w'' => Le w' w'' ∧ Φ v w'') else Φ undef w'

/-- The operations one by one; F: what the earlier ones leave. -/
def Each (P : Program) (Le : World → World → Prop) (w0 : World) (a : Act) (ds : List (Option Tmp)) (Q : (Nat → Value) → World → Prop) : List Oper → List (Value → World → Prop) → Prop
  | [], F => ∀ u w', Le w0 w' → allFacts u w' F 0 → Q u w'
  | o :: rest, F => ∃ Φ : Value → World → Prop, Ob P Le w0 a ds F o Φ ∧ Each P Le w0 a ds Q rest (F ++ [Φ])

theorem allFacts_of {u : Nat → Value} {w : World} : ∀ (F : List (Value → World → Prop)) (k : Nat), (∀ (i : Nat) (Φ : Value → World → Prop), F[i]? = some Φ → Φ (u (k + i)) w) → allFacts u w F k
  | [], _, _ => trivial
  | Φ :: F, k, h => ⟨h 0 Φ rfl, allFacts_of F (k + 1) (fun i Ψ hi => by have := h (i + 1) Ψ (by simpa using hi); rwa [show k + 1 + i = k + (i + 1) by omega])⟩

theorem knows_of {u : Nat → Value} {w : World} {F : List (Value → World → Prop)} : ∀ (es : List Edge), (∀ e ∈ es, Region.binds .any e = true → factAt F e.on (u e.on) w) → knows u w F es
  | [], _ => trivial
  | e :: es, h => ⟨by split; exact h e (by simp) (by assumption); trivial, knows_of es (fun e he => h e (by simp [he]))⟩

theorem Each.out {Le : World → World → Prop} {w0 : World} {a : Act} {ds : List (Option Tmp)} {Q : (Nat → Value) → World → Prop} :
    ∀ (l : List Oper) (F : List (Value → World → Prop)), Each P Le w0 a ds Q l F →
      ∃ G : List (Value → World → Prop), G.length = l.length ∧ (∀ k o, l[k]? = some o → ∃ Φ, G[k]? = some Φ ∧ Ob P Le w0 a ds (F ++ G.take k) o Φ) ∧ (∀ u w', Le w0 w' → allFacts u w' (F ++ G) 0 → Q u w')
  | [], F, h => ⟨[], rfl, fun k o hk => by simp at hk, by simpa [Each] using h⟩
  | o :: l, F, ⟨Φ, h1, h2⟩ => by
    obtain ⟨G, g1, g2, g3⟩ := Each.out l _ h2
    refine ⟨Φ :: G, by simp [g1], fun k o' hk => ?_, fun u w' hw hf => g3 u w' hw (by simpa using hf)⟩
    cases k with
    | zero =>
      obtain rfl : o = o' := by simpa using hk
      exact ⟨Φ, rfl, by simpa using h1⟩
    | succ k =>
      obtain ⟨Ψ, hΨ, hO⟩ := g2 k o' (by simpa using hk)
      exact ⟨Ψ, by simpa using hΨ, by simpa using hO⟩

def leftN (listed : Array Bool) : Nat := (listed.toList.filter (!·)).length

theorem left_set : ∀ (l : List Bool) (i : Nat), l[i]? = some false → ((l.set i true).filter (!·)).length + 1 = (l.filter (!·)).length
  | [], _, h => by simp at h
  | b :: l, 0, h => by
    obtain rfl : b = false := by simpa using h
    simp
  | b :: l, i + 1, h => by
    have := left_set l i (by simpa using h)
    cases b <;> simp at * <;> omega

theorem yielded_fill (ops : List Oper) (ds : List (Option Tmp)) (hds : ops.map (·.dst) = ds) (u : Nat → Value) (a : Act) (hB : dstB a.tmps.size ds = true) (g : Nat) (og : Oper) (hg : ops[g]? = some og) (d : Tmp) (hd : og.dst = some d) :
    yielded ops.toArray (fillD u ds 0 a).tmps g = asBool (u g) := by
  have hat : ds[g]? = some (some d) := by rw [← hds, List.getElem?_map, hg]; simp [hd]
  have hmem : ∀ (l : List (Option Tmp)) (j : Nat), dstB a.tmps.size l = true → l[j]? = some (some d) → d < a.tmps.size := by
    intro l
    induction l with
    | nil => intro j _ h; simp at h
    | cons x l ih =>
      intro j hb hj
      cases j with
      | zero =>
        obtain rfl : x = some d := by simpa using hj
        simp only [dstB, Bool.and_eq_true, decide_eq_true_eq] at hb
        exact hb.1.1
      | succ j =>
        refine ih j ?_ (by simpa using hj)
        cases x <;> simp only [dstB, Bool.and_eq_true] at hb <;> first | exact hb | exact hb.2
  have hlt : d < (fillD u ds 0 a).tmps.size := by rw [fillD_size]; exact hmem ds g hB hat
  have hv : (fillD u ds 0 a).tmps.getD d undef = u g := by
    rw [fillD_look u d ds 0 a hB, look_at _ u d ds 0 g _ hB hat, Nat.zero_add]
  have hv2 : (fillD u ds 0 a).tmps[d]? = some (u g) := by
    rw [← hv]; simp [hlt]
  unfold yielded
  have : (ops.toArray[g]?).bind (·.dst) = some d := by simp [hg, hd]
  rw [this]
  simp only [Option.bind_some, hv2]
  cases u g <;> rfl

theorem wanted_fill (ops : List Oper) (ds : List (Option Tmp)) (hds : ops.map (·.dst) = ds) (u : Nat → Value) (a : Act) (hB : dstB a.tmps.size ds = true) (hok : okB ops = true) (i : Nat) (o : Oper) (hi : ops[i]? = some o) :
    Region.wanted o (yielded ops.toArray (fillD u ds 0 a).tmps) = wants u o.guard := by
  unfold Region.wanted wants
  have hlt : i < ops.length := by
    rcases Nat.lt_or_ge i ops.length with h | h
    · exact h
    · rw [List.getElem?_eq_none h] at hi; cases hi
  have h1 := (List.all_eq_true.1 hok) i (List.mem_range.2 hlt)
  simp only [hi, Bool.and_eq_true] at h1
  have h2 := h1.2
  cases hgd : o.guard with
  | none => rfl
  | some gb =>
    obtain ⟨g, b⟩ := gb
    simp only [hgd] at h2
    cases hog : ops[g]? with
    | none => simp [hog] at h2
    | some og =>
      simp only [hog] at h2
      obtain ⟨d, hd⟩ := Option.isSome_iff_exists.1 h2
      simp only [yielded_fill ops ds hds u a hB g og hog d hd]

theorem all_listed {ops : List Oper} (hok : okB ops = true) {listed : Array Bool} (hs : listed.size = ops.length) (hr : Region.ready .any ops.toArray listed = []) : ∀ n i, i < n → i < ops.length → listed.getD i true = true := by
  intro n
  induction n with
  | zero => intro i hi; omega
  | succ n ih =>
    intro i hi hlt
    by_cases hn : i < n
    · exact ih i hn hlt
    · cases hli : listed.getD i true with
      | true => rfl
      | false =>
        exfalso
        obtain ⟨o, ho⟩ : ∃ o, ops[i]? = some o := ⟨_, List.getElem?_eq_getElem hlt⟩
        have h1 := (List.all_eq_true.1 hok) i (List.mem_range.2 hlt)
        simp only [ho, Bool.and_eq_true] at h1
        have hmem : i ∈ Region.ready .any ops.toArray listed := by
          refine mem_ready.2 ⟨hli, o, by simpa using ho, fun e he hb => ?_⟩
          have h3 := (List.all_eq_true.1 h1.1) e (by simpa using he)
          simp only [hb, Bool.not_true, Bool.false_or, decide_eq_true_eq] at h3
          have h4 := ih e.on (by omega) (by omega)
          have hsz : e.on < listed.size := by omega
          simpa [hsz] using h4
        rw [hr] at hmem
        cases hmem

theorem each_any {Le : World → World → Prop} (hrefl : ∀ w, Le w w) (htrans : ∀ x y z, Le x y → Le y z → Le x z) {w0 : World} {a : Act} {ops : List Oper} {ds : List (Option Tmp)} {Q : Exit → Act → World → Prop}
    (hds : ops.map (·.dst) = ds) (hB : dstB a.tmps.size ds = true) (hok : okB ops = true) (G : List (Value → World → Prop)) (hG : G.length = ops.length)
    (hO : ∀ k o, ops[k]? = some o → ∃ Φ, G[k]? = some Φ ∧ Ob P Le w0 a ds (G.take k) o Φ) (hQ : ∀ u w', Le w0 w' → allFacts u w' G 0 → Q .normal (fillD u ds 0 a) w') :
    ∀ (fuel : Nat) (listed : Array Bool) (u : Nat → Value) (w' : World), Le w0 w' → listed.size = ops.length → leftN listed ≤ fuel →
      (∀ i Φ, listed.getD i false = true → G[i]? = some Φ → Φ (u i) w') → wpAny P .any ops.toArray Q fuel listed (fillD u ds 0 a) w' := by
  have hend : ∀ (listed : Array Bool) (u : Nat → Value) (w' : World), Le w0 w' → listed.size = ops.length → (∀ i Φ, listed.getD i false = true → G[i]? = some Φ → Φ (u i) w') →
      Region.ready .any ops.toArray listed = [] → Q .normal (fillD u ds 0 a) w' := by
    intro listed u w' hw hs hf hr
    refine hQ u w' hw (allFacts_of _ _ fun i Φ hi => ?_)
    rw [Nat.zero_add]
    have hlt : i < ops.length := by
      rcases Nat.lt_or_ge i ops.length with h | h
      · exact h
      · rw [List.getElem?_eq_none (by omega)] at hi; cases hi
    have hl := all_listed hok hs hr (i + 1) i (by omega) hlt
    refine hf i Φ ?_ hi
    have hsz : i < listed.size := by omega
    simpa [hsz] using hl
  intro fuel
  induction fuel with
  | zero =>
    intro listed u w' hw hs hl hf
    have hr : Region.ready .any ops.toArray listed = [] := by
      rw [List.eq_nil_iff_forall_not_mem]
      intro i hi
      have h0 := (mem_ready.1 hi).1
      have hlt : i < listed.size := by
        rcases Nat.lt_or_ge i listed.size with h | h
        · exact h
        · simp [Array.getElem?_eq_none h] at h0
      have hz : listed.toList.filter (!·) = [] := List.length_eq_zero_iff.1 (by unfold leftN at hl; omega)
      have hm : listed[i] ∈ listed.toList := by simp
      have := List.filter_eq_nil_iff.1 hz _ hm
      simp [hlt] at h0
      simp [h0] at this
    exact ⟨hr, hend listed u w' hw hs hf hr⟩
  | succ fuel ih =>
    intro listed u w' hw hs hl hf
    refine ⟨fun hr => hend listed u w' hw hs hf hr, fun i hi => ?_⟩
    obtain ⟨h0, o, ho, hall⟩ := mem_ready.1 hi
    have ho' : ops[i]? = some o := by simpa using ho
    have hlt : i < ops.length := by
      rcases Nat.lt_or_ge i ops.length with h | h
      · exact h
      · rw [List.getElem?_eq_none h] at ho'; cases ho'
    obtain ⟨Φ, hΦ, hstab, hob⟩ := hO i o ho'
    have hli : listed.toList[i]? = some false := by
      have hsz : i < listed.size := by omega
      simp [hsz] at h0
      simp [hsz, h0]
    have hleft : leftN (listed.setIfInBounds i true) ≤ fuel := by
      have := left_set listed.toList i hli
      unfold leftN at hl ⊢
      rw [Array.toList_setIfInBounds]
      omega
    have hkn : knows u w' (G.take i) o.after.toList := knows_of _ fun e he hb => by
      unfold factAt
      split
      · rename_i Ψ hΨ
        have h1 := hall e (by simpa using he) hb
        refine hf e.on Ψ h1 ?_
        rw [List.getElem?_take] at hΨ
        split at hΨ
        · exact hΨ
        · cases hΨ
      · trivial
    have hstep := hob u w' hw hkn
    have hnext : ∀ v w'', Le w' w'' → Φ v w'' → wpAny P .any ops.toArray Q fuel (listed.setIfInBounds i true) ((fillD u ds 0 a).put o.dst v) w'' := by
      intro v w'' hle hv
      have hat : ds[i]? = some o.dst := by rw [← hds, List.getElem?_map, ho']; rfl
      rw [fillD_upd _ u v ds 0 i a o.dst hB hat, Nat.zero_add]
      refine ih _ _ _ (htrans _ _ _ hw hle) (by simpa using hs) hleft fun j Ψ hj hΨ => ?_
      by_cases hji : j = i
      · subst hji
        obtain rfl : Φ = Ψ := by rw [hΦ] at hΨ; injection hΨ
        simpa [upd] using hv
      · rw [show upd u i v j = u j by simp [upd, hji]]
        rw [getD_set_ne false (Ne.symm hji)] at hj
        obtain ⟨oj, hoj⟩ : ∃ oj, ops[j]? = some oj := by
          rcases Nat.lt_or_ge j ops.length with h | h
          · exact ⟨_, List.getElem?_eq_getElem h⟩
          · rw [List.getElem?_eq_none (by omega)] at hΨ; cases hΨ
        obtain ⟨Ψ', hΨ', hst, _⟩ := hO j oj hoj
        obtain rfl : Ψ' = Ψ := by rw [hΨ'] at hΨ; injection hΨ
        exact hst _ _ _ hle (hf j _ hj hΨ)
    unfold wpOp
    simp only [ho]
    rw [wanted_fill ops ds hds u a hB hok i o ho']
    by_cases hw2 : wants u o.guard = true
    · simp only [hw2, if_true] at hstep ⊢
      refine .inl (wp_of_gives (R := fun v w'' => Le w' w'' ∧ Φ v w'') (fun v w'' h => hnext v w'' h.1 h.2) ?_)
      rw [fillD_eval u ds a hB]
      exact hstep
    · simp only [hw2] at hstep ⊢
      exact hnext undef w' (hrefl _) hstep

/-- **A region that draws its order, each operation shown once**: out of what the operations that it waits for leave (in whatever world has come about), it gives a value and a world of which its own fact holds; facts hold on in all later worlds. -/
theorem wp_region_each (Le : World → World → Prop) (hrefl : ∀ w, Le w w) (htrans : ∀ x y z, Le x y → Le y z → Le x z) {id : Nat} {a : Act} {w : World} {l : List Oper} (ds : List (Option Tmp)) {Q : Exit → Act → World → Prop}
    (hm : P.follows .mixedOrders = true) (hds : l.map (·.dst) = ds) (hB : dstB a.tmps.size ds = true) (hok : okB l = true)
    (h : Each P Le w.drew a ds (fun u w' => Q .normal (fillD u ds 0 a) w') l []) : (Code.region id l.toArray true).wp P Q a w := by
  obtain ⟨G, h1, h2, h3⟩ := Each.out l [] h
  refine wp_region_any hm ?_
  have hown := fillD_own a ds 0 (fun i => match ds[i]? with | some (some d) => a.tmps.getD d undef | _ => undef) (fun j d hj => by rw [Nat.zero_add]; simp only [hj])
  rw [← hown]
  refine each_any (Q := Q) hrefl htrans hds hB hok G h1 (by simpa using h2) (by simpa using h3) _ _ _ _ (hrefl _) (by simp) (by simp [leftN]) (fun i Φ hi _ => ?_)
  exfalso
  rcases Nat.lt_or_ge i l.length with h | h
  · simp [h] at hi
  · have hz : (Array.replicate l.toArray.size false)[i]? = none := Array.getElem?_eq_none (by simpa using h)
    simp only [Array.getD_eq_getD_getElem?, hz] at hi
    cases hi

/-- What was there has stayed; how the world goes on. -/
def BLe (x y : World) : Prop := Below x.heap.size x y
theorem BLe.refl' (w : World) : BLe w w := Below.refl _ _
theorem BLe.trans' (x y z : World) (h : BLe x y) (k : BLe y z) : BLe x z := h.trans (k.mono h.size)

theorem wp_region_below {id : Nat} {a : Act} {w : World} {l : List Oper} (ds : List (Option Tmp)) {Q : Exit → Act → World → Prop}
    (hm : P.follows .mixedOrders = true) (hds : l.map (·.dst) = ds) (hB : dstB a.tmps.size ds = true) (hok : okB l = true)
    (h : Each P BLe w.drew a ds (fun u w' => Q .normal (fillD u ds 0 a) w') l []) : (Code.region id l.toArray true).wp P Q a w :=
  wp_region_each BLe BLe.refl' BLe.trans' ds hm hds hB hok h

/-- One value, in every world. -/
theorem Each.fixed {w0 : World} {a : Act} {ds : List (Option Tmp)} {Q : (Nat → Value) → World → Prop} {o : Oper} {rest : List Oper} {F : List (Value → World → Prop)} (v : Value)
    (h : ∀ u w', Below w0.heap.size w0 w' → knows u w' F o.after.toList → wants u o.guard = true ∧ gives P o (evalOf u ds a) w' (fun x w'' => w'' = w' ∧ x = v))
    (hrest : Each P BLe w0 a ds Q rest (F ++ [fun x _ => x = v])) : Each P BLe w0 a ds Q (o :: rest) F := by
  refine ⟨_, ⟨fun _ _ _ _ h => h, fun u w' hw hk => ?_⟩, hrest⟩
  obtain ⟨h1, h2⟩ := h u w' hw hk
  simp only [h1, if_true]
  unfold gives at *
  generalize (execOp (evalOf u ds a) o).run P w' = r at *
  cases r with
  | ok n w' =>
    cases n <;> simp only [givesUpon] at h2 ⊢
    · obtain ⟨rfl, rfl⟩ := h2; exact ⟨BLe.refl' _, rfl⟩
    · obtain ⟨rfl, rfl⟩ := h2; exact ⟨BLe.refl' _, rfl⟩
    · exact h2.mono fun e w'' ⟨x, he, hw, hx⟩ => ⟨x, he, by subst hw; exact BLe.refl' _, hx⟩
  | halt x w' => simp only [givesUpon] at h2

/-- It is not wanted. -/
theorem Each.skipped {w0 : World} {a : Act} {ds : List (Option Tmp)} {Q : (Nat → Value) → World → Prop} {o : Oper} {rest : List Oper} {F : List (Value → World → Prop)}
    (h : ∀ u w', Below w0.heap.size w0 w' → knows u w' F o.after.toList → wants u o.guard = false)
    (hrest : Each P BLe w0 a ds Q rest (F ++ [fun x _ => x = undef])) : Each P BLe w0 a ds Q (o :: rest) F := by
  refine ⟨_, ⟨fun _ _ _ _ h => h, fun u w' hw hk => ?_⟩, hrest⟩
  rw [h u w' hw hk]
  simp

/-- A call or a making: one fact of the value in the world behind, that holds on. -/
theorem Each.made {w0 : World} {a : Act} {ds : List (Option Tmp)} {Q : (Nat → Value) → World → Prop} {o : Oper} {rest : List Oper} {F : List (Value → World → Prop)} (Φ : Value → World → Prop)
    (hst : ∀ v w1 w2, Below w1.heap.size w1 w2 → Φ v w1 → Φ v w2)
    (h : ∀ u w', Below w0.heap.size w0 w' → knows u w' F o.after.toList → wants u o.guard = true ∧ gives P o (evalOf u ds a) w' (fun x w'' => Below w'.heap.size w' w'' ∧ Φ x w''))
    (hrest : Each P BLe w0 a ds Q rest (F ++ [Φ])) : Each P BLe w0 a ds Q (o :: rest) F := by
  refine ⟨Φ, ⟨hst, fun u w' hw hk => ?_⟩, hrest⟩
  obtain ⟨h1, h2⟩ := h u w' hw hk
  simp only [h1, if_true]
  exact h2
end
end Go.Proofs.YthfgnhgijgjggaaDoor
