/- Contracts, joined (Each HmE HmF Vars OpenSS OpenCid OpenCS). -/
import Derived.Test.YthfgnhgijgjggaaDoorJHm1
import Derived.Test.YthfgnhgijgjggaaDoorJHm7
import Derived.Deep.QuietTactic
import Derived.BigQuiet
import Derived.Below
import Derived.KernelRfl
import Derived.Lib.Hide
import Derived.Test.YthfgnhgijgjggaaDoorProg
import Derived.Stop.LaidErr
import Derived.ProofKit
import Derived.ChangeSame
import Derived.ChangeOld
import Derived.Carry
import Derived.SliceStrings
import Derived.ChangeMaps
import Derived.ShutString
import Derived.Deep.Slices
import Derived.OpenShut
import Derived.Deep.SlicePairs
/- A region that draws its order: each operation is shown once, out of what it waits for (a rule of this session's). -/
namespace Go.Proofs.YthfgnhgijgjggaaDoor
open Go Go.RowKit

section
variable {P : Program}

/-- What is asked of an operation that was carried out: a value and a world of which R holds. -/
def givesUpon (P : Program) (R : Value → World → Prop) : Result Next → Prop
  | .ok (.value u) w' => R u w'
  | .ok .skip w' => R undef w'
  | .ok (.enter f args) w' => Calls P f args w' (fun e w'' => ∃ v, e = .returned v ∧ R v w'')
  | _ => False

def gives (P : Program) (o : Oper) (ev : Operand → Value) (w : World) (R : Value → World → Prop) : Prop := givesUpon P R ((execOp ev o).run P w)

theorem wp_of_gives {o : Oper} {a : Act} {w : World} {R : Value → World → Prop} {K : Act → World → Prop} {Q : Exit → Act → World → Prop}
    (h : ∀ v w', R v w' → K (a.put o.dst v) w') (hg : gives P o a.eval w R) : o.wp P a w K Q := by
  unfold gives at hg
  unfold Oper.wp
  generalize (execOp a.eval o).run P w = r at *
  cases r with
  | ok n w' =>
    cases n <;> simp only [givesUpon] at hg <;> simp only [Oper.upon]
    case value u => exact h _ _ hg
    case skip => exact h _ _ hg
    case enter f args => exact hg.mono fun e w'' ⟨v, he, hr⟩ => by subst he; exact h _ _ hr
  | halt x w' => simp only [givesUpon] at hg

/-- The frame with the values u in the temporaries of the operations. -/
def fillD (u : Nat → Value) : List (Option Tmp) → Nat → Act → Act
  | [], _, a => a
  | d :: l, k, a => fillD u l (k + 1) (a.put d (u k))

def look (u : Nat → Value) : List (Option Tmp) → Nat → Tmp → Value → Value
  | [], _, _, z => z
  | some d :: l, k, t, z => look u l (k + 1) t (bif d == t then u k else z)
  | none :: l, k, t, z => look u l (k + 1) t z

def evalOf (u : Nat → Value) (ds : List (Option Tmp)) (a : Act) : Operand → Value
  | .tmp t => look u ds 0 t (a.tmps.getD t undef)
  | .const v => v
  | .global g => .pointer (some ⟨g, 0, none⟩)
  | .func f => .func (.func f) #[] #[]

def upd (u : Nat → Value) (i : Nat) (v : Value) : Nat → Value := fun j => if j = i then v else u j

def dstB (n : Nat) : List (Option Tmp) → Bool
  | [] => true
  | none :: l => dstB n l
  | some d :: l => decide (d < n) && !(l.contains (some d)) && dstB n l

theorem put_same (a : Act) (d : Option Tmp) (x y : Value) : (a.put d x).put d y = a.put d y := by
  cases d with
  | none => rfl
  | some d => simp [Act.put]

theorem fillD_put (u : Nat → Value) (d : Tmp) (v : Value) : ∀ (l : List (Option Tmp)) (k : Nat) (a : Act), l.contains (some d) = false → (fillD u l k a).put (some d) v = fillD u l k (a.put (some d) v)
  | [], _, _, _ => rfl
  | x :: l, k, a, h => by
    simp only [List.contains_cons, Bool.or_eq_false_iff] at h
    obtain ⟨h1, h2⟩ := h
    simp only [fillD]
    rw [fillD_put u d v l (k + 1) _ h2]
    congr 1
    exact Act.put_comm a _ _ (fun d' hd' he => by subst hd'; injection he with he; subst he; simp at h1)

theorem fillD_none (v : Value) (a : Act) : a.put none v = a := rfl

theorem fillD_congr {u u' : Nat → Value} : ∀ (l : List (Option Tmp)) (k : Nat) (a : Act), (∀ j, k ≤ j → u j = u' j) → fillD u l k a = fillD u' l k a
  | [], _, _, _ => rfl
  | x :: l, k, a, h => by
    simp only [fillD]
    rw [h k (Nat.le_refl _)]
    exact fillD_congr l (k + 1) _ (fun j hj => h j (by omega))

theorem fillD_congr_none {u u' : Nat → Value} : ∀ (l : List (Option Tmp)) (k : Nat) (a : Act), (∀ j d, l[j]? = some (some d) → u (k + j) = u' (k + j)) → fillD u l k a = fillD u' l k a
  | [], _, _, _ => rfl
  | none :: l, k, a, h => by
    simp only [fillD, fillD_none]
    exact fillD_congr_none l (k + 1) _ (fun j d hj => by have := h (j + 1) d (by simpa using hj); rwa [Nat.add_assoc, Nat.add_comm 1 j])
  | some d :: l, k, a, h => by
    simp only [fillD]
    rw [show u k = u' k from h 0 d rfl]
    exact fillD_congr_none l (k + 1) _ (fun j d hj => by have := h (j + 1) d (by simpa using hj); rwa [Nat.add_assoc, Nat.add_comm 1 j])

theorem fillD_upd (n : Nat) (u : Nat → Value) (v : Value) : ∀ (l : List (Option Tmp)) (k i : Nat) (a : Act) (d : Option Tmp), dstB n l = true → l[i]? = some d → (fillD u l k a).put d v = fillD (upd u (k + i) v) l k a
  | [], _, _, _, _, _, h => by simp at h
  | x :: l, k, 0, a, d, hB, h => by
    obtain rfl : x = d := by simpa using h
    simp only [fillD]
    have e : upd u (k + 0) v k = v := by simp [upd]
    have e2 : ∀ b, fillD (upd u (k + 0) v) l (k + 1) b = fillD u l (k + 1) b := fun b => fillD_congr _ _ _ (fun j hj => by simp [upd]; omega)
    rw [e2, e]
    cases x with
    | none => rfl
    | some d =>
      simp only [dstB, Bool.and_eq_true, Bool.not_eq_true'] at hB
      rw [fillD_put u d v l (k + 1) _ hB.1.2, put_same]
  | x :: l, k, i + 1, a, d, hB, h => by
    simp only [fillD]
    have hB' : dstB n l = true := by cases x <;> simp only [dstB, Bool.and_eq_true] at hB <;> first | exact hB | exact hB.2
    have := fillD_upd n u v l (k + 1) i (a.put x (u k)) d hB' (by simpa using h)
    rw [this, show k + 1 + i = k + (i + 1) by omega]
    congr 2
    simp [upd]

theorem put_own (a : Act) (d : Tmp) : a.put (some d) (a.tmps.getD d undef) = a := by
  unfold Act.put
  cases a with
  | mk tmps defers =>
    simp only [Act.mk.injEq, and_true]
    apply Array.ext_getElem?
    intro j
    rw [Array.getElem?_setIfInBounds]
    by_cases h : d = j
    · subst h
      by_cases h2 : d < tmps.size
      · simp [h2]
      · simp [h2]
    · simp [h]

theorem fillD_own (a : Act) : ∀ (l : List (Option Tmp)) (k : Nat) (u : Nat → Value), (∀ j d, l[j]? = some (some d) → u (k + j) = a.tmps.getD d undef) → fillD u l k a = a
  | [], _, _, _ => rfl
  | x :: l, k, u, h => by
    simp only [fillD]
    have e : a.put x (u k) = a := by
      cases x with
      | none => rfl
      | some d => rw [show u k = _ from h 0 d rfl]; exact put_own a d
    rw [e]
    exact fillD_own a l (k + 1) u (fun j d hj => by have := h (j + 1) d (by simpa using hj); rw [← this]; congr 1; omega)

theorem put_getD (a : Act) (d t : Tmp) (v : Value) (h : d < a.tmps.size) : (a.put (some d) v).tmps.getD t undef = bif d == t then v else a.tmps.getD t undef := by
  by_cases e : d = t
  · subst e; simp [Act.put, h]
  · have e' : (d == t) = false := by simpa using e
    simp [Act.put, Array.getElem?_setIfInBounds_ne e, e']

theorem put_size (a : Act) (d : Option Tmp) (v : Value) : (a.put d v).tmps.size = a.tmps.size := by
  cases d <;> simp [Act.put]

theorem fillD_size (u : Nat → Value) : ∀ (l : List (Option Tmp)) (k : Nat) (a : Act), (fillD u l k a).tmps.size = a.tmps.size
  | [], _, _ => rfl
  | x :: l, k, a => by simp only [fillD]; rw [fillD_size u l (k + 1), put_size]

theorem fillD_look (u : Nat → Value) (t : Tmp) : ∀ (l : List (Option Tmp)) (k : Nat) (a : Act), dstB a.tmps.size l = true → (fillD u l k a).tmps.getD t undef = look u l k t (a.tmps.getD t undef)
  | [], _, _, _ => rfl
  | none :: l, k, a, hB => by simp only [fillD, look, fillD_none]; exact fillD_look u t l (k + 1) a hB
  | some d :: l, k, a, hB => by
    simp only [dstB, Bool.and_eq_true, decide_eq_true_eq] at hB
    simp only [fillD, look]
    rw [fillD_look u t l (k + 1) _ (by rw [put_size]; exact hB.2), put_getD _ _ _ _ hB.1.1]

theorem fillD_eval (u : Nat → Value) (l : List (Option Tmp)) (a : Act) (hB : dstB a.tmps.size l = true) : (fillD u l 0 a).eval = evalOf u l a := by
  funext x
  cases x with
  | tmp t => exact fillD_look u t l 0 a hB
  | _ => rfl

theorem look_none (u : Nat → Value) (t : Tmp) : ∀ (l : List (Option Tmp)) (k : Nat) (z : Value), l.contains (some t) = false → look u l k t z = z
  | [], _, _, _ => rfl
  | none :: l, k, z, h => by simp only [look]; exact look_none u t l (k + 1) z (by simpa using h)
  | some d :: l, k, z, h => by
    simp only [List.contains_cons, Bool.or_eq_false_iff] at h
    have e : (d == t) = false := by
      have := h.1
      rw [beq_eq_false_iff_ne] at this ⊢
      intro e; subst e; exact this rfl
    simp only [look, e, cond_false]
    exact look_none u t l (k + 1) z h.2

theorem look_at (n : Nat) (u : Nat → Value) (t : Tmp) : ∀ (l : List (Option Tmp)) (k i : Nat) (z : Value), dstB n l = true → l[i]? = some (some t) → look u l k t z = u (k + i)
  | [], _, _, _, _, h => by simp at h
  | none :: l, k, 0, z, hB, h => by simp at h
  | none :: l, k, i + 1, z, hB, h => by
    simp only [look]
    rw [look_at n u t l (k + 1) i z hB (by simpa using h)]
    congr 1; omega
  | some d :: l, k, 0, z, hB, h => by
    obtain rfl : d = t := by simpa using h
    simp only [dstB, Bool.and_eq_true, Bool.not_eq_true'] at hB
    simp only [look, beq_self_eq_true, cond_true]
    rw [look_none u d l (k + 1) _ hB.1.2]; rfl
  | some d :: l, k, i + 1, z, hB, h => by
    simp only [dstB, Bool.and_eq_true] at hB
    simp only [look]
    rw [look_at n u t l (k + 1) i _ hB.2 (by simpa using h)]
    congr 1; omega

def asBool : Value → Option Bool
  | .bool b => some b
  | _ => none

/-- Is the operation wanted, by the value of the one that guards it? -/
def wants (u : Nat → Value) : Option (Nat × Bool) → Bool
  | none => true
  | some (g, b) => asBool (u g) == some b

def okB (ops : List Oper) : Bool :=
  (List.range ops.length).all fun i => match ops[i]? with
    | none => true
    | some o => o.after.toList.all (fun e => !Region.binds .any e || decide (e.on < i)) &&
      (match o.guard with
       | none => true
       | some (g, _) => match ops[g]? with
         | some og => og.dst.isSome
         | none => false)

def factAt (F : List (Value → World → Prop)) (i : Nat) (v : Value) (w : World) : Prop := match F[i]? with
  | some Φ => Φ v w
  | none => True

def knows (u : Nat → Value) (w : World) (F : List (Value → World → Prop)) : List Edge → Prop
  | [] => True
  | e :: es => (if Region.binds .any e = true then factAt F e.on (u e.on) w else True) ∧ knows u w F es

def allFacts (u : Nat → Value) (w : World) : List (Value → World → Prop) → Nat → Prop
  | [], _ => True
  | Φ :: F, k => Φ (u k) w ∧ allFacts u w F (k + 1)

/-- The obligation of one operation. -/
def Ob (P : Program) (Le : World → World → Prop) (w0 : World) (a : Act) (ds : List (Option Tmp)) (F : List (Value → World → Prop)) (o : Oper) (Φ : Value → World → Prop) : Prop :=
  (∀ v w1 w2, Le w1 w2 → Φ v w1 → Φ v w2) ∧
  ∀ u w', Le w0 w' → knows u w' F o.after.toList → if wants u o.guard = true then gives P o (evalOf u ds a) w' (fun v w'' => Le w' w'' ∧ Φ v w'') else Φ undef w'

/-- The operations one by one; F: what the earlier ones leave. -/
def Each (P : Program) (Le : World → World → Prop) (w0 : World) (a : Act) (ds : List (Option Tmp)) (Q : (Nat → Value) → World → Prop) : List Oper → List (Value → World → Prop) → Prop
  | [], F => ∀ u w', Le w0 w' → allFacts u w' F 0 → Q u w'
  | o :: rest, F => ∃ Φ : Value → World → Prop, Ob P Le w0 a ds F o Φ ∧ Each P Le w0 a ds Q rest (F ++ [Φ])

theorem allFacts_of {u : Nat → Value} {w : World} : ∀ (F : List (Value → World → Prop)) (k : Nat), (∀ (i : Nat) (Φ : Value → World → Prop), F[i]? = some Φ → Φ (u (k + i)) w) → allFacts u w F k
  | [], _, _ => trivial
  | Φ :: F, k, h => ⟨h 0 Φ rfl, allFacts_of F (k + 1) (fun i Ψ hi => by have := h (i + 1) Ψ (by simpa using hi); rwa [show k + 1 + i = k + (i + 1) by omega])⟩

theorem knows_of {u : Nat → Value} {w : World} {F : List (Value → World → Prop)} : ∀ (es : List Edge), (∀ e ∈ es, Region.binds .any e = true → factAt F e.on (u e.on) w) → knows u w F es
  | [], _ => trivial
  | e :: es, h => ⟨by split; exact h e (by simp) (by assumption); trivial, knows_of es (fun e he => h e (by simp [he]))⟩

theorem Each.out {Le : World → World → Prop} {w0 : World} {a : Act} {ds : List (Option Tmp)} {Q : (Nat → Value) → World → Prop} :
    ∀ (l : List Oper) (F : List (Value → World → Prop)), Each P Le w0 a ds Q l F →
      ∃ G : List (Value → World → Prop), G.length = l.length ∧ (∀ k o, l[k]? = some o → ∃ Φ, G[k]? = some Φ ∧ Ob P Le w0 a ds (F ++ G.take k) o Φ) ∧ (∀ u w', Le w0 w' → allFacts u w' (F ++ G) 0 → Q u w')
  | [], F, h => ⟨[], rfl, fun k o hk => by simp at hk, by simpa [Each] using h⟩
  | o :: l, F, ⟨Φ, h1, h2⟩ => by
    obtain ⟨G, g1, g2, g3⟩ := Each.out l _ h2
    refine ⟨Φ :: G, by simp [g1], fun k o' hk => ?_, fun u w' hw hf => g3 u w' hw (by simpa using hf)⟩
    cases k with
    | zero =>
      obtain rfl : o = o' := by simpa using hk
      exact ⟨Φ, rfl, by simpa using h1⟩
    | succ k =>
      obtain ⟨Ψ, hΨ, hO⟩ := g2 k o' (by simpa using hk)
      exact ⟨Ψ, by simpa using hΨ, by simpa using hO⟩

def leftN (listed : Array Bool) : Nat := (listed.toList.filter (!·)).length

theorem left_set : ∀ (l : List Bool) (i : Nat), l[i]? = some false → ((l.set i true).filter (!·)).length + 1 = (l.filter (!·)).length
  | [], _, h => by simp at h
  | b :: l, 0, h => by
    obtain rfl : b = false := by simpa using h
    simp
  | b :: l, i + 1, h => by
    have := left_set l i (by simpa using h)
    cases b <;> simp at * <;> omega

theorem yielded_fill (ops : List Oper) (ds : List (Option Tmp)) (hds : ops.map (·.dst) = ds) (u : Nat → Value) (a : Act) (hB : dstB a.tmps.size ds = true) (g : Nat) (og : Oper) (hg : ops[g]? = some og) (d : Tmp) (hd : og.dst = some d) :
    yielded ops.toArray (fillD u ds 0 a).tmps g = asBool (u g) := by
  have hat : ds[g]? = some (some d) := by rw [← hds, List.getElem?_map, hg]; simp [hd]
  have hmem : ∀ (l : List (Option Tmp)) (j : Nat), dstB a.tmps.size l = true → l[j]? = some (some d) → d < a.tmps.size := by
    intro l
    induction l with
    | nil => intro j _ h; simp at h
    | cons x l ih =>
      intro j hb hj
      cases j with
      | zero =>
        obtain rfl : x = some d := by simpa using hj
        simp only [dstB, Bool.and_eq_true, decide_eq_true_eq] at hb
        exact hb.1.1
      | succ j =>
        refine ih j ?_ (by simpa using hj)
        cases x <;> simp only [dstB, Bool.and_eq_true] at hb <;> first | exact hb | exact hb.2
  have hlt : d < (fillD u ds 0 a).tmps.size := by rw [fillD_size]; exact hmem ds g hB hat
  have hv : (fillD u ds 0 a).tmps.getD d undef = u g := by
    rw [fillD_look u d ds 0 a hB, look_at _ u d ds 0 g _ hB hat, Nat.zero_add]
  have hv2 : (fillD u ds 0 a).tmps[d]? = some (u g) := by
    rw [← hv]; simp [hlt]
  unfold yielded
  have : (ops.toArray[g]?).bind (·.dst) = some d := by simp [hg, hd]
  rw [this]
  simp only [Option.bind_some, hv2]
  cases u g <;> rfl

theorem wanted_fill (ops : List Oper) (ds : List (Option Tmp)) (hds : ops.map (·.dst) = ds) (u : Nat → Value) (a : Act) (hB : dstB a.tmps.size ds = true) (hok : okB ops = true) (i : Nat) (o : Oper) (hi : ops[i]? = some o) :
    Region.wanted o (yielded ops.toArray (fillD u ds 0 a).tmps) = wants u o.guard := by
  unfold Region.wanted wants
  have hlt : i < ops.length := by
    rcases Nat.lt_or_ge i ops.length with h | h
    · exact h
    · rw [List.getElem?_eq_none h] at hi; cases hi
  have h1 := (List.all_eq_true.1 hok) i (List.mem_range.2 hlt)
  simp only [hi, Bool.and_eq_true] at h1
  have h2 := h1.2
  cases hgd : o.guard with
  | none => rfl
  | some gb =>
    obtain ⟨g, b⟩ := gb
    simp only [hgd] at h2
    cases hog : ops[g]? with
    | none => simp [hog] at h2
    | some og =>
      simp only [hog] at h2
      obtain ⟨d, hd⟩ := Option.isSome_iff_exists.1 h2
      simp only [yielded_fill ops ds hds u a hB g og hog d hd]

theorem all_listed {ops : List Oper} (hok : okB ops = true) {listed : Array Bool} (hs : listed.size = ops.length) (hr : Region.ready .any ops.toArray listed = []) : ∀ n i, i < n → i < ops.length → listed.getD i true = true := by
  intro n
  induction n with
  | zero => intro i hi; omega
  | succ n ih =>
    intro i hi hlt
    by_cases hn : i < n
    · exact ih i hn hlt
    · cases hli : listed.getD i true with
      | true => rfl
      | false =>
        exfalso
        obtain ⟨o, ho⟩ : ∃ o, ops[i]? = some o := ⟨_, List.getElem?_eq_getElem hlt⟩
        have h1 := (List.all_eq_true.1 hok) i (List.mem_range.2 hlt)
        simp only [ho, Bool.and_eq_true] at h1
        have hmem : i ∈ Region.ready .any ops.toArray listed := by
          refine mem_ready.2 ⟨hli, o, by simpa using ho, fun e he hb => ?_⟩
          have h3 := (List.all_eq_true.1 h1.1) e (by simpa using he)
          simp only [hb, Bool.not_true, Bool.false_or, decide_eq_true_eq] at h3
          have h4 := ih e.on (by omega) (by omega)
          have hsz : e.on < listed.size := by omega
          simpa [hsz] using h4
        rw [hr] at hmem
        cases hmem

theorem each_any {Le : World → World → Prop} (hrefl : ∀ w, Le w w) (htrans : ∀ x y z, Le x y → Le y z → Le x z) {w0 : World} {a : Act} {ops : List Oper} {ds : List (Option Tmp)} {Q : Exit → Act → World → Prop}
    (hds : ops.map (·.dst) = ds) (hB : dstB a.tmps.size ds = true) (hok : okB ops = true) (G : List (Value → World → Prop)) (hG : G.length = ops.length)
    (hO : ∀ k o, ops[k]? = some o → ∃ Φ, G[k]? = some Φ ∧ Ob P Le w0 a ds (G.take k) o Φ) (hQ : ∀ u w', Le w0 w' → allFacts u w' G 0 → Q .normal (fillD u ds 0 a) w') :
    ∀ (fuel : Nat) (listed : Array Bool) (u : Nat → Value) (w' : World), Le w0 w' → listed.size = ops.length → leftN listed ≤ fuel →
      (∀ i Φ, listed.getD i false = true → G[i]? = some Φ → Φ (u i) w') → wpAny P .any ops.toArray Q fuel listed (fillD u ds 0 a) w' := by
  have hend : ∀ (listed : Array Bool) (u : Nat → Value) (w' : World), Le w0 w' → listed.size = ops.length → (∀ i Φ, listed.getD i false = true → G[i]? = some Φ → Φ (u i) w') →
      Region.ready .any ops.toArray listed = [] → Q .normal (fillD u ds 0 a) w' := by
    intro listed u w' hw hs hf hr
    refine hQ u w' hw (allFacts_of _ _ fun i Φ hi => ?_)
    rw [Nat.zero_add]
    have hlt : i < ops.length := by
      rcases Nat.lt_or_ge i ops.length with h | h
      · exact h
      · rw [List.getElem?_eq_none (by omega)] at hi; cases hi
    have hl := all_listed hok hs hr (i + 1) i (by omega) hlt
    refine hf i Φ ?_ hi
    have hsz : i < listed.size := by omega
    simpa [hsz] using hl
  intro fuel
  induction fuel with
  | zero =>
    intro listed u w' hw hs hl hf
    have hr : Region.ready .any ops.toArray listed = [] := by
      rw [List.eq_nil_iff_forall_not_mem]
      intro i hi
      have h0 := (mem_ready.1 hi).1
      have hlt : i < listed.size := by
        rcases Nat.lt_or_ge i listed.size with h | h
        · exact h
        · simp [Array.getElem?_eq_none h] at h0
      have hz : listed.toList.filter (!·) = [] := List.length_eq_zero_iff.1 (by unfold leftN at hl; omega)
      have hm : listed[i] ∈ listed.toList := by simp
      have := List.filter_eq_nil_iff.1 hz _ hm
      simp [hlt] at h0
      simp [h0] at this
    exact ⟨hr, hend listed u w' hw hs hf hr⟩
  | succ fuel ih =>
    intro listed u w' hw hs hl hf
    refine ⟨fun hr => hend listed u w' hw hs hf hr, fun i hi => ?_⟩
    obtain ⟨h0, o, ho, hall⟩ := mem_ready.1 hi
    have ho' : ops[i]? = some o := by simpa using ho
    have hlt : i < ops.length := by
      rcases Nat.lt_or_ge i ops.length with h | h
      · exact h
      · rw [List.getElem?_eq_none h] at ho'; cases ho'
    obtain ⟨Φ, hΦ, hstab, hob⟩ := hO i o ho'
    have hli : listed.toList[i]? = some false := by
      have hsz : i < listed.size := by omega
      simp [hsz] at h0
      simp [hsz, h0]
    have hleft : leftN (listed.setIfInBounds i true) ≤ fuel := by
      have := left_set listed.toList i hli
      unfold leftN at hl ⊢
      rw [Array.toList_setIfInBounds]
      omega
    have hkn : knows u w' (G.take i) o.after.toList := knows_of _ fun e he hb => by
      unfold factAt
      split
      · rename_i Ψ hΨ
        have h1 := hall e (by simpa using he) hb
        refine hf e.on Ψ h1 ?_
        rw [List.getElem?_take] at hΨ
        split at hΨ
        · exact hΨ
        · cases hΨ
      · trivial
    have hstep := hob u w' hw hkn
    have hnext : ∀ v w'', Le w' w'' → Φ v w'' → wpAny P .any ops.toArray Q fuel (listed.setIfInBounds i true) ((fillD u ds 0 a).put o.dst v) w'' := by
      intro v w'' hle hv
      have hat : ds[i]? = some o.dst := by rw [← hds, List.getElem?_map, ho']; rfl
      rw [fillD_upd _ u v ds 0 i a o.dst hB hat, Nat.zero_add]
      refine ih _ _ _ (htrans _ _ _ hw hle) (by simpa using hs) hleft fun j Ψ hj hΨ => ?_
      by_cases hji : j = i
      · subst hji
        obtain rfl : Φ = Ψ := by rw [hΦ] at hΨ; injection hΨ
        simpa [upd] using hv
      · rw [show upd u i v j = u j by simp [upd, hji]]
        rw [getD_set_ne false (Ne.symm hji)] at hj
        obtain ⟨oj, hoj⟩ : ∃ oj, ops[j]? = some oj := by
          rcases Nat.lt_or_ge j ops.length with h | h
          · exact ⟨_, List.getElem?_eq_getElem h⟩
          · rw [List.getElem?_eq_none (by omega)] at hΨ; cases hΨ
        obtain ⟨Ψ', hΨ', hst, _⟩ := hO j oj hoj
        obtain rfl : Ψ' = Ψ := by rw [hΨ'] at hΨ; injection hΨ
        exact hst _ _ _ hle (hf j _ hj hΨ)
    unfold wpOp
    simp only [ho]
    rw [wanted_fill ops ds hds u a hB hok i o ho']
    by_cases hw2 : wants u o.guard = true
    · simp only [hw2, if_true] at hstep ⊢
      refine .inl (wp_of_gives (R := fun v w'' => Le w' w'' ∧ Φ v w'') (fun v w'' h => hnext v w'' h.1 h.2) ?_)
      rw [fillD_eval u ds a hB]
      exact hstep
    · simp only [hw2] at hstep ⊢
      exact hnext undef w' (hrefl _) hstep

/-- **A region that draws its order, each operation shown once**: out of what the operations that it waits for leave (in whatever world has come about), it gives a value and a world of which its own fact holds; facts hold on in all later worlds. -/
theorem wp_region_each (Le : World → World → Prop) (hrefl : ∀ w, Le w w) (htrans : ∀ x y z, Le x y → Le y z → Le x z) {id : Nat} {a : Act} {w : World} {l : List Oper} (ds : List (Option Tmp)) {Q : Exit → Act → World → Prop}
    (hm : P.follows .mixedOrders = true) (hds : l.map (·.dst) = ds) (hB : dstB a.tmps.size ds = true) (hok : okB l = true)
    (h : Each P Le w.drew a ds (fun u w' => Q .normal (fillD u ds 0 a) w') l []) : (Code.region id l.toArray true).wp P Q a w := by
  obtain ⟨G, h1, h2, h3⟩ := Each.out l [] h
  refine wp_region_any hm ?_
  have hown := fillD_own a ds 0 (fun i => match ds[i]? with | some (some d) => a.tmps.getD d undef | _ => undef) (fun j d hj => by rw [Nat.zero_add]; simp only [hj])
  rw [← hown]
  refine each_any (Q := Q) hrefl htrans hds hB hok G h1 (by simpa using h2) (by simpa using h3) _ _ _ _ (hrefl _) (by simp) (by simp [leftN]) (fun i Φ hi _ => ?_)
  exfalso
  rcases Nat.lt_or_ge i l.length with h | h
  · simp [h] at hi
  · have hz : (Array.replicate l.toArray.size false)[i]? = none := Array.getElem?_eq_none (by simpa using h)
    simp only [Array.getD_eq_getD_getElem?, hz] at hi
    cases hi

/-- What was there has stayed; how the world goes on. -/
def BLe (x y : World) : Prop := Below x.heap.size x y
theorem BLe.refl' (w : World) : BLe w w := Below.refl _ _
theorem BLe.trans' (x y z : World) (h : BLe x y) (k : BLe y z) : BLe x z := h.trans (k.mono h.size)

theorem wp_region_below {id : Nat} {a : Act} {w : World} {l : List Oper} (ds : List (Option Tmp)) {Q : Exit → Act → World → Prop}
    (hm : P.follows .mixedOrders = true) (hds : l.map (·.dst) = ds) (hB : dstB a.tmps.size ds = true) (hok : okB l = true)
    (h : Each P BLe w.drew a ds (fun u w' => Q .normal (fillD u ds 0 a) w') l []) : (Code.region id l.toArray true).wp P Q a w :=
  wp_region_each BLe BLe.refl' BLe.trans' ds hm hds hB hok h

/-- One value, in every world. -/
theorem Each.fixed {w0 : World} {a : Act} {ds : List (Option Tmp)} {Q : (Nat → Value) → World → Prop} {o : Oper} {rest : List Oper} {F : List (Value → World → Prop)} (v : Value)
    (h : ∀ u w', Below w0.heap.size w0 w' → knows u w' F o.after.toList → wants u o.guard = true ∧ gives P o (evalOf u ds a) w' (fun x w'' => w'' = w' ∧ x = v))
    (hrest : Each P BLe w0 a ds Q rest (F ++ [fun x _ => x = v])) : Each P BLe w0 a ds Q (o :: rest) F := by
  refine ⟨_, ⟨fun _ _ _ _ h => h, fun u w' hw hk => ?_⟩, hrest⟩
  obtain ⟨h1, h2⟩ := h u w' hw hk
  simp only [h1, if_true]
  unfold gives at *
  generalize (execOp (evalOf u ds a) o).run P w' = r at *
  cases r with
  | ok n w' =>
    cases n <;> simp only [givesUpon] at h2 ⊢
    · obtain ⟨rfl, rfl⟩ := h2; exact ⟨BLe.refl' _, rfl⟩
    · obtain ⟨rfl, rfl⟩ := h2; exact ⟨BLe.refl' _, rfl⟩
    · exact h2.mono fun e w'' ⟨x, he, hw, hx⟩ => ⟨x, he, by subst hw; exact BLe.refl' _, hx⟩
  | halt x w' => simp only [givesUpon] at h2

/-- It is not wanted. -/
theorem Each.skipped {w0 : World} {a : Act} {ds : List (Option Tmp)} {Q : (Nat → Value) → World → Prop} {o : Oper} {rest : List Oper} {F : List (Value → World → Prop)}
    (h : ∀ u w', Below w0.heap.size w0 w' → knows u w' F o.after.toList → wants u o.guard = false)
    (hrest : Each P BLe w0 a ds Q rest (F ++ [fun x _ => x = undef])) : Each P BLe w0 a ds Q (o :: rest) F := by
  refine ⟨_, ⟨fun _ _ _ _ h => h, fun u w' hw hk => ?_⟩, hrest⟩
  rw [h u w' hw hk]
  simp

/-- A call or a making: one fact of the value in the world behind, that holds on. -/
theorem Each.made {w0 : World} {a : Act} {ds : List (Option Tmp)} {Q : (Nat → Value) → World → Prop} {o : Oper} {rest : List Oper} {F : List (Value → World → Prop)} (Φ : Value → World → Prop)
    (hst : ∀ v w1 w2, Below w1.heap.size w1 w2 → Φ v w1 → Φ v w2)
    (h : ∀ u w', Below w0.heap.size w0 w' → knows u w' F o.after.toList → wants u o.guard = true ∧ gives P o (evalOf u ds a) w' (fun x w'' => Below w'.heap.size w' w'' ∧ Φ x w''))
    (hrest : Each P BLe w0 a ds Q rest (F ++ [Φ])) : Each P BLe w0 a ds Q (o :: rest) F := by
  refine ⟨Φ, ⟨hst, fun u w' hw hk => ?_⟩, hrest⟩
  obtain ⟨h1, h2⟩ := h u w' hw hk
  simp only [h1, if_true]
  exact h2
end
end Go.Proofs.YthfgnhgijgjggaaDoor
/- FnHdMatches' walk: two headers match just if their versions are equal, they have as many roots, and each root of the first is among those of the second. -/
namespace Go.Proofs.YthfgnhgijgjggaaDoor
open Go.RowKit

attribute [local go_sem] gives givesUpon evalOf look wants asBool

/-- The headers match, by their identifiers. -/
def MatC (va vb : Nat) (xs ys : List CidD) : Prop := va = vb ∧ xs.length = ys.length ∧ ∀ x ∈ xs, x ∈ ys

theorem mat_iff (va vb : Nat) (xs ys : List CidD) (hx : hgood xs) (hy : hgood ys) : Mat va vb (encs xs) (encs ys) ↔ MatC va vb xs ys := by
  have inj : ∀ x ∈ xs, ∀ y ∈ ys, encS x = encS y → x = y := by
    intro x h1 y h2 h
    have gx := hx.2 x h1
    have gy := hy.2 y h2
    refine cidEnc_inj gx.2 gy.2 (by have := gx.1; omega) (by have := gy.1; omega) ?_
    unfold encS at h
    injection h with h
    exact congrArg Array.toList h
  unfold Mat MatC
  rw [List.length_map, List.length_map]
  constructor
  · rintro ⟨h1, h2, h3⟩
    refine ⟨h1, h2, fun x hxm => ?_⟩
    obtain ⟨y, hy1, hy2⟩ := List.mem_map.1 (h3 (encS x) (List.mem_map.2 ⟨x, hxm, rfl⟩))
    rw [inj x hxm y hy1 hy2.symm]; exact hy1
  · rintro ⟨h1, h2, h3⟩
    refine ⟨h1, h2, fun s hs => ?_⟩
    obtain ⟨x, hxm, rfl⟩ := List.mem_map.1 hs
    exact List.mem_map.2 ⟨x, h3 x hxm, rfl⟩

set_option maxRecDepth 100000 in
set_option maxHeartbeats 8000000 in
theorem hdMatchesI (a b : Value) (xs ys : List CidD) (va vb : Nat) (w : World) (ha : CS w a xs) (hb : CS w b ys) (hx : hgood xs) (hy : hgood ys) (hu : UvS w) (r : Bool) (hr : r = true ↔ MatC va vb xs ys) :
    Calls Tryd.prog 12 #[a, .int .u64 va, b, .int .u64 vb] w fun e w' => e = .returned (.bool r) ∧ Below w.heap.size w w' := by
  have H1 := Lib.hid (headerIn_ok a xs va w ha hx hu)
  have H2 := fun W (h : Below w.heap.size w W) => Lib.hid (headerIn_ok b ys vb W (hb.below h) hy (hu.below h))
  have H3 : ∀ (W : World) (v v' : Value), SS W v (encs xs) → SS W v' (encs ys) → Hid (Calls Tryd.prog 37 #[.agg #[v, .int .u64 va], .agg #[v', .int .u64 vb]] W fun e w' => e = .returned (.bool r) ∧ Below W.heap.size W w') := fun W v v' h h' => Lib.hid <| by
    refine (matches_any v v' va vb (encs xs) (encs ys) W h h' (by rw [List.length_map]; have := hx.1; omega) (by rw [List.length_map]; have := hy.1; omega)).mono ?_
    rintro e w' ⟨hw, hb⟩
    refine ⟨?_, hb⟩
    rcases hw with ⟨h1, h2⟩ | ⟨h1, h2⟩
    · rw [h2, hr.2 ((mat_iff va vb xs ys hx hy).1 h1)]
    · cases r
      · exact h2
      · exact absurd ((mat_iff va vb xs ys hx hy).2 (hr.1 rfl)) h1
  clear ha hb hx hy hu hr
  go_enter Tryd.func12, Tryd.ntmps12
  go_wp2_with fail
  refine H1.out.mono ?_
  rintro e w1 ⟨⟨h, v, rfl, hh, hs⟩, hb1⟩
  have HH := Lib.hid hh
  have HS := Lib.hid hs
  have HN := H2 _ hb1
  clear hh hs H1 H2
  go_wp2_with fail
  refine HN.out.mono ?_
  rintro e w2 ⟨⟨h', v', rfl, hh', hs'⟩, hb2⟩
  have hh2 : HdrAt w2 h v va := row_below hb2 (block_of_row HH.out) HH.out
  obtain ⟨wd, hwd⟩ : ∃ wd, wd = w2.drew := ⟨_, rfl⟩
  have h0 : Below w2.heap.size w2 wd := by rw [hwd]; exact below_drewN _ _ 1
  have HM := fun W (hW : Below wd.heap.size wd W) => H3 W v v' ((HS.out.below hb2).below (below_next h0 hW)) (hs'.below (below_next h0 hW))
  have b2 := Lib.hid (below_next (below_next hb1 hb2) h0)
  have r0 := row_below h0 (block_of_row hh2) hh2
  have r1 := row_below h0 (block_of_row hh') hh'
  have k0 : ∀ W, Below wd.heap.size wd W → W.cell? ⟨h, 0, none⟩ = some v := fun W hW => cell_of_row' (cur := [_, _]) (row_below hW (block_of_row r0) r0) 0
  have k1 : ∀ W, Below wd.heap.size wd W → W.cell? ⟨h, 1, none⟩ = some (.int .u64 va) := fun W hW => cell_of_row' (cur := [_, _]) (row_below hW (block_of_row r0) r0) 1
  have k2 : ∀ W, Below wd.heap.size wd W → W.cell? ⟨h', 0, none⟩ = some v' := fun W hW => cell_of_row' (cur := [_, _]) (row_below hW (block_of_row r1) r1) 0
  have k3 : ∀ W, Below wd.heap.size wd W → W.cell? ⟨h', 1, none⟩ = some (.int .u64 vb) := fun W hW => cell_of_row' (cur := [_, _]) (row_below hW (block_of_row r1) r1) 1
  have HMH := Lib.hid HM
  clear hh2 hh' hs' hb1 hb2 HN H3 HM r0 r1 h0
  go_wp2_with fail
  refine wp_region_below [some 25, some 26, some 27, some 28, some 29, some 30, some 31, some 32, some 33, some 34, some 35, some 36, some 37, some 8] (by kernel_rfl) (by kernel_rfl) (by kernel_rfl) (by kernel_rfl) ?_
  rw [← hwd]
  clear hwd
  repeat first
    | (refine Each.fixed ?_ (fun u W hle hk => ?_) ?_
       rotate_left
       · (simp [knows, factAt, Region.binds] at hk
          go_simp
          exact rfl))
    | (refine Each.made (fun x _ => x = .bool r) (fun _ _ _ _ h => h) (fun u W hle hk => ?_) ?_
       · (simp [knows, factAt, Region.binds] at hk
          go_simp
          exact (HMH.out W hle).out))
  intro u W hle hf
  simp [allFacts] at hf
  simp only [fillD, hf]
  clear hf
  go_simp
  go_wp2
  go_ret
  exact ⟨rfl, below_next b2.out hle⟩
end Go.Proofs.YthfgnhgijgjggaaDoor
/- FnHdMatches' walk: two headers match just if their versions are equal, they have as many roots, and each root of the first is among those of the second. -/
namespace Go.Proofs.YthfgnhgijgjggaaDoor
open Go.RowKit

theorem hgNil : hgood [] := ⟨by simp, by simp⟩
theorem matNil : MatC 1 1 [] [] := ⟨rfl, rfl, by simp⟩
theorem ints_beq {a b : Nat} (h : a = b) : ((a : Int) == b) = true := by rw [beq_iff_eq]; omega
theorem ints_nbeq {a b : Nat} (h : a ≠ b) : ((a : Int) == b) = false := by rw [beq_eq_false_iff_ne]; omega

/-- What is known of the first k roots. -/
def MSofar (bo : Bool) (va vb : Nat) (xs ys : List CidD) (k : Nat) : Prop := (bo = true ∧ ∀ x ∈ xs.take k, x ∈ ys) ∨ (bo = false ∧ ¬ MatC va vb xs ys)
theorem MSofar.t {va vb : Nat} {xs ys : List CidD} {k : Nat} (h : MSofar true va vb xs ys k) : ∀ x ∈ xs.take k, x ∈ ys := by rcases h with h | h; exact h.2; cases h.1
theorem MSofar.f {va vb : Nat} {xs ys : List CidD} {k : Nat} (h : MSofar false va vb xs ys k) : ¬ MatC va vb xs ys := by rcases h with h | h; cases h.1; exact h.2
/-- What is known of one root among the first j of the second. -/
def RSofar (bo : Bool) (x : CidD) (ys : List CidD) (j : Nat) : Prop := (bo = true ∧ x ∈ ys) ∨ (bo = false ∧ x ∉ ys.take j)
theorem RSofar.t {x : CidD} {ys : List CidD} {j : Nat} (h : RSofar true x ys j) : x ∈ ys := by rcases h with h | h; exact h.2; cases h.1
theorem RSofar.f {x : CidD} {ys : List CidD} {j : Nat} (h : RSofar false x ys j) : x ∉ ys.take j := by rcases h with h | h; cases h.1; exact h.2

theorem eqCid_dec (x y : CidD) (W : World) : (binOp .eql 26 (.agg #[.int .u64 x.ver, .int .u64 x.codec, .int .u64 x.code, .string ⟨x.dig.toArray⟩]) (.agg #[.int .u64 y.ver, .int .u64 y.codec, .int .u64 y.code, .string ⟨y.dig.toArray⟩])).run Tryd.prog W = .ok (.bool (@decide (x = y) (Classical.propDecidable _))) W := by
  by_cases h : x = y
  · rw [(eqCid_args x y ⟨x.dig.toArray⟩ ⟨y.dig.toArray⟩ rfl rfl W).1 h]; simp [h]
  · rw [(eqCid_args x y ⟨x.dig.toArray⟩ ⟨y.dig.toArray⟩ rfl rfl W).2 h]; simp [h]

set_option maxRecDepth 100000 in
set_option maxHeartbeats 16000000 in
theorem law_HdMatches (a b : Value) (xs ys : List CidD) (va vb : Nat) (w : World) (ha : CS w a xs) (hb : CS w b ys) (hna : xs.length ≤ 9223372036854775807) (hnb : ys.length ≤ 9223372036854775807) (hu : UvS w) :
    Calls Tryd.prog 3 #[a, .int .u64 va, b, .int .u64 vb] w fun e w' => e = .returned (.bool true) ∧ Below w.heap.size w w' := by
  have F1 := Lib.hid (fits2_any a xs w ha hna)
  have F2 := fun W (h : Below w.heap.size w W) => Lib.hid (fits2_any b ys W (hb.below h) hnb)
  have G1 := fun W (h : Below w.heap.size w W) => Lib.hid (hdGood_any a xs W (ha.below h) hna)
  have G2 := fun W (h : Below w.heap.size w W) => Lib.hid (hdGood_any b ys W (hb.below h) hnb)
  have HCSA := Lib.hid ha
  have HCSB := Lib.hid hb
  have HU := Lib.hid hu
  clear ha hb hna hnb hu
  go_enter Tryd.func3, Tryd.ntmps3
  go_wp2_with fail
  refine F1.out.mono ?_
  rintro e w1 ⟨⟨o1, rfl⟩, hb1⟩
  have N2 := F2 _ hb1
  have M1 := fun W (h : Below w1.heap.size w1 W) => G1 W (below_next hb1 h)
  have M2 := fun W (h : Below w1.heap.size w1 W) => G2 W (below_next hb1 h)
  clear F1 F2 G1 G2
  cases o1
  · go_wp2
    go_ret
    exact ⟨rfl, hb1⟩
  · go_wp2_with fail
    refine N2.out.mono ?_
    rintro e w2 ⟨⟨o2, rfl⟩, hb2⟩
    have N3 := M1 _ hb2
    have M3 := fun W (h : Below w2.heap.size w2 W) => M2 W (below_next hb2 h)
    have b2 := Lib.hid (below_next hb1 hb2)
    clear N2 M1 M2 hb1 hb2
    cases o2
    · go_wp2
      go_ret
      exact ⟨rfl, b2.out⟩
    · go_wp2_with fail
      refine N3.out.mono ?_
      rintro e w3 ⟨hga, hb3⟩
      have N4 := M3 _ hb3
      have b3 := Lib.hid (below_next b2.out hb3)
      clear N3 M3 hb3
      rcases hga with ⟨hga, rfl⟩ | ⟨hga, rfl⟩
      · have HGA := Lib.hid hga
        clear hga
        go_wp2_with fail
        refine N4.out.mono ?_
        rintro e w4 ⟨hgb, hb4⟩
        have b4 := Lib.hid (below_next b3.out hb4)
        clear N4 hb4
        rcases hgb with ⟨hgb, rfl⟩ | ⟨hgb, rfl⟩
        · have HGB := Lib.hid hgb
          clear hgb
          obtain ⟨Aa, ca, ea, hca, hcla⟩ := id HCSA.out
          obtain ⟨Ab, cb, eb, hcb, hclb⟩ := id HCSB.out
          obtain ⟨na, hNA⟩ : ∃ n, n = xs.length := ⟨_, rfl⟩
          obtain ⟨nb, hNB⟩ : ∃ n, n = ys.length := ⟨_, rfl⟩
          have hna : na ≤ 100 := by rw [hNA]; exact HGA.out.1
          have hnb : nb ≤ 100 := by rw [hNB]; exact HGB.out.1
          rw [← hNA] at ea
          rw [← hNB] at eb
          have HNA := Lib.hid hNA
          have HNB := Lib.hid hNB
          have HCA := Lib.hid hcla
          have HCB := Lib.hid hclb
          have HEA := Lib.hid ea
          have HEB := Lib.hid eb
          clear hNA hNB hcla hclb hca hcb
          rw [ea, eb]
          clear ea eb
          by_cases hv : va = vb
          · subst hv
            have e1 := ints_beq (rfl : va = va)
            by_cases hl : na = nb
            · subst hl
              go_wp2
              go_loopw [9, 10] (fun s9 i wr => ∃ (bo : Bool) (k : Nat), k ≤ na ∧ s9 = .bool bo ∧ i = .int .i64 k ∧ MSofar bo va va xs ys k ∧ Below w.heap.size w wr) (fun _ i _ => na - (intOf i).toNat)
              case atStart => exact ⟨true, 0, Nat.zero_le _, rfl, rfl, Or.inl ⟨rfl, by simp⟩, b4.out⟩
              case round =>
                obtain ⟨bo, k, hk, rfl, rfl, hm, hb⟩ := hrel
                have HM := Lib.hid hm
                clear hm
                cases bo
                · have hno : Hid (¬ MatC va va xs ys) := Lib.hid HM.out.f
                  have HF := Lib.hid (hdMatchesI a b xs ys va va wr (HCSA.out.below hb) (HCSB.out.below hb) HGA.out HGB.out (HU.out.below hb) false ⟨(fun h => nomatch h), fun h => absurd h hno.out⟩)
                  rw [HEA.out, HEB.out] at HF
                  have hb0 := Lib.hid hb
                  go_wp2_with fail
                  refine HF.out.mono ?_
                  rintro e w7 ⟨rfl, hb7⟩
                  have b7 := below_next hb0.out hb7
                  have H1 := Lib.hid (hdMatchesI (.slice none 0 0) (.slice none 0 0) [] [] 1 1 w7 (CS.nil _) (CS.nil _) hgNil hgNil (HU.out.below b7) true ⟨fun _ => matNil, fun _ => rfl⟩)
                  clear HF hb7
                  go_wp2_with fail
                  refine H1.out.mono ?_
                  rintro e w8 ⟨rfl, hb8⟩
                  have b8 := below_next b7 hb8
                  go_wp2
                  go_ret
                  exact ⟨rfl, b8⟩
                · by_cases hlt : k < na
                  · obtain ⟨ba, oa, rfl, hcl⟩ := HCA.out (by rw [← HNA.out]; omega)
                    have hks : k < xs.length := by rw [← HNA.out]; exact hlt
                    obtain ⟨x, hsv⟩ : ∃ x, xs[k]? = some x := ⟨_, List.getElem?_eq_getElem hks⟩
                    obtain ⟨p0, p1, p2, p3⟩ := hcl k x hsv
                    have HX := Lib.hid hsv
                    have HP0 := Lib.hid p0
                    have HP1 := Lib.hid p1
                    have HP2 := Lib.hid p2
                    have HP3 := Lib.hid p3
                    clear hcl hks hsv p0 p1 p2 p3
                    go_wp2
                    go_loopw [9, 11] (fun s9 i wq => ∃ (bq : Bool) (j : Nat), j ≤ na ∧ s9 = .bool bq ∧ i = .int .i64 j ∧ Hid (RSofar bq x ys j) ∧ Below w.heap.size w wq) (fun _ i _ => na - (intOf i).toNat)
                    case atStart => exact ⟨false, 0, Nat.zero_le _, rfl, rfl, Lib.hid (Or.inr ⟨rfl, by simp⟩), hb⟩
                    case round =>
                      obtain ⟨bq, j, hj, rfl, rfl, hr, hbq⟩ := hrel
                      cases bq
                      · by_cases hjl : j < na
                        · obtain ⟨bb, ob, rfl, hcl⟩ := HCB.out (by rw [← HNB.out]; omega)
                          have hks : j < ys.length := by rw [← HNB.out]; exact hjl
                          obtain ⟨y, hsv⟩ : ∃ y, ys[j]? = some y := ⟨_, List.getElem?_eq_getElem hks⟩
                          obtain ⟨p0, p1, p2, p3⟩ := hcl j y hsv
                          have q0 := below_cell hbq p0
                          have q1 := below_cell hbq p1
                          have q2 := below_cell hbq p2
                          have q3 := below_cell hbq p3
                          have c0 := below_cell hbq HP0.out
                          have c1 := below_cell hbq HP1.out
                          have c2 := below_cell hbq HP2.out
                          have c3 := below_cell hbq HP3.out
                          have hmem : y ∈ ys := List.mem_of_getElem? hsv
                          have htk : ys.take (j + 1) = ys.take j ++ [y] := by rw [List.take_add_one, hsv]; rfl
                          have z0 : (0 : Int) ≤ (k : Int) := by omega
                          have z1 : (k : Int) < (na : Int) := by omega
                          have z2 : (0 : Int) ≤ (j : Int) := by omega
                          have z3 : (j : Int) < (na : Int) := by omega
                          by_cases hxy : x = y
                          · have hE := fun W => (eqCid_args x y ⟨x.dig.toArray⟩ ⟨y.dig.toArray⟩ rfl rfl W).1 hxy
                            have hnx : Hid (RSofar true x ys (j + 1)) := Lib.hid (Or.inl ⟨rfl, hxy ▸ hmem⟩)
                            clear hcl hks hsv p0 p1 p2 p3 hmem htk hxy
                            go_wp2_with fail
                            go_quiet (fail)
                            go_wp2
                            go_roundw
                            case rel => exact ⟨true, j + 1, by omega, rfl, by go_num, hnx, hbq.drewN _⟩
                            case measure => simp [intOf]; omega
                          · have hE := fun W => (eqCid_args x y ⟨x.dig.toArray⟩ ⟨y.dig.toArray⟩ rfl rfl W).2 hxy
                            have hnx : Hid (RSofar false x ys (j + 1)) := Lib.hid (Or.inr ⟨rfl, by
                              rw [htk, List.mem_append]
                              rintro (h | h)
                              · exact hr.out.f h
                              · exact hxy (by simpa using h)⟩)
                            clear hcl hks hsv p0 p1 p2 p3 hmem htk hxy
                            go_wp2_with fail
                            go_quiet (fail)
                            go_wp2
                            go_roundw
                            case rel => exact ⟨false, j + 1, by omega, rfl, by go_num, hnx, hbq.drewN _⟩
                            case measure => simp [intOf]; omega
                        · obtain rfl : j = na := by omega
                          have hnx : MSofar false va va xs ys (k + 1) := Or.inr ⟨rfl, fun h => by
                            have h1 := h.2.2 x (List.mem_of_getElem? HX.out)
                            have h2 := hr.out.f
                            rw [List.take_of_length_le (by rw [HNB.out]; exact Nat.le_refl _)] at h2
                            exact h2 h1⟩
                          go_wp2
                          go_roundw
                          case rel => exact ⟨false, k + 1, by omega, rfl, by go_num, hnx, hbq⟩
                          case measure => simp [intOf]; omega
                      · have hnx : MSofar true va va xs ys (k + 1) := Or.inl ⟨rfl, fun z hz => by
                          rw [List.take_add_one, HX.out] at hz
                          rcases List.mem_append.1 hz with h | h
                          · exact HM.out.t z h
                          · obtain rfl : z = x := by simpa using h
                            exact hr.out.t⟩
                        go_wp2
                        go_roundw
                        case rel => exact ⟨true, k + 1, by omega, rfl, by go_num, hnx, hbq⟩
                        case measure => simp [intOf]; omega
                  · obtain rfl : k = na := by omega
                    have hyes : Hid (MatC va va xs ys) := Lib.hid ⟨rfl, by rw [← HNA.out, ← HNB.out], fun z hz => HM.out.t z (by rw [List.take_of_length_le (by rw [HNA.out]; exact Nat.le_refl _)]; exact hz)⟩
                    have HF := Lib.hid (hdMatchesI a b xs ys va va wr (HCSA.out.below hb) (HCSB.out.below hb) HGA.out HGB.out (HU.out.below hb) true ⟨fun _ => hyes.out, fun _ => rfl⟩)
                    rw [HEA.out, HEB.out] at HF
                    have hb0 := Lib.hid hb
                    go_wp2_with fail
                    refine HF.out.mono ?_
                    rintro e w7 ⟨rfl, hb7⟩
                    have b7 := below_next hb0.out hb7
                    have H1 := Lib.hid (hdMatchesI (.slice none 0 0) (.slice none 0 0) [] [] 1 1 w7 (CS.nil _) (CS.nil _) hgNil hgNil (HU.out.below b7) true ⟨fun _ => matNil, fun _ => rfl⟩)
                    clear HF hb7
                    go_wp2_with fail
                    refine H1.out.mono ?_
                    rintro e w8 ⟨rfl, hb8⟩
                    have b8 := below_next b7 hb8
                    go_wp2
                    go_ret
                    exact ⟨rfl, b8⟩
            · have e2 := ints_nbeq hl
              have hno : Hid (¬ MatC va va xs ys) := Lib.hid fun h => hl (by rw [HNA.out, HNB.out]; exact h.2.1)
              clear hl
              go_wp2
              refine wp_loop_rounds 1 ?_
              rw [rounds_succ]
              rw [← HEA.out, ← HEB.out]
              have HF := Lib.hid (hdMatchesI a b xs ys va va w4 (HCSA.out.below b4.out) (HCSB.out.below b4.out) HGA.out HGB.out (HU.out.below b4.out) false ⟨(fun h => nomatch h), fun h => absurd h hno.out⟩)
              have hb0 := Lib.hid b4.out
              clear b4
              go_wp2_with fail
              refine HF.out.mono ?_
              rintro e w7 ⟨rfl, hb7⟩
              have b7 := below_next hb0.out hb7
              have H1 := Lib.hid (hdMatchesI (.slice none 0 0) (.slice none 0 0) [] [] 1 1 w7 (CS.nil _) (CS.nil _) hgNil hgNil (HU.out.below b7) true ⟨fun _ => matNil, fun _ => rfl⟩)
              clear HF hb7
              go_wp2_with fail
              refine H1.out.mono ?_
              rintro e w8 ⟨rfl, hb8⟩
              have b8 := below_next b7 hb8
              go_wp2
              go_ret
              exact ⟨rfl, b8⟩
          · have e1 := ints_nbeq hv
            have hno : Hid (¬ MatC va vb xs ys) := Lib.hid fun h => hv h.1
            clear hv
            go_wp2
            refine wp_loop_rounds 1 ?_
            rw [rounds_succ]
            rw [← HEA.out, ← HEB.out]
            have HF := Lib.hid (hdMatchesI a b xs ys va vb w4 (HCSA.out.below b4.out) (HCSB.out.below b4.out) HGA.out HGB.out (HU.out.below b4.out) false ⟨(fun h => nomatch h), fun h => absurd h hno.out⟩)
            have hb0 := Lib.hid b4.out
            clear b4
            go_wp2_with fail
            refine HF.out.mono ?_
            rintro e w7 ⟨rfl, hb7⟩
            have b7 := below_next hb0.out hb7
            have H1 := Lib.hid (hdMatchesI (.slice none 0 0) (.slice none 0 0) [] [] 1 1 w7 (CS.nil _) (CS.nil _) hgNil hgNil (HU.out.below b7) true ⟨fun _ => matNil, fun _ => rfl⟩)
            clear HF hb7
            go_wp2_with fail
            refine H1.out.mono ?_
            rintro e w8 ⟨rfl, hb8⟩
            have b8 := below_next b7 hb8
            go_wp2
            go_ret
            exact ⟨rfl, b8⟩
        · go_wp2
          go_ret
          exact ⟨rfl, b4.out⟩
      · go_wp2
        go_ret
        exact ⟨rfl, b3.out⟩
end Go.Proofs.YthfgnhgijgjggaaDoor
/- What a row's list of sentinels gives the walks: each variable's cell holds a pointer. -/
namespace Go.Proofs.YthfgnhgijgjggaaDoor
open Go.RowKit Go.ChangeShapes

theorem cellsErr : Tryd.prog.cellsOf 220 = 1 := by kernel_rfl
theorem cellsStr : Tryd.prog.cellsOf 9 = 1 := by kernel_rfl
theorem starErr : "*" ++ "errors.errorString" = "*errors.errorString" := by decide
/-- The one row of that name. -/
theorem rowErr (u : TypeId) (h : Tryd.prog.typeName? 3 u = some "*errors.errorString") : u = 218 :=
  typeName_ptr_named (nm := "errors.errorString") (by rw [starErr]; kernel_rfl) (by kernel_rfl) (by decide) u (by rw [starErr]; exact h)

/-- The head of the list: the variable's cell. -/
theorem sent_cell {n : String} {text : List UInt8} {r : List (String × DataW Unit)} {W : World} {g : Nat}
    (h : laidMet Tryd.prog ((n, .iface "*errors.errorString" (.ptr (.agg [.lit (.string text)]))) :: r) W) (hg : Tryd.prog.globalNamed n = some g) (ht : (Tryd.prog.globals[g]?).map (·.type) = some 84) :
    ∃ a : Addr, W.cell? ⟨g, 0, none⟩ = some (.iface 218 (.pointer (some a))) := by
  obtain ⟨a, s, hv, _, _, _⟩ := laid_sentinel h hg ht Tryd.underlying84 rowErr Tryd.underlying218 Tryd.underlying220 rfl rfl Tryd.underlying9 cellsErr cellsStr
  exact ⟨a, by have h0 := World.var?_cell hg hv 0; simpa using h0⟩

theorem gOver : Tryd.prog.globalNamed "pub-droshky/pub/varint.ErrOverflow" = some 2 := by kernel_rfl
theorem gOverT : (Tryd.prog.globals[2]?).map (·.type) = some 84 := by kernel_rfl
theorem gUnder : Tryd.prog.globalNamed "pub-droshky/pub/varint.ErrUnderflow" = some 4 := by kernel_rfl
theorem gUnderT : (Tryd.prog.globals[4]?).map (·.type) = some 84 := by kernel_rfl
theorem gNotMin : Tryd.prog.globalNamed "pub-droshky/pub/varint.ErrNotMinimal" = some 3 := by kernel_rfl
theorem gNotMinT : (Tryd.prog.globals[3]?).map (·.type) = some 84 := by kernel_rfl
theorem gShort : Tryd.prog.globalNamed "pub-droshky/pub/multihash.ErrTooShort" = some 8 := by kernel_rfl
theorem gShortT : (Tryd.prog.globals[8]?).map (·.type) = some 84 := by kernel_rfl
end Go.Proofs.YthfgnhgijgjggaaDoor
/- A slice of strings that comes in: it holds strings. -/
namespace Go.Proofs.YthfgnhgijgjggaaDoor
open Go.ChangeShapes Go.WideShapes Go.ChangeAt Go.RowKit

theorem laidOutP : laidOutB Tryd.prog = true := by kernel_rfl
theorem cellsStrS : Tryd.prog.cellsOf 9 = 1 := by kernel_rfl

theorem spot_none {w : World} {a : Addr} {v : Value} (h : w.cell? a = some v) : a = ⟨a.block, a.off, none⟩ := by
  unfold World.cell? at h
  obtain ⟨b, o, s⟩ := a
  cases s with
  | none => rfl
  | some x =>
    simp only at h
    split at h
    · simp at h
    · cases h

theorem trod_places_lt {H : Type} {enc : TypeId × Value → H} {P : Program} {w : World} {base : Nat} {spare : Nat → Bool} {held : Bool} {t : TypeId} {v : Value} {d : DataW H} {ps : List MemPlace}
    (hd : DataW.Trod enc P w base spare held t v d ps) : ∀ x ∈ ps, x.block < w.heap.size := by
  obtain ⟨n, hn⟩ := hd
  exact DataW.trod_lt n _ _ _ hn

set_option maxRecDepth 100000 in
theorem open_ss {H : Type} {enc : TypeId × Value → H} {w : World} {base b0 : Nat} {spare : Nat → Bool} {held : Bool} {r : Reach} {v : Value} {d : DataW H} {ps : List MemPlace}
    (hval : Value.okWide Tryd.prog w r b0 49 v) (hd : DataW.Trod enc Tryd.prog w base spare held 49 v d ps) :
    ∃ ss : List ByteArray, SS w v ss ∧ ss.length ≤ maxLen := by
  obtain ⟨a0, len, cap, rfl⟩ := okWide_slice Tryd.underlying49 hval
  obtain ⟨fuel, hf⟩ := hd
  have hf2 : DataW.trod enc Tryd.prog w base spare held fuel 49 [.slice a0 len cap] = some (d, ps) := by simpa [Value.cells] using hf
  rcases open_strings Tryd.underlying49 Tryd.underlying9 cellsStrS hf2 with ⟨hcs, _⟩ | ⟨a, len', cap', ss, hcs, _, hl, hm, hz, _, hcell, _⟩
  · simp only [List.cons.injEq, Value.slice.injEq, and_true] at hcs
    obtain ⟨rfl, rfl, rfl⟩ := hcs
    exact ⟨[], ⟨none, 0, rfl, Nat.le_refl _, fun h => by simp at h⟩, by simp⟩
  · simp only [List.cons.injEq, Value.slice.injEq, and_true] at hcs
    obtain ⟨rfl, rfl, rfl⟩ := hcs
    have hlen : len ≤ ss.length := by rw [hz]; split <;> omega
    have hlt : (ss.take len).length = len := by rw [List.length_take]; omega
    refine ⟨ss.take len, ⟨some a, cap, by rw [hlt], by rw [hlt]; exact hl, fun hpos => ?_⟩, by rw [hlt]; omega⟩
    rw [hlt] at hpos
    have h0 := hcell 0 (by omega)
    have e0 : a.add 0 = a := by simp [Addr.add]
    rw [e0] at h0
    have ea := spot_none h0
    refine ⟨a.block, a.off, by rw [← ea], fun j s hj => ?_⟩
    have hjl : j < len := by
      rcases Nat.lt_or_ge j len with h | h
      · exact h
      · rw [List.getElem?_eq_none (by rw [hlt]; exact h)] at hj; cases hj
    have hc := hcell j (by omega)
    have eadd : a.add j = ⟨a.block, a.off + j, none⟩ := by
      by_cases h : j = 0
      · subst h; rw [e0]; exact ea
      · simp [Addr.add, h]
    rw [eadd] at hc
    rw [hc]
    rw [List.getElem?_take_of_lt hjl] at hj
    rw [List.getD, hj]; rfl
end Go.Proofs.YthfgnhgijgjggaaDoor
/- An identifier that comes in by value: its three numbers and its digest. -/
namespace Go.Proofs.YthfgnhgijgjggaaDoor
open Go.ChangeShapes Go.WideShapes Go.ChangeAt Go.RowKit

theorem cellsCid : Tryd.prog.cellsOf 26 = 4 := by kernel_rfl
theorem cellsU64c : Tryd.prog.cellsOf 23 = 1 := by kernel_rfl
theorem cellsStrc : Tryd.prog.cellsOf 9 = 1 := by kernel_rfl
theorem four {α : Type} {cs : Array α} (h : cs.size = 4) : ∃ c0 c1 c2 c3, cs = #[c0, c1, c2, c3] := by
  obtain ⟨l⟩ := cs
  match l, h with
  | [c0, c1, c2, c3], _ => exact ⟨c0, c1, c2, c3, rfl⟩

set_option maxRecDepth 100000 in
theorem open_cid {H : Type} {enc : TypeId × Value → H} {w : World} {base b0 : Nat} {spare : Nat → Bool} {held : Bool} {r : Reach} {v : Value} {d : DataW H} {ps : List MemPlace}
    (hval : Value.okWide Tryd.prog w r b0 26 v) (hd : DataW.Trod enc Tryd.prog w base spare held 26 v d ps) :
    ∃ (a b c : Int) (s : ByteArray), v = .agg #[.int .u64 a, .int .u64 b, .int .u64 c, .string s] ∧ d = .agg [.lit (.int .u64 a), .lit (.int .u64 b), .lit (.int .u64 c), .lit (.string s.data.toList)] ∧ ps = [] ∧
      (Lit.int .u64 a).wf = true ∧ (Lit.int .u64 b).wf = true ∧ (Lit.int .u64 c).wf = true ∧ s.size ≤ maxLen := by
  obtain ⟨cs, rfl, hsz⟩ := okWide_struct Tryd.underlying26 hval
  rw [cellsCid] at hsz
  obtain ⟨c0, c1, c2, c3, rfl⟩ := four hsz
  obtain ⟨fuel, hf⟩ := hd
  obtain ⟨xs, n, rfl, hx, _, hlen, hfs⟩ := DataW.trod_struct Tryd.underlying26 hf
  match xs, hlen with
  | [y0, y1, y2, y3], _ =>
  obtain ⟨a, e0, rfl, wa⟩ := DataW.trod_int Tryd.underlying23 (hfs 0 _ rfl)
  obtain ⟨b, e1, rfl, wb⟩ := DataW.trod_int Tryd.underlying23 (hfs 1 _ rfl)
  obtain ⟨c, e2, rfl, wc⟩ := DataW.trod_int Tryd.underlying23 (hfs 2 _ rfl)
  obtain ⟨e, e3, rfl, we⟩ := DataW.trod_string Tryd.underlying9 (hfs 3 _ rfl)
  simp [Value.cells, cellsU64c, cellsStrc] at e0 e1 e2 e3
  subst e0 e1 e2 e3
  simp only [Prod.mk.injEq] at hx
  obtain ⟨rfl, rfl⟩ := hx
  exact ⟨a, b, c, e, rfl, rfl, rfl, wa, wb, wc, we⟩

set_option maxRecDepth 100000 in
theorem shut_cid {H : Type} {enc : TypeId × Value → H} {w : World} {base : Nat} {spare : Nat → Bool} {held : Bool} {a b c : Int} {s : ByteArray} (wa : (Lit.int .u64 a).wf = true) (wb : (Lit.int .u64 b).wf = true) (wc : (Lit.int .u64 c).wf = true) (ws : s.size ≤ maxLen) :
    DataW.Trod enc Tryd.prog w base spare held 26 (.agg #[.int .u64 a, .int .u64 b, .int .u64 c, .string s]) (.agg [.lit (.int .u64 a), .lit (.int .u64 b), .lit (.int .u64 c), .lit (.string s.data.toList)]) [] := ⟨2, by
  have f0 : ∀ x : Int, (Lit.int .u64 x).wf = true → DataW.trod enc Tryd.prog w base spare held 1 23 [.int .u64 x] = some (.lit (.int .u64 x), []) := fun x hx => by simp [DataW.trod, Tryd.underlying23, hx]
  have f1 : DataW.trod enc Tryd.prog w base spare held 1 9 [.string s] = some (.lit (.string s.data.toList), []) := by simp [DataW.trod, Tryd.underlying9, ws]
  have := trod_struct_mk (enc := enc) (w := w) (base := base) (spare := spare) (held := held) (n := 1) (cs := [.int .u64 a, .int .u64 b, .int .u64 c, .string s]) (xs := [(.lit (.int .u64 a), []), (.lit (.int .u64 b), []), (.lit (.int .u64 c), []), (.lit (.string s.data.toList), [])]) Tryd.underlying26 (by simp [cellsCid])
    (by simp [cellsU64c, cellsStrc, f0 a wa, f0 b wb, f0 c wc, f1])
  simpa [Value.cells] using this⟩
end Go.Proofs.YthfgnhgijgjggaaDoor
/- A slice of identifiers that comes in. -/
namespace Go.Proofs.YthfgnhgijgjggaaDoor
open Go.ChangeShapes Go.WideShapes Go.ChangeAt Go.RowKit Go.Deep

theorem addr_add {b o n : Nat} : (⟨b, o, none⟩ : Addr).add n = ⟨b, o + n, none⟩ := by
  by_cases h : n = 0 <;> simp [Addr.add, h]

set_option maxRecDepth 100000 in
theorem open_cs {H : Type} {enc : TypeId × Value → H} {w : World} {base b0 : Nat} {spare : Nat → Bool} {held : Bool} {r : Reach} {v : Value} {d : DataW H} {ps : List MemPlace}
    (hval : Value.okWide Tryd.prog w r b0 22 v) (hd : DataW.Trod enc Tryd.prog w base spare held 22 v d ps) :
    ∃ xs : List CidD, CS w v xs ∧ xs.length ≤ maxLen := by
  obtain ⟨a0, len, cap, rfl⟩ := okWide_slice Tryd.underlying22 hval
  obtain ⟨fuel, hf⟩ := hd
  have hf2 : DataW.trod enc Tryd.prog w base spare held fuel 22 [.slice a0 len cap] = some (d, ps) := by simpa [Value.cells] using hf
  rcases Deep.open_slice Tryd.underlying22 hf2 with ⟨hcs, _⟩ | ⟨a, len', cap', m, n, D, Pl, hcs, _, hl, hm, hmm, _, hx⟩
  · simp only [List.cons.injEq, Value.slice.injEq, and_true] at hcs
    obtain ⟨rfl, rfl, rfl⟩ := hcs
    exact ⟨[], CS.nil w, by simp⟩
  · simp only [List.cons.injEq, Value.slice.injEq, and_true] at hcs
    obtain ⟨rfl, rfl, rfl⟩ := hcs
    have hlm : len ≤ m := by rw [hmm]; split <;> omega
    have each : ∀ i, ∃ x : CidD, i < len → w.cell? (a.add (i * 4)) = some (.int .u64 x.ver) ∧ w.cell? (a.add (i * 4 + 1)) = some (.int .u64 x.codec) ∧ w.cell? (a.add (i * 4 + 2)) = some (.int .u64 x.code) ∧ w.cell? (a.add (i * 4 + 3)) = some (.string ⟨x.dig.toArray⟩) := by
      intro i
      by_cases hi : i < len
      · obtain ⟨cs', h1, h2⟩ := hx i (by omega)
        rw [cellsCid] at h1
        obtain ⟨_, hlen, hcell⟩ := World.cells?_some h1
        obtain ⟨xs, k, _, hxy, _, hxl, hfs⟩ := DataW.trod_struct Tryd.underlying26 h2
        match xs, hxl, cs', hlen with
        | [y0, y1, y2, y3], _, [v0, v1, v2, v3], _ =>
          obtain ⟨p, e0, rfl, w0⟩ := DataW.trod_int Tryd.underlying23 (hfs 0 _ rfl)
          obtain ⟨q, e1, rfl, w1⟩ := DataW.trod_int Tryd.underlying23 (hfs 1 _ rfl)
          obtain ⟨s, e2, rfl, w2⟩ := DataW.trod_int Tryd.underlying23 (hfs 2 _ rfl)
          obtain ⟨g, e3, rfl, w3⟩ := DataW.trod_string Tryd.underlying9 (hfs 3 _ rfl)
          simp [cellsU64c, cellsStrc] at e0 e1 e2 e3
          subst e0 e1 e2 e3
          have b0' := bounds_u64 w0
          have b1' := bounds_u64 w1
          have b2' := bounds_u64 w2
          obtain ⟨p', rfl⟩ := Int.eq_ofNat_of_zero_le b0'.1
          obtain ⟨q', rfl⟩ := Int.eq_ofNat_of_zero_le b1'.1
          obtain ⟨s', rfl⟩ := Int.eq_ofNat_of_zero_le b2'.1
          have g0 := hcell 0 (by omega)
          have g1 := hcell 1 (by omega)
          have g2 := hcell 2 (by omega)
          have g3 := hcell 3 (by omega)
          rw [add_add] at g0 g1 g2 g3
          refine ⟨⟨p', q', s', g.data.toList⟩, fun _ => ⟨by simpa using g0, by simpa using g1, by simpa using g2, ?_⟩⟩
          have := ba_mk g
          rw [show (⟨(⟨p', q', s', g.data.toList⟩ : CidD).dig.toArray⟩ : ByteArray) = g from this]
          simpa using g3
      · exact ⟨⟨0, 0, 0, []⟩, fun h => absurd h hi⟩
    obtain ⟨q, hq⟩ := Classical.axiomOfChoice each
    have hlen : ((List.range len).map q).length = len := by simp
    refine ⟨(List.range len).map q, ⟨some a, cap, by rw [hlen], by rw [hlen]; exact hl, fun hpos => ?_⟩, by rw [hlen]; omega⟩
    rw [hlen] at hpos
    have h0 := (hq 0 hpos).1
    have e0 : a.add (0 * 4) = a := by simp [Addr.add]
    rw [e0] at h0
    have ea := spot_none h0
    refine ⟨a.block, a.off, by rw [← ea], fun j x hj => ?_⟩
    have hjl : j < len := by
      rcases Nat.lt_or_ge j len with h | h
      · exact h
      · rw [List.getElem?_eq_none (by rw [hlen]; exact h)] at hj; cases hj
    have hx : x = q j := by
      rw [List.getElem?_map, List.getElem?_range hjl] at hj
      simpa using hj.symm
    subst hx
    have h4 := hq j hjl
    rw [ea, addr_add, addr_add, addr_add, addr_add] at h4
    exact h4
end Go.Proofs.YthfgnhgijgjggaaDoor
