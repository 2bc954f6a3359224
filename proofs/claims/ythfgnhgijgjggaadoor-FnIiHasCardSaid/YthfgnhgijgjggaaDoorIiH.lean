/- Contract: a walk over a tree from a pivot on, with a function that looks at each item. -/
import Derived.Test.YthfgnhgijgjggaaDoorIiG
import Derived.Shelf.Abstract
namespace Go.Proofs.YthfgnhgijgjggaaDoor
open Go.RowKit

/-- What a walk over these items finds. -/
abbrev finds (u : List UInt8) (hit : ItD → Bool) (l : List ItD) : Bool × Bool := scan (findStep ItD.dig u hit) false l
theorem findStep_go {u : List UInt8} {hit : ItD → Bool} {s : Bool} {x : ItD} (h : (findStep ItD.dig u hit s x).1 = true) : (findStep ItD.dig u hit s x).2 = false := by
  unfold findStep at *
  split at h
  · rename_i hk
    rw [if_pos hk]
    split at h
    · cases h
    · rename_i hh
      rw [if_neg hh]
  · cases h
theorem finds_go {u : List UInt8} {hit : ItD → Bool} : ∀ {l : List ItD}, (finds u hit l).1 = true → (finds u hit l).2 = false
  | [], _ => rfl
  | x :: l, h => by
    unfold finds scan at *
    split at h
    · rename_i hx
      rw [if_pos hx]
      rw [findStep_go hx] at h ⊢
      exact finds_go (l := l) h
    · cases h
theorem finds_append {u : List UInt8} {hit : ItD → Bool} {a b : List ItD} : finds u hit (a ++ b) = if (finds u hit a).1 = true then finds u hit b else (false, (finds u hit a).2) := by
  unfold finds
  rw [scan_append]
  split
  · rename_i h
    have := finds_go (l := a) h
    unfold finds at this
    rw [this]
  · rfl
theorem finds_cons {u : List UInt8} {hit : ItD → Bool} {x : ItD} {l : List ItD} : finds u hit (x :: l) = if (findStep ItD.dig u hit false x).1 = true then finds u hit l else (false, (findStep ItD.dig u hit false x).2) := by
  show scan (findStep ItD.dig u hit) false (x :: l) = _
  rw [scan]
  split
  · rename_i h
    rw [findStep_go h]
  · rfl

theorem Tr.asc_yes {α : Type} {f : α → Bool} {p : Nat} {l r : Tr α} {x : α} {b : Bool} (h : f x = true) : (Tr.node p l x r b).asc f = r.asc f := by
  show (if f x = true then r.asc f else l.asc f ++ x :: r.asc f) = _
  exact if_pos h
theorem Tr.asc_no {α : Type} {f : α → Bool} {p : Nat} {l r : Tr α} {x : α} {b : Bool} (h : f x = false) : (Tr.node p l x r b).asc f = l.asc f ++ x :: r.asc f := by
  show (if f x = true then r.asc f else l.asc f ++ x :: r.asc f) = _
  exact if_neg (by rw [h]; simp)

/-- The found variable. -/
abbrev fbO (s : Bool) : Obj := .cells #[.bool s] 4 (0, 0)
/-- What the walk rests on: the tree, its items, the pivot, and what the function asks of the world (E). -/
structure AscAt (E : World → Prop) (fb : Nat) (t : Tr ItD) (pv : ItD) (W : World) : Prop where
  at_ : t.At ItD.val W
  in_ : ∀ y ∈ t.toList, y.In W
  pv : pv.In W
  env : E W
  off : fb ∉ t.blocks
theorem AscAt.keep {E : World → Prop} {fb : Nat} {t : Tr ItD} {pv : ItD} {W W' : World} {s : Bool} (h : AscAt E fb t pv W) (hf : W.heap[fb]? = some (fbO s)) (hk : Keep (fun k => k = fb) W W') (hE : ∀ W W', E W → Keep (fun k => k = fb) W W' → E W') : AscAt E fb t pv W' := by
  have hnb : ∀ k, k = fb → NoByte W k := fun k e o v hc => by
    rw [e, cell_of_row' (cur := [_]) hf] at hc
    rcases o with _ | o <;> simp at hc
  exact ⟨h.at_.keep hk (fun k hm e => h.off (e ▸ hm)), fun y hy => (h.in_ y hy).keep' hk hnb, h.pv.keep' hk hnb, hE _ _ h.env hk, h.off⟩

/-- What the walk leaves. -/
def AscTo (fb : Nat) (r : Bool × Bool) (W : World) (e : Ending) (w' : World) : Prop := e = .returned (.bool r.1) ∧ w'.heap[fb]? = some (fbO r.2) ∧ Keep (fun k => k = fb) W w'

theorem AscAt.left {E : World → Prop} {fb p : Nat} {l r : Tr ItD} {x pv : ItD} {b : Bool} {W : World} (h : AscAt E fb (.node p l x r b) pv W) : AscAt E fb l pv W :=
  ⟨h.at_.2.1, fun y hy => h.in_ y (by simp [Tr.toList, hy]), h.pv, h.env, fun hm => h.off (by simp [Tr.blocks, hm])⟩
theorem AscAt.right {E : World → Prop} {fb p : Nat} {l r : Tr ItD} {x pv : ItD} {b : Bool} {W : World} (h : AscAt E fb (.node p l x r b) pv W) : AscAt E fb r pv W :=
  ⟨h.at_.2.2, fun y hy => h.in_ y (by simp [Tr.toList, hy]), h.pv, h.env, fun hm => h.off (by simp [Tr.blocks, hm])⟩
/-- What the function does at an item. -/
def Looks (F : FuncId) (c1 c2 : Value) (fb : Nat) (E : World → Prop) (Pz : ItD → Prop) (u : List UInt8) (hit : ItD → Bool) : Prop :=
  ∀ (x : ItD) (W : World), Pz x → E W → x.In W → W.heap[fb]? = some (fbO false) → Calls Tryd.prog F #[x.item, c1, c2, .pointer (some ⟨fb, 0, none⟩)] W (AscTo fb (findStep ItD.dig u hit false x) W)

set_option maxRecDepth 100000 in
set_option maxHeartbeats 4000000 in
theorem asc_any (F : FuncId) (eF : ∀ args w, (callFunc F args).run Tryd.prog w = .ok (.enter F args) w) (c1 c2 : Value) (fb : Nat) (E : World → Prop) (hE : ∀ W W', E W → Keep (fun k => k = fb) W W' → E W') (Pz : ItD → Prop) (u : List UInt8) (hit : ItD → Bool)
    (hF : Looks F c1 c2 fb E Pz u hit) (T : Option Addr) (pv : ItD) : ∀ (t : Tr ItD) (W : World), AscAt E fb t pv W → (∀ y ∈ t.toList, Pz y) → W.heap[fb]? = some (fbO false) →
    Calls Tryd.prog 99 #[.pointer T, .pointer t.addr, pv.item, .func (.func F) #[] #[c1, c2, .pointer (some ⟨fb, 0, none⟩)]] W (AscTo fb (finds u hit (t.asc (fun x => blt x.dig pv.dig))) W)
  | .nil, W, _, _, hf => by
    show Calls Tryd.prog _ #[.pointer T, .pointer none, _, _] W _
    have HF := Lib.hid hf
    clear hf
    go_enter Tryd.func99, Tryd.ntmps99
    go_wp2
    go_ret
    exact ⟨rfl, HF.out, Keep.refl _ _⟩
  | .node p l x r b, W, h, hp, hf => by
    have HL := Lib.hid (less_any x pv W (h.in_ x (by simp [Tr.toList])) h.pv)
    have IL := Lib.hid (fun W' (a : AscAt E fb l pv W') (f : W'.heap[fb]? = some (fbO false)) => asc_any F eF c1 c2 fb E hE Pz u hit hF T pv l W' a (fun y hy => hp y (by simp [Tr.toList, hy])) f)
    have IR := Lib.hid (fun W' (a : AscAt E fb r pv W') (f : W'.heap[fb]? = some (fbO false)) => asc_any F eF c1 c2 fb E hE Pz u hit hF T pv r W' a (fun y hy => hp y (by simp [Tr.toList, hy])) f)
    have HX := Lib.hid (hp x (by simp [Tr.toList]))
    have HH := Lib.hid h
    have HFB := Lib.hid hf
    have HFF := Lib.hid hF
    obtain ⟨⟨p0, p1, p2, _⟩, _⟩ := node_cells h.at_.1
    clear h hp hf hF
    show Calls Tryd.prog _ #[.pointer T, .pointer (some ⟨p, 0, none⟩), _, _] W _
    cases hc : blt x.dig pv.dig with
    | true =>
      rw [hc] at HL
      have hasc : Hid ((Tr.node p l x r b).asc (fun x => blt x.dig pv.dig) = r.asc (fun x => blt x.dig pv.dig)) := Lib.hid (Tr.asc_yes hc)
      clear hc p1
      go_enter Tryd.func99, Tryd.ntmps99
      go_wp2_with fail
      refine HL.out.mono ?_
      rintro e w1 ⟨rfl, hb⟩
      have c2' := below_cell hb p2
      have hk := hb.keep (S := fun k => k = fb)
      have HI := Lib.hid (IR.out w1 ((HH.out.keep HFB.out hk hE).right) (row_below hb (block_of_row HFB.out) HFB.out))
      have HK := Lib.hid hk
      clear p0 p2 hb hk HL IL IR
      go_wp2_with fail
      refine HI.out.mono ?_
      rintro e w2 ⟨rfl, h1, h2⟩
      have H1 := Lib.hid h1
      clear h1
      go_wp2
      go_ret
      exact ⟨by rw [hasc.out]; rfl, by rw [hasc.out]; exact H1.out, HK.out.trans h2⟩
    | false =>
      rw [hc] at HL
      obtain ⟨L, hL⟩ : ∃ L, L = l.asc (fun x => blt x.dig pv.dig) := ⟨_, rfl⟩
      obtain ⟨R, hR⟩ : ∃ R, R = r.asc (fun x => blt x.dig pv.dig) := ⟨_, rfl⟩
      have hasc : Hid ((Tr.node p l x r b).asc (fun x => blt x.dig pv.dig) = L ++ x :: R) := Lib.hid (by rw [hL, hR]; exact Tr.asc_no hc)
      rw [← hL] at IL
      rw [← hR] at IR
      clear hc hL hR
      go_enter Tryd.func99, Tryd.ntmps99
      go_wp2_with fail
      refine HL.out.mono ?_
      rintro e w1 ⟨rfl, hb⟩
      have d0 := below_cell hb p0
      have d1 := below_cell hb p1
      have d2 := below_cell hb p2
      have hk := hb.keep (S := fun k => k = fb)
      have a1 := HH.out.keep HFB.out hk hE
      have f1 := row_below hb (block_of_row HFB.out) HFB.out
      have HI := Lib.hid (IL.out w1 a1.left f1)
      have HK := Lib.hid hk
      have A1 := Lib.hid a1
      have F1 := Lib.hid f1
      clear p0 p1 p2 hb hk HL IL a1 f1 HFB HH
      go_wp2_with fail
      refine HI.out.mono ?_
      rintro e w2 ⟨rfl, h1, h2⟩
      have HK2 := Lib.hid (HK.out.trans h2)
      have hpf : ¬ p = fb := fun e => A1.out.off (by rw [e]; simp [Tr.blocks])
      have e0 := h2.cell d0 hpf
      have e2 := h2.cell d2 hpf
      have A2 := Lib.hid (A1.out.keep F1.out h2 hE)
      have H1 := Lib.hid h1
      clear h1 h2 HI HK A1 F1 d0 d1 d2
      cases hfl : (finds u hit L).1 with
      | false =>
        go_wp2
        go_ret
        refine ⟨by rw [hasc.out, finds_append, if_neg (by rw [hfl]; simp)]; rfl, by rw [hasc.out, finds_append, if_neg (by rw [hfl]; simp)]; exact H1.out, HK2.out⟩
      | true =>
        have hf2 : w2.heap[fb]? = some (fbO false) := by rw [← finds_go hfl]; exact H1.out
        have HFL := Lib.hid hfl
        have HC := Lib.hid (HFF.out x w2 HX.out A2.out.env (A2.out.in_ x (by simp [Tr.toList])) hf2)
        have F2 := Lib.hid hf2
        clear hfl hf2 H1
        go_wp2_with fail
        refine HC.out.mono ?_
        rintro e w3 ⟨rfl, h3, h4⟩
        have j2 := h4.cell e2 hpf
        have HK3 := Lib.hid (HK2.out.trans h4)
        have A3 := Lib.hid (A2.out.keep F2.out h4 hE)
        have H3 := Lib.hid h3
        clear h3 h4 e0 e2 HC HK2 A2 F2
        cases hst : (findStep ItD.dig u hit false x).1 with
        | false =>
          go_wp2
          go_ret
          refine ⟨by rw [hasc.out, finds_append, if_pos HFL.out, finds_cons, if_neg (by rw [hst]; simp)]; rfl, by rw [hasc.out, finds_append, if_pos HFL.out, finds_cons, if_neg (by rw [hst]; simp)]; exact H3.out, HK3.out⟩
        | true =>
          have hf3 : w3.heap[fb]? = some (fbO false) := by rw [← findStep_go hst]; exact H3.out
          have HI := Lib.hid (IR.out w3 A3.out.right hf3)
          have HST := Lib.hid hst
          clear hst hf3 H3 IR
          go_wp2_with fail
          refine HI.out.mono ?_
          rintro e w4 ⟨rfl, h5, h6⟩
          have H5 := Lib.hid h5
          clear h5
          go_wp2
          go_ret
          exact ⟨by rw [hasc.out, finds_append, if_pos HFL.out, finds_cons, if_pos HST.out]; rfl, by rw [hasc.out, finds_append, if_pos HFL.out, finds_cons, if_pos HST.out]; exact H5.out, HK3.out.trans h6⟩
end Go.Proofs.YthfgnhgijgjggaaDoor
