/- What a row's list of sentinels gives walks that compare errors: each is an object of its own, known by its text. -/
import Derived.Test.YthfgnhgijgjggaaDoorVars
import Derived.Test.YthfgnhgijgjggaaDoorRdr
namespace Go.Proofs.YthfgnhgijgjggaaDoor
open Go.RowKit Go.ChangeShapes

theorem laid_sentinel_row {P : Program} {n nm : String} {text : List UInt8} {r : List (String × DataW Unit)} {W : World} {g : Nat} {ti tp te ts : TypeId} {ms : Array (String × TypeId)} {f : Field}
    (h : laidMet P ((n, .iface nm (.ptr (.agg [.lit (.string text)]))) :: r) W)
    (hg : P.globalNamed n = some g) (ht : (P.globals[g]?).map (·.type) = some ti) (hi : P.underlying ti = some (.interface ms)) (hrow : ∀ u, P.typeName? 3 u = some nm → u = tp)
    (hp : P.underlying tp = some (.pointer te)) (he : P.underlying te = some (.struct #[f])) (hft : f.type = ts) (hfo : f.offset = 0) (hs : P.underlying ts = some .string) (hc : P.cellsOf te = 1) (hcs : P.cellsOf ts = 1) :
    ∃ (a : Addr) (s : ByteArray), W.var? P n = some #[.iface tp (.pointer (some a))] ∧ W.cell? a = some (.string s) ∧ s.data.toList = text ∧ ∃ c t, W.heap[a.block]? = some (.cells c t (0, 0)) := by
  obtain ⟨ps, ⟨g0, t0, cs0, f0, p0, q0, hg0, ht0, hv0, hd0, _, e0⟩, _, hrows⟩ := h
  obtain rfl := Option.some.inj (hg.symm.trans hg0)
  obtain rfl := Option.some.inj (ht.symm.trans ht0)
  subst e0
  obtain ⟨l0⟩ := cs0
  have ok0 : ∀ u v, l0 = [.iface u v] → Value.okWide P W .any 0 u v := fun u v e => by
    subst e
    exact (hrows g 0 (by simp [MemPlace.row])).2 u v (by simpa using World.var?_cell hg0 hv0 0)
  obtain ⟨a0, s0, rfl, hc0, hs0, hz0, hp0⟩ := errorString_of_trod hi hrow hp he hft hfo hs hc hcs hd0 ok0
  exact ⟨a0, s0, hv0, hc0, hs0, (hrows a0.block a0.off (by rw [hp0]; simp [MemPlace.row])).1⟩

/-- The head of the list: the variable's cell, the object, its text. -/
theorem sent_err {n : String} {text : List UInt8} {r : List (String × DataW Unit)} {W : World} {g : Nat}
    (h : laidMet Tryd.prog ((n, .iface "*errors.errorString" (.ptr (.agg [.lit (.string text)]))) :: r) W) (hg : Tryd.prog.globalNamed n = some g) (ht : (Tryd.prog.globals[g]?).map (·.type) = some 84) :
    ∃ a : Addr, ErrAt W.heap.size W g a ∧ ∃ s, W.cell? a = some (.string s) ∧ s.data.toList = text := by
  obtain ⟨a, s, hv, hc, hs, cs, t, hr⟩ := laid_sentinel_row h hg ht Tryd.underlying84 rowErr Tryd.underlying218 Tryd.underlying220 rfl rfl Tryd.underlying9 cellsErr cellsStr
  have h0 : W.cell? ⟨g, 0, none⟩ = some (errV a) := by have h0 := World.var?_cell hg hv 0; simpa using h0
  exact ⟨a, ⟨block_of_cell h0, block_of_row hr, h0, cs, t, hr⟩, s, hc, hs⟩

theorem sent_ne {W : World} {a b : Addr} {s t : ByteArray} {x y : List UInt8} (ha : W.cell? a = some (.string s)) (hb : W.cell? b = some (.string t)) (hs : s.data.toList = x) (ht : t.data.toList = y) (h : x ≠ y) : a ≠ b := by
  rintro rfl
  rw [ha] at hb
  injection hb with hb
  injection hb with hb
  subst hb
  exact h (hs.symm.trans ht)

theorem gEOF : Tryd.prog.globalNamed "io.EOF" = some 0 := by kernel_rfl
theorem gEOFT : (Tryd.prog.globals[0]?).map (·.type) = some 84 := by kernel_rfl
theorem gUnexp : Tryd.prog.globalNamed "io.ErrUnexpectedEOF" = some 5 := by kernel_rfl
theorem gUnexpT : (Tryd.prog.globals[5]?).map (·.type) = some 84 := by kernel_rfl
theorem gShortBuf : Tryd.prog.globalNamed "io.ErrShortBuffer" = some 7 := by kernel_rfl
theorem gShortBufT : (Tryd.prog.globals[7]?).map (·.type) = some 84 := by kernel_rfl
end Go.Proofs.YthfgnhgijgjggaaDoor
