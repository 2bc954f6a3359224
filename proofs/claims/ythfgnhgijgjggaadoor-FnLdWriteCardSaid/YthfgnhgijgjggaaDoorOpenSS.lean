/- A slice of strings that comes in: it holds strings. -/
import Derived.Test.YthfgnhgijgjggaaDoorLwA
import Derived.ProofKit
import Derived.ChangeSame
import Derived.ChangeOld
import Derived.Carry
import Derived.SliceStrings
namespace Go.Proofs.YthfgnhgijgjggaaDoor
open Go.ChangeShapes Go.WideShapes Go.ChangeAt Go.RowKit

theorem laidOutP : laidOutB Tryd.prog = true := by kernel_rfl
theorem cellsStrS : Tryd.prog.cellsOf 9 = 1 := by kernel_rfl

theorem spot_none {w : World} {a : Addr} {v : Value} (h : w.cell? a = some v) : a = ⟨a.block, a.off, none⟩ := by
  unfold World.cell? at h
  obtain ⟨b, o, s⟩ := a
  cases s with
  | none => rfl
  | some x =>
    simp only at h
    split at h
    · simp at h
    · cases h

theorem trod_places_lt {H : Type} {enc : TypeId × Value → H} {P : Program} {w : World} {base : Nat} {spare : Nat → Bool} {held : Bool} {t : TypeId} {v : Value} {d : DataW H} {ps : List MemPlace}
    (hd : DataW.Trod enc P w base spare held t v d ps) : ∀ x ∈ ps, x.block < w.heap.size := by
  obtain ⟨n, hn⟩ := hd
  exact DataW.trod_lt n _ _ _ hn

set_option maxRecDepth 100000 in
theorem open_ss {H : Type} {enc : TypeId × Value → H} {w : World} {base b0 : Nat} {spare : Nat → Bool} {held : Bool} {r : Reach} {v : Value} {d : DataW H} {ps : List MemPlace}
    (hval : Value.okWide Tryd.prog w r b0 49 v) (hd : DataW.Trod enc Tryd.prog w base spare held 49 v d ps) :
    ∃ ss : List ByteArray, SS w v ss ∧ ss.length ≤ maxLen := by
  obtain ⟨a0, len, cap, rfl⟩ := okWide_slice Tryd.underlying49 hval
  obtain ⟨fuel, hf⟩ := hd
  have hf2 : DataW.trod enc Tryd.prog w base spare held fuel 49 [.slice a0 len cap] = some (d, ps) := by simpa [Value.cells] using hf
  rcases open_strings Tryd.underlying49 Tryd.underlying9 cellsStrS hf2 with ⟨hcs, _⟩ | ⟨a, len', cap', ss, hcs, _, hl, hm, hz, _, hcell, _⟩
  · simp only [List.cons.injEq, Value.slice.injEq, and_true] at hcs
    obtain ⟨rfl, rfl, rfl⟩ := hcs
    exact ⟨[], ⟨none, 0, rfl, Nat.le_refl _, fun h => by simp at h⟩, by simp⟩
  · simp only [List.cons.injEq, Value.slice.injEq, and_true] at hcs
    obtain ⟨rfl, rfl, rfl⟩ := hcs
    have hlen : len ≤ ss.length := by rw [hz]; split <;> omega
    have hlt : (ss.take len).length = len := by rw [List.length_take]; omega
    refine ⟨ss.take len, ⟨some a, cap, by rw [hlt], by rw [hlt]; exact hl, fun hpos => ?_⟩, by rw [hlt]; omega⟩
    rw [hlt] at hpos
    have h0 := hcell 0 (by omega)
    have e0 : a.add 0 = a := by simp [Addr.add]
    rw [e0] at h0
    have ea := spot_none h0
    refine ⟨a.block, a.off, by rw [← ea], fun j s hj => ?_⟩
    have hjl : j < len := by
      rcases Nat.lt_or_ge j len with h | h
      · exact h
      · rw [List.getElem?_eq_none (by rw [hlt]; exact h)] at hj; cases hj
    have hc := hcell j (by omega)
    have eadd : a.add j = ⟨a.block, a.off + j, none⟩ := by
      by_cases h : j = 0
      · subst h; rw [e0]; exact ea
      · simp [Addr.add, h]
    rw [eadd] at hc
    rw [hc]
    rw [List.getElem?_take_of_lt hjl] at hj
    rw [List.getD, hj]; rfl
end Go.Proofs.YthfgnhgijgjggaaDoor
