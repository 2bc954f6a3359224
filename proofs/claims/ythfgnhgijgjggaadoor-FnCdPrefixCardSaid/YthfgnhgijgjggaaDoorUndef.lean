/- What a row's list gives of package cid's Undef: its cell holds a string. -/
import Derived.Test.YthfgnhgijgjggaaDoorVars
import Derived.WideShapes
import Derived.ChangeMaps
namespace Go.Proofs.YthfgnhgijgjggaaDoor
open Go.RowKit Go.ChangeShapes Go.WideShapes

theorem cellsCC : Tryd.prog.cellsOf 80 = 1 := by kernel_rfl
theorem undef_cell {n : String} {x : DataW Unit} {r : List (String × DataW Unit)} {W : World} {g : Nat}
    (h : laidMet Tryd.prog ((n, x) :: r) W) (hg : Tryd.prog.globalNamed n = some g) (ht : (Tryd.prog.globals[g]?).map (·.type) = some 80) :
    ∃ s : ByteArray, W.cell? ⟨g, 0, none⟩ = some (.string s) := by
  obtain ⟨ps, ⟨g0, t0, cs0, f0, p0, q0, hg0, ht0, hv0, hd0, _, e0⟩, _, hrows⟩ := h
  obtain rfl := Option.some.inj (hg.symm.trans hg0)
  obtain rfl := Option.some.inj (ht.symm.trans ht0)
  obtain ⟨xs, n, _, hx, hcl, hlen, hfs⟩ := DataW.trod_struct Tryd.underlying80 hd0
  match xs, hlen with
  | [y], _ =>
  obtain ⟨s, e1, _, _⟩ := DataW.trod_string Tryd.underlying9 (hfs 0 _ rfl)
  have hc := World.var?_cell hg0 hv0 0
  refine ⟨s, ?_⟩
  change List.take (Tryd.prog.cellsOf 9) (List.drop 0 cs0.toList) = _ at e1
  rw [cellsStr, List.drop_zero] at e1
  rw [hc]
  have h2 := congrArg (fun l => l[0]?) e1
  simpa using h2

theorem gUndef : Tryd.prog.globalNamed "pub-droshky/pub/cid.Undef" = some 1 := by kernel_rfl
theorem gUndefT : (Tryd.prog.globals[1]?).map (·.type) = some 80 := by kernel_rfl
end Go.Proofs.YthfgnhgijgjggaaDoor
