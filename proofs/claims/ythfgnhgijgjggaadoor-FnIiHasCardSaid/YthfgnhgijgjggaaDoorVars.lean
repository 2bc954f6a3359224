/- What a row's list of sentinels gives the walks: each variable's cell holds a pointer. -/
import Derived.Test.YthfgnhgijgjggaaDoorProg
import Derived.Stop.LaidErr
import Derived.KernelRfl
namespace Go.Proofs.YthfgnhgijgjggaaDoor
open Go.RowKit Go.ChangeShapes

theorem cellsErr : Tryd.prog.cellsOf 220 = 1 := by kernel_rfl
theorem cellsStr : Tryd.prog.cellsOf 9 = 1 := by kernel_rfl
theorem starErr : "*" ++ "errors.errorString" = "*errors.errorString" := by decide
/-- The one row of that name. -/
theorem rowErr (u : TypeId) (h : Tryd.prog.typeName? 3 u = some "*errors.errorString") : u = 218 :=
  typeName_ptr_named (nm := "errors.errorString") (by rw [starErr]; kernel_rfl) (by kernel_rfl) (by decide) u (by rw [starErr]; exact h)

/-- The head of the list: the variable's cell. -/
theorem sent_cell {n : String} {text : List UInt8} {r : List (String × DataW Unit)} {W : World} {g : Nat}
    (h : laidMet Tryd.prog ((n, .iface "*errors.errorString" (.ptr (.agg [.lit (.string text)]))) :: r) W) (hg : Tryd.prog.globalNamed n = some g) (ht : (Tryd.prog.globals[g]?).map (·.type) = some 84) :
    ∃ a : Addr, W.cell? ⟨g, 0, none⟩ = some (.iface 218 (.pointer (some a))) := by
  obtain ⟨a, s, hv, _, _, _⟩ := laid_sentinel h hg ht Tryd.underlying84 rowErr Tryd.underlying218 Tryd.underlying220 rfl rfl Tryd.underlying9 cellsErr cellsStr
  exact ⟨a, by have h0 := World.var?_cell hg hv 0; simpa using h0⟩

theorem gOver : Tryd.prog.globalNamed "pub-droshky/pub/varint.ErrOverflow" = some 2 := by kernel_rfl
theorem gOverT : (Tryd.prog.globals[2]?).map (·.type) = some 84 := by kernel_rfl
theorem gUnder : Tryd.prog.globalNamed "pub-droshky/pub/varint.ErrUnderflow" = some 4 := by kernel_rfl
theorem gUnderT : (Tryd.prog.globals[4]?).map (·.type) = some 84 := by kernel_rfl
theorem gNotMin : Tryd.prog.globalNamed "pub-droshky/pub/varint.ErrNotMinimal" = some 3 := by kernel_rfl
theorem gNotMinT : (Tryd.prog.globals[3]?).map (·.type) = some 84 := by kernel_rfl
theorem gShort : Tryd.prog.globalNamed "pub-droshky/pub/multihash.ErrTooShort" = some 8 := by kernel_rfl
theorem gShortT : (Tryd.prog.globals[8]?).map (·.type) = some 84 := by kernel_rfl
end Go.Proofs.YthfgnhgijgjggaaDoor
