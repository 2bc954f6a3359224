/- FnCdBytes' walk: an identifier's bytes are as the specification has them, and there are none of what is no identifier. -/
import Derived.Test.YthfgnhgijgjggaaDoorCdS
namespace Go.Proofs.YthfgnhgijgjggaaDoor
open Go.RowKit

/-- A variable of type impl.Cid that holds an identifier. -/
def InRow (w : World) (g : Nat) (a b c : Int) (d : ByteArray) : Prop := w.heap[g]? = some (.cells #[.int .u64 a, .int .u64 b, .int .u64 c, .string d] 26 (0, 0))
theorem InRow.cells {w : World} {g : Nat} {a b c : Int} {d : ByteArray} (h : InRow w g a b c d) : w.cell? ⟨g, 0, none⟩ = some (.int .u64 a) ∧ w.cell? ⟨g, 1, none⟩ = some (.int .u64 b) ∧ w.cell? ⟨g, 2, none⟩ = some (.int .u64 c) ∧ w.cell? ⟨g, 3, none⟩ = some (.string d) :=
  ⟨cell_of_row' (cur := [_, _, _, _]) h 0, cell_of_row' (cur := [_, _, _, _]) h 1, cell_of_row' (cur := [_, _, _, _]) h 2, cell_of_row' (cur := [_, _, _, _]) h 3⟩
theorem InRow.below {w w' : World} {g : Nat} {a b c : Int} {d : ByteArray} (h : InRow w g a b c d) (hb : Below w.heap.size w w') : InRow w' g a b c d := row_below hb (block_of_row h) h
theorem InRow.new (w : World) (a b c : Int) (d : ByteArray) : InRow (w.alloc (cidO a b c d)) w.heap.size a b c d := heap_alloc_new w _

/-- An identifier as the law's argument. -/
structure CidArg (x : CidD) (d : ByteArray) : Prop where
  dig : x.dig = d.data.toList

end Go.Proofs.YthfgnhgijgjggaaDoor
