/- Contracts: cid.Cast; impl.CdRead, impl.CdCast. -/
import Derived.Test.YthfgnhgijgjggaaDoorCdO
namespace Go.Proofs.YthfgnhgijgjggaaDoor
open Go.RowKit

section
variable {P : Program}
theorem results_row_tmp2 {fn : Func} {p u u2 : Tmp} {ty : TypeId} (h : fn.results = #[.cell p ty, .tmp u, .tmp u2]) (tmps : Array Value) (w : World) (g : Nat) (t : TypeId) (cs : Array Value) (fr : Nat × Nat) (d : TypeDesc)
    (hp : tmps.getD p undef = .pointer (some ⟨g, 0, none⟩)) (hg : w.heap[g]? = some (.cells cs t fr))
    (hu : P.underlying ty = some d) (hd : (match d with | .struct _ | .array _ _ => true | _ => false) = true) (hi : (P.info? ty).map (·.size) = some cs.size) :
    (results fn tmps).run P w = .ok (.tuple #[.agg cs, tmps.getD u undef, tmps.getD u2 undef]) w := by
  have hp' : tmps[p]?.getD undef = .pointer (some ⟨g, 0, none⟩) := by simpa using hp
  simp only [results, h]
  simp [Result.andThen, hp', asAddr, run_loadVar_row w g t ty cs fr d hg hu hd hi]
end

theorem cidStr_rd {l : List UInt8} {x : CidD} {k : Nat} (h : cidRd l = some (x, k)) (hl : l.length ≤ 2147483600) : CidStr ⟨(cidEnc x).toArray⟩ x := by
  obtain ⟨_, _, ht, _⟩ := cidRd_take h
  have := cidRd_dig h
  exact ⟨rfl, ht, by omega⟩

/-- impl.Cid as zeros. -/
abbrev noCid : Value := .agg #[.int .u64 0, .int .u64 0, .int .u64 0, .string ⟨#[]⟩]
def cidVal (x : CidD) : Value := .agg #[.int .u64 x.ver, .int .u64 x.codec, .int .u64 x.code, .string ⟨x.dig.toArray⟩]

/-- What the walks need of a result's variable of type impl.Cid. -/
structure OutVar (w : World) (g : Nat) : Prop where
  row : w.heap[g]? = some outZ
theorem OutVar.cells {w : World} {g : Nat} (h : OutVar w g) : (w.cell? ⟨g, 0, none⟩ = some (.int .u64 0) ∧ w.cell? ⟨g, 1, none⟩ = some (.int .u64 0) ∧ w.cell? ⟨g, 2, none⟩ = some (.int .u64 0) ∧ w.cell? ⟨g, 3, none⟩ = some (.string ⟨#[]⟩)) ∧
    (w.frozen? ⟨g, 0, none⟩ = false ∧ w.frozen? ⟨g, 1, none⟩ = false ∧ w.frozen? ⟨g, 2, none⟩ = false ∧ w.frozen? ⟨g, 3, none⟩ = false) :=
  ⟨⟨cell_of_row' (cur := [_, _, _, _]) h.row 0, cell_of_row' (cur := [_, _, _, _]) h.row 1, cell_of_row' (cur := [_, _, _, _]) h.row 2, cell_of_row' (cur := [_, _, _, _]) h.row 3⟩,
    ⟨frozen_of_row' (cur := [_, _, _, _]) h.row 0, frozen_of_row' (cur := [_, _, _, _]) h.row 1, frozen_of_row' (cur := [_, _, _, _]) h.row 2, frozen_of_row' (cur := [_, _, _, _]) h.row 3⟩⟩
theorem OutVar.below {w w' : World} {g : Nat} (h : OutVar w g) (hb : Below w.heap.size w w') : OutVar w' g := ⟨row_below hb (block_of_row h.row) h.row⟩
theorem set4 {w : World} {g : Nat} {a b c d : Value} {t : TypeId} (h : w.heap[g]? = some (.cells #[a, b, c, d] t (0, 0))) (p q r s : Value) :
    ((((w.setCell ⟨g, 0, none⟩ p).setCell ⟨g, 1, none⟩ q).setCell ⟨g, 2, none⟩ r).setCell ⟨g, 3, none⟩ s).heap[g]? = some (.cells #[p, q, r, s] t (0, 0)) :=
  Lib.heap_setCell_same (i := 3) (Lib.heap_setCell_same (i := 2) (Lib.heap_setCell_same (i := 1) (Lib.heap_setCell_same (i := 0) h p) q) r) s
theorem below_set4 {B : Nat} {w w' : World} {g : Nat} (h : Below B w w') (hB : B ≤ g) (p q r s : Value) : Below B w ((((w'.setCell ⟨g, 0, none⟩ p).setCell ⟨g, 1, none⟩ q).setCell ⟨g, 2, none⟩ r).setCell ⟨g, 3, none⟩ s) :=
  (((h.setCell hB _).setCell hB _).setCell hB _).setCell hB _
end Go.Proofs.YthfgnhgijgjggaaDoor
