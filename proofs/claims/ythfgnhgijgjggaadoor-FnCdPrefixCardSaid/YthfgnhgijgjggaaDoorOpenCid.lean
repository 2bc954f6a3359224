/- An identifier that comes in by value: its three numbers and its digest. -/
import Derived.Test.YthfgnhgijgjggaaDoorProg
import Derived.ProofKit
import Derived.ChangeSame
import Derived.KernelRfl
import Derived.ChangeMaps
import Derived.ShutString
namespace Go.Proofs.YthfgnhgijgjggaaDoor
open Go.ChangeShapes Go.WideShapes Go.ChangeAt Go.RowKit

theorem cellsCid : Tryd.prog.cellsOf 26 = 4 := by kernel_rfl
theorem cellsU64c : Tryd.prog.cellsOf 23 = 1 := by kernel_rfl
theorem cellsStrc : Tryd.prog.cellsOf 9 = 1 := by kernel_rfl
theorem four {α : Type} {cs : Array α} (h : cs.size = 4) : ∃ c0 c1 c2 c3, cs = #[c0, c1, c2, c3] := by
  obtain ⟨l⟩ := cs
  match l, h with
  | [c0, c1, c2, c3], _ => exact ⟨c0, c1, c2, c3, rfl⟩

set_option maxRecDepth 100000 in
theorem open_cid {H : Type} {enc : TypeId × Value → H} {w : World} {base b0 : Nat} {spare : Nat → Bool} {held : Bool} {r : Reach} {v : Value} {d : DataW H} {ps : List MemPlace}
    (hval : Value.okWide Tryd.prog w r b0 26 v) (hd : DataW.Trod enc Tryd.prog w base spare held 26 v d ps) :
    ∃ (a b c : Int) (s : ByteArray), v = .agg #[.int .u64 a, .int .u64 b, .int .u64 c, .string s] ∧ d = .agg [.lit (.int .u64 a), .lit (.int .u64 b), .lit (.int .u64 c), .lit (.string s.data.toList)] ∧ ps = [] ∧
      (Lit.int .u64 a).wf = true ∧ (Lit.int .u64 b).wf = true ∧ (Lit.int .u64 c).wf = true ∧ s.size ≤ maxLen := by
  obtain ⟨cs, rfl, hsz⟩ := okWide_struct Tryd.underlying26 hval
  rw [cellsCid] at hsz
  obtain ⟨c0, c1, c2, c3, rfl⟩ := four hsz
  obtain ⟨fuel, hf⟩ := hd
  obtain ⟨xs, n, rfl, hx, _, hlen, hfs⟩ := DataW.trod_struct Tryd.underlying26 hf
  match xs, hlen with
  | [y0, y1, y2, y3], _ =>
  obtain ⟨a, e0, rfl, wa⟩ := DataW.trod_int Tryd.underlying23 (hfs 0 _ rfl)
  obtain ⟨b, e1, rfl, wb⟩ := DataW.trod_int Tryd.underlying23 (hfs 1 _ rfl)
  obtain ⟨c, e2, rfl, wc⟩ := DataW.trod_int Tryd.underlying23 (hfs 2 _ rfl)
  obtain ⟨e, e3, rfl, we⟩ := DataW.trod_string Tryd.underlying9 (hfs 3 _ rfl)
  simp [Value.cells, cellsU64c, cellsStrc] at e0 e1 e2 e3
  subst e0 e1 e2 e3
  simp only [Prod.mk.injEq] at hx
  obtain ⟨rfl, rfl⟩ := hx
  exact ⟨a, b, c, e, rfl, rfl, rfl, wa, wb, wc, we⟩

set_option maxRecDepth 100000 in
theorem shut_cid {H : Type} {enc : TypeId × Value → H} {w : World} {base : Nat} {spare : Nat → Bool} {held : Bool} {a b c : Int} {s : ByteArray} (wa : (Lit.int .u64 a).wf = true) (wb : (Lit.int .u64 b).wf = true) (wc : (Lit.int .u64 c).wf = true) (ws : s.size ≤ maxLen) :
    DataW.Trod enc Tryd.prog w base spare held 26 (.agg #[.int .u64 a, .int .u64 b, .int .u64 c, .string s]) (.agg [.lit (.int .u64 a), .lit (.int .u64 b), .lit (.int .u64 c), .lit (.string s.data.toList)]) [] := ⟨2, by
  have f0 : ∀ x : Int, (Lit.int .u64 x).wf = true → DataW.trod enc Tryd.prog w base spare held 1 23 [.int .u64 x] = some (.lit (.int .u64 x), []) := fun x hx => by simp [DataW.trod, Tryd.underlying23, hx]
  have f1 : DataW.trod enc Tryd.prog w base spare held 1 9 [.string s] = some (.lit (.string s.data.toList), []) := by simp [DataW.trod, Tryd.underlying9, ws]
  have := trod_struct_mk (enc := enc) (w := w) (base := base) (spare := spare) (held := held) (n := 1) (cs := [.int .u64 a, .int .u64 b, .int .u64 c, .string s]) (xs := [(.lit (.int .u64 a), []), (.lit (.int .u64 b), []), (.lit (.int .u64 c), []), (.lit (.string s.data.toList), [])]) Tryd.underlying26 (by simp [cellsCid])
    (by simp [cellsU64c, cellsStrc, f0 a wa, f0 b wb, f0 c wc, f1])
  simpa [Value.cells] using this⟩
end Go.Proofs.YthfgnhgijgjggaaDoor
