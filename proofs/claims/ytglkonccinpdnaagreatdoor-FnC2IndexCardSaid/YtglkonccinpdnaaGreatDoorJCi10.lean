/- Contracts, joined (OpenHd). -/
import Derived.Test.YtglkonccinpdnaaGreatDoorProg
import Derived.ProofKit
import Derived.ChangeSame
import Derived.KernelRfl
/- A header of version 2 that comes in by value: its five numbers. -/
namespace Go.Proofs.YtglkonccinpdnaaGreatDoor
open Go.ChangeShapes Go.WideShapes Go.ChangeAt Go.RowKit

theorem cellsHd : Tryz.prog.cellsOf 24 = 5 := by kernel_rfl
theorem cellsU64 : Tryz.prog.cellsOf 22 = 1 := by kernel_rfl
theorem five {α : Type} {cs : Array α} (h : cs.size = 5) : ∃ c0 c1 c2 c3 c4, cs = #[c0, c1, c2, c3, c4] := by
  obtain ⟨l⟩ := cs
  match l, h with
  | [c0, c1, c2, c3, c4], _ => exact ⟨c0, c1, c2, c3, c4, rfl⟩

set_option maxRecDepth 100000 in
theorem open_hd {H : Type} {enc : TypeId × Value → H} {w : World} {base b0 : Nat} {spare : Nat → Bool} {held : Bool} {r : Reach} {v : Value} {d : DataW H} {ps : List MemPlace}
    (hval : Value.okWide Tryz.prog w r b0 24 v) (hd : DataW.Trod enc Tryz.prog w base spare held 24 v d ps) :
    ∃ a b c e f : Int, v = .agg #[.int .u64 a, .int .u64 b, .int .u64 c, .int .u64 e, .int .u64 f] ∧ d = .agg [.lit (.int .u64 a), .lit (.int .u64 b), .lit (.int .u64 c), .lit (.int .u64 e), .lit (.int .u64 f)] ∧ ps = [] ∧
      (Lit.int .u64 a).wf = true ∧ (Lit.int .u64 b).wf = true ∧ (Lit.int .u64 c).wf = true ∧ (Lit.int .u64 e).wf = true ∧ (Lit.int .u64 f).wf = true := by
  obtain ⟨cs, rfl, hsz⟩ := okWide_struct Tryz.underlying24 hval
  rw [cellsHd] at hsz
  obtain ⟨c0, c1, c2, c3, c4, rfl⟩ := five hsz
  obtain ⟨fuel, hf⟩ := hd
  obtain ⟨xs, n, rfl, hx, _, hlen, hfs⟩ := DataW.trod_struct Tryz.underlying24 hf
  match xs, hlen with
  | [y0, y1, y2, y3, y4], _ =>
  obtain ⟨a, e0, rfl, wa⟩ := DataW.trod_int Tryz.underlying22 (hfs 0 _ rfl)
  obtain ⟨b, e1, rfl, wb⟩ := DataW.trod_int Tryz.underlying22 (hfs 1 _ rfl)
  obtain ⟨c, e2, rfl, wc⟩ := DataW.trod_int Tryz.underlying22 (hfs 2 _ rfl)
  obtain ⟨e, e3, rfl, we⟩ := DataW.trod_int Tryz.underlying22 (hfs 3 _ rfl)
  obtain ⟨f, e4, rfl, wf⟩ := DataW.trod_int Tryz.underlying22 (hfs 4 _ rfl)
  simp [Value.cells, cellsU64] at e0 e1 e2 e3 e4
  subst e0 e1 e2 e3 e4
  simp only [Prod.mk.injEq] at hx
  obtain ⟨rfl, rfl⟩ := hx
  exact ⟨a, b, c, e, f, rfl, rfl, rfl, wa, wb, wc, we, wf⟩

set_option maxRecDepth 100000 in
theorem shut_hd {H : Type} {enc : TypeId × Value → H} {w : World} {base : Nat} {spare : Nat → Bool} {held : Bool} {a b c e f : Int} (wa : (Lit.int .u64 a).wf = true) (wb : (Lit.int .u64 b).wf = true) (wc : (Lit.int .u64 c).wf = true) (we : (Lit.int .u64 e).wf = true) (wf : (Lit.int .u64 f).wf = true) :
    DataW.Trod enc Tryz.prog w base spare held 24 (.agg #[.int .u64 a, .int .u64 b, .int .u64 c, .int .u64 e, .int .u64 f]) (.agg [.lit (.int .u64 a), .lit (.int .u64 b), .lit (.int .u64 c), .lit (.int .u64 e), .lit (.int .u64 f)]) [] := ⟨2, by
  have f0 : ∀ x : Int, (Lit.int .u64 x).wf = true → DataW.trod enc Tryz.prog w base spare held 1 22 [.int .u64 x] = some (.lit (.int .u64 x), []) := fun x hx => by simp [DataW.trod, Tryz.underlying22, hx]
  have := trod_struct_mk (enc := enc) (w := w) (base := base) (spare := spare) (held := held) (n := 1) (cs := [.int .u64 a, .int .u64 b, .int .u64 c, .int .u64 e, .int .u64 f]) (xs := [(.lit (.int .u64 a), []), (.lit (.int .u64 b), []), (.lit (.int .u64 c), []), (.lit (.int .u64 e), []), (.lit (.int .u64 f), [])]) Tryz.underlying24 (by simp [cellsHd])
    (by simp [cellsU64, f0 a wa, f0 b wb, f0 c wc, f0 e we, f0 f wf])
  simpa [Value.cells] using this⟩
end Go.Proofs.YtglkonccinpdnaaGreatDoor
