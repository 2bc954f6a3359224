/- Contracts: laws.cdGood. FnCdSame's walk: two identifiers have the same bytes just if they are equal. -/
import Derived.Test.YthfgnhgijgjggaaDoorCdT
namespace Go.Proofs.YthfgnhgijgjggaaDoor
open Go.RowKit

/-- laws.cdGood. -/
def CidD.good (x : CidD) (d : ByteArray) : Prop := d.size ≤ 4096 ∧ x.tidy

set_option maxRecDepth 100000 in
set_option maxHeartbeats 1000000 in
theorem cdGood_yes (x : CidD) (d : ByteArray) (hx : x.dig = d.data.toList) (hg : x.good d) (w : World) :
    Calls Tryd.prog 20 #[.agg #[.int .u64 x.ver, .int .u64 x.codec, .int .u64 x.code, .string d]] w fun e w' => e = .returned (.bool true) ∧ Below w.heap.size w w' := by
  obtain ⟨h1, ht⟩ := hg
  have hA : Below w.heap.size w (w.alloc (cidO x.ver x.codec x.code d)) := (Below.refl _ _).alloc (Nat.le_refl _) _
  have T := fun W => Lib.hid (spTidy_yes x d hx ht W)
  have h1' : decide (d.size ≤ 4096) = true := decide_eq_true h1
  clear hx ht
  generalize (x.ver : Int) = c0 at *
  generalize (x.codec : Int) = c1 at *
  generalize (x.code : Int) = c2 at *
  go_enter Tryd.func20, Tryd.ntmps20
  go_wp2_with fail
  refine (T _).out.mono ?_
  rintro e w1 ⟨rfl, hb1⟩
  go_wp2
  go_ret
  exact ⟨rfl, below_next hA hb1⟩

set_option maxRecDepth 100000 in
set_option maxHeartbeats 1000000 in
theorem cdGood_no (x : CidD) (d : ByteArray) (hx : x.dig = d.data.toList) (hg : ¬ x.good d) (w : World) :
    Calls Tryd.prog 20 #[.agg #[.int .u64 x.ver, .int .u64 x.codec, .int .u64 x.code, .string d]] w fun e w' => e = .returned (.bool false) ∧ Below w.heap.size w w' := by
  have hA : Below w.heap.size w (w.alloc (cidO x.ver x.codec x.code d)) := (Below.refl _ _).alloc (Nat.le_refl _) _
  by_cases h1 : d.size ≤ 4096
  · have ht : ¬ x.tidy := fun ht => hg ⟨h1, ht⟩
    have T := fun W => Lib.hid (spTidy_no x d hx ht W)
    have h1' : decide (d.size ≤ 4096) = true := decide_eq_true h1
    clear hx ht hg
    generalize (x.ver : Int) = c0 at *
    generalize (x.codec : Int) = c1 at *
    generalize (x.code : Int) = c2 at *
    go_enter Tryd.func20, Tryd.ntmps20
    go_wp2_with fail
    refine (T _).out.mono ?_
    rintro e w1 ⟨rfl, hb1⟩
    go_wp2
    go_ret
    exact ⟨rfl, below_next hA hb1⟩
  · have h1' : decide (d.size ≤ 4096) = false := decide_eq_false h1
    clear hx hg
    generalize (x.ver : Int) = c0 at *
    generalize (x.codec : Int) = c1 at *
    generalize (x.code : Int) = c2 at *
    go_enter Tryd.func20, Tryd.ntmps20
    go_wp2
    go_ret
    exact ⟨rfl, hA⟩

theorem eqCid_args (x y : CidD) (d f : ByteArray) (hx : x.dig = d.data.toList) (hy : y.dig = f.data.toList) (W : World) :
    (x = y → (binOp .eql 26 (.agg #[.int .u64 x.ver, .int .u64 x.codec, .int .u64 x.code, .string d]) (.agg #[.int .u64 y.ver, .int .u64 y.codec, .int .u64 y.code, .string f])).run Tryd.prog W = .ok (.bool true) W) ∧
    (x ≠ y → (binOp .eql 26 (.agg #[.int .u64 x.ver, .int .u64 x.codec, .int .u64 x.code, .string d]) (.agg #[.int .u64 y.ver, .int .u64 y.codec, .int .u64 y.code, .string f])).run Tryd.prog W = .ok (.bool false) W) := by
  have e1 : cidVal x = .agg #[.int .u64 x.ver, .int .u64 x.codec, .int .u64 x.code, .string d] := by unfold cidVal; rw [hx, ba_mk]
  have e2 : cidVal y = .agg #[.int .u64 y.ver, .int .u64 y.codec, .int .u64 y.code, .string f] := by unfold cidVal; rw [hy, ba_mk]
  rw [← e1, ← e2]
  exact ⟨fun h => by rw [h]; exact eqCid_same y W, fun h => eqCid_other x y h W⟩

end Go.Proofs.YthfgnhgijgjggaaDoor
