/- Contracts: internalio.ToByteReader, index.ReadCodec, impl.IxCodec. FnIxCodec's walk. -/
import Derived.Test.YthfgnhgijgjggaaDoorRdD
import Derived.Test.YthfgnhgijgjggaaDoorCdQ
import Derived.Test.YthfgnhgijgjggaaDoorUvD
namespace Go.Proofs.YthfgnhgijgjggaaDoor
open Go.RowKit

set_option maxRecDepth 100000 in
set_option maxHeartbeats 1000000 in
theorem toByteReader (p : Nat) (w : World) : Calls Tryd.prog 106 #[rdV p] w fun e w' => e = .returned (rdV p) ∧ w' = w := by
  have hta : ∀ W, (Instr.typeAssert (rdV p) 165 192 true).run Tryd.prog W = .ok (.tuple #[rdV p, .bool true]) W := fun W => by kernel_rfl
  go_enter Tryd.func106, Tryd.ntmps106
  go_wp2
  go_ret
  exact ⟨rfl, rfl⟩

/-- What impl.IxCodec answers. -/
def UvR.ix : UvR → Value
  | .ok x _ => .tuple #[.int .u64 x, .bool true]
  | _ => .tuple #[.int .u64 0, .bool false]

theorem uvDec_1025 : uvDec (⟨#[129, 8]⟩ : ByteArray).data.toList = .ok 1025 2 := rfl

end Go.Proofs.YthfgnhgijgjggaaDoor
