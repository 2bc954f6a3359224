import Derived.Test.YthfgnhgijgjggaaDoorUvB
namespace Go.Proofs.YthfgnhgijgjggaaDoor
open Go.RowKit

set_option maxRecDepth 100000 in
set_option maxHeartbeats 1000000 in
theorem fromUv_none (A : Option Addr) (c : Nat) (w : World) (T : TypeId) (p3 : Value) (h3 : w.cell? ⟨4, 0, none⟩ = some (.iface T p3)) :
    Calls Tryd.prog 79 #[.slice A 0 c] w fun e w' =>
      e = .returned (.tuple #[.int .u64 0, .int .i64 0, .iface T p3]) ∧ ∃ q, w' = w.drewN q := by
  go_enter Tryd.func79, Tryd.ntmps79
  go_wp2
  refine wp_loop_rounds 1 ?_
  rw [rounds_succ]
  go_wp2
  go_quiet (fail)
  go_wp2
  go_ret3
  exact ⟨rfl, _, rfl⟩

/-- varint.FromUvarint at whatever slice: it reads as uvDec says; its errors are the three sentinels. -/
theorem fromUv (A : Option Addr) (n c : Nat) (l : List UInt8) (w : World) (hs : BS w (.slice A n c) l) (hm : l.length ≤ 9223372036854775807)
    (T : TypeId) (p1 p2 p3 : Value)
    (h1 : w.cell? ⟨2, 0, none⟩ = some (.iface T p1)) (h2 : w.cell? ⟨3, 0, none⟩ = some (.iface T p2)) (h3 : w.cell? ⟨4, 0, none⟩ = some (.iface T p3)) :
    Calls Tryd.prog 79 #[.slice A n c] w fun e w' =>
      e = .returned ((uvDec l).val (.iface T p1) (.iface T p2) (.iface T p3)) ∧ ∃ q, w' = w.drewN q := by
  obtain ⟨hn, _⟩ := hs.slice
  rcases Nat.eq_zero_or_pos n with h0 | h0
  · subst h0
    have hl : l = [] := List.eq_nil_of_length_eq_zero hn.symm
    subst hl
    exact fromUv_none A c w T p3 h3
  · obtain ⟨b, o, rfl, hc⟩ := hs.at_ h0
    exact fromUv_any b o n c l w hn.symm (by omega) hc T p1 p2 p3 h1 h2 h3



/-- What impl.UvRead answers. -/
def UvR.plain : UvR → Value
  | .ok x m => .tuple #[.int .u64 x, .int .i64 m, .bool true]
  | _ => .tuple #[.int .u64 0, .int .i64 0, .bool false]

end Go.Proofs.YthfgnhgijgjggaaDoor
