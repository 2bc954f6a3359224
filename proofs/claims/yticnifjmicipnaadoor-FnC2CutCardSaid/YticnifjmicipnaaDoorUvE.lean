import Derived.Test.YticnifjmicipnaaDoorUvD
import Derived.Outline
namespace Go.Proofs.YticnifjmicipnaaDoor
open Go.RowKit

theorem uvarint300 : Lib.uvarint 300 = [172, 2] := by
  rw [Lib.uvarint_big (by omega), Lib.uvarint_small (by omega)]; rfl
theorem uvDec_ac02 : uvDec [172, 2] = .ok 300 2 := rfl

set_option maxRecDepth 100000 in
set_option maxHeartbeats 1000000 in
theorem uvOne_any (w : World) (T : TypeId) (p1 p2 p3 : Value)
    (h1 : w.cell? ⟨1, 0, none⟩ = some (.iface T p1)) (h2 : w.cell? ⟨2, 0, none⟩ = some (.iface T p2)) (h3 : w.cell? ⟨3, 0, none⟩ = some (.iface T p3)) :
    Calls Tryd.prog 12 #[] w fun e w' => e = .returned (.bool true) ∧ Below w.heap.size w w' := by
  go_enter Tryd.func12, Tryd.ntmps12
  go_wp2_with fail
  refine (uvRead_any ⟨#[172, 2]⟩ w (by decide) T p1 p2 p3 h1 h2 h3).mono ?_
  rintro e w1 ⟨rfl, hb1⟩
  rw [show (⟨#[172, 2]⟩ : ByteArray).data.toList = [172, 2] from rfl, uvDec_ac02]
  unfold UvR.plain
  dsimp only
  go_wp2_with fail
  refine (uvPut_any 300 w1 (by omega)).mono ?_
  rintro e w2 ⟨rfl, hb2⟩
  rw [uvarint300]
  go_wp2
  go_ret
  exact ⟨rfl, below_next hb1 hb2⟩

set_option maxRecDepth 100000 in
set_option maxHeartbeats 1000000 in
theorem law_UvRead (s : ByteArray) (w : World) (hm : s.size ≤ 9223372036854775807) (T : TypeId) (p1 p2 p3 : Value)
    (h1 : w.cell? ⟨1, 0, none⟩ = some (.iface T p1)) (h2 : w.cell? ⟨2, 0, none⟩ = some (.iface T p2)) (h3 : w.cell? ⟨3, 0, none⟩ = some (.iface T p3)) :
    Calls Tryd.prog 5 #[.string s] w fun e w' => e = .returned (.bool true) ∧ Below w.heap.size w w' := by
  by_cases hz : 2147483647 < s.size
  · go_enter Tryd.func5, Tryd.ntmps5
    go_wp2
    go_ret
    exact ⟨rfl, Below.refl _ _⟩
  by_cases hz2 : 4096 < s.size
  · go_enter Tryd.func5, Tryd.ntmps5
    go_wp2
    go_ret
    exact ⟨rfl, Below.refl _ _⟩
  go_enter Tryd.func5, Tryd.ntmps5
  go_wp2_with fail
  refine (readVarint_any s w hm).mono ?_
  rintro e w' ⟨rfl, rfl⟩
  cases hd : uvDec s.data.toList <;> have HD := Lib.hid hd <;> clear hd <;> unfold UvR.spec <;> dsimp only <;> (
    go_wp2_with fail
    refine (uvRead_any s w hm T p1 p2 p3 h1 h2 h3).mono ?_
    rw [HD.out]
    unfold UvR.plain
    dsimp only
    rintro e w1 ⟨rfl, hb1⟩
    go_wp2_with fail
    refine (uvOne_any w1 T p1 p2 p3 (below_cell hb1 h1) (below_cell hb1 h2) (below_cell hb1 h3)).mono ?_
    rintro e w2 ⟨rfl, hb2⟩
    go_wp2
    go_ret
    exact ⟨rfl, below_next hb1 hb2⟩)
end Go.Proofs.YticnifjmicipnaaDoor
