/- FnUvCanon's walk: for every string of at most 2^12 bytes, the bytes of which impl.UvRead reads a number are those that impl.UvPut writes for it. -/
import Derived.Test.YticnifjmicipnaaDoorUvE
import Derived.Lib.QuietBelow
import Derived.Outline
namespace Go.Proofs.YticnifjmicipnaaDoor
open Go.RowKit Go.Sort

theorem cell_in {w : World} {a : Addr} {v : Value} (h : w.cell? a = some v) (d : Nat) (os : Array Obj) : (grow (redrawn w d) os).cell? a = some v := cell_regrown h d os
theorem extract_take (s : ByteArray) (m : Nat) (l : List UInt8) (h : s.data.toList.take m = l) : s.extract 0 m = ⟨l.toArray⟩ := by
  apply ByteArray.ext
  apply Array.toList_inj.1
  rw [← h]
  rw [Lib.extract_data]; simp

set_option maxRecDepth 100000 in
set_option maxHeartbeats 1000000 in
theorem law_UvCanon (s : ByteArray) (w : World) (hm : s.size ≤ 9223372036854775807) (T : TypeId) (p1 p2 p3 : Value)
    (h1 : w.cell? ⟨1, 0, none⟩ = some (.iface T p1)) (h2 : w.cell? ⟨2, 0, none⟩ = some (.iface T p2)) (h3 : w.cell? ⟨3, 0, none⟩ = some (.iface T p3)) :
    Calls Tryd.prog 6 #[.string s] w fun e w' => e = .returned (.bool true) ∧ Below w.heap.size w w' := by
  by_cases hz : 2147483647 < s.size
  · go_enter Tryd.func6, Tryd.ntmps6
    go_wp2
    go_ret
    exact ⟨rfl, Below.refl _ _⟩
  by_cases hz2 : 4096 < s.size
  · go_enter Tryd.func6, Tryd.ntmps6
    go_wp2
    go_ret
    exact ⟨rfl, Below.refl _ _⟩
  go_enter Tryd.func6, Tryd.ntmps6
  go_wp2_with fail
  refine (uvRead_any s w hm T p1 p2 p3 h1 h2 h3).mono ?_
  by_cases hok : ∃ x m, uvDec s.data.toList = .ok x m
  · obtain ⟨x, m, hd⟩ := hok
    obtain ⟨g1, g2, g3, _, g5⟩ := uvDec_ok hd
    have hx : x < 18446744073709551616 := Nat.lt_trans (uvDec_lt63 hd) (by decide)
    have hlen : s.data.toList.length = s.size := by rw [Array.length_toList]; rfl
    rw [hlen] at g2
    rw [hd]
    unfold UvR.plain
    dsimp only
    rintro e w1 ⟨rfl, hb1⟩
    have c1 := fun d os => Calls.regrown_of (uvOne_any (grow (redrawn w1 d) os) T p1 p2 p3 (cell_in (below_cell hb1 h1) d os) (cell_in (below_cell hb1 h2) d os) (cell_in (below_cell hb1 h3) d os))
    have c2 := fun d os => Calls.regrown_of (uvPut_any x (grow (redrawn w1 d) os) hx)
    have c3 := fun d os => Calls.regrown_of (w := w1) (d := d) (os := os) ((uvSizeI_any x (grow (redrawn w1 d) os) hx).mono fun e w' ⟨he, hw⟩ => ⟨he, hw ▸ Below.refl _ _⟩)
    have hs := extract_take s m _ g5
    have hl : (Lib.uvarint x).length = m := by rw [← g5, List.length_take]; omega
    rw [hl] at c3
    clear hd g5 hlen h1 h2 h3 hm hl
    have i1 : (1 : Int) ≤ m := by omega
    have i2 : (m : Int) ≤ s.size := by omega
    go_wp2_with fail
    refine wp_region_quiet_below (by kernel_rfl) (by kernel_rfl) ?_
    repeat (any_goals (first | go_big_quiet_step (first | exact c1 _ _ | exact c2 _ _ | exact c3 _ _) | quiet_step (first | exact c1 _ _ | exact c2 _ _ | exact c3 _ _)))
    refine wpQuiet_nil ?_
    intro _ hw'
    obtain ⟨⟨dq, osq⟩, hw''⟩ := hw'
    subst hw''
    go_wp2
    go_ret
    exact ⟨rfl, below_next hb1 (below_regrown w1 dq osq)⟩
  · have hp : (uvDec s.data.toList).plain = .tuple #[.int .u64 0, .int .i64 0, .bool false] := by
      cases hd : uvDec s.data.toList with
      | ok x m => exact absurd ⟨x, m, hd⟩ hok
      | _ => rfl
    rw [hp]
    clear hp hok
    rintro e w1 ⟨rfl, hb1⟩
    have c1 := fun d os => Calls.regrown_of (uvOne_any (grow (redrawn w1 d) os) T p1 p2 p3 (cell_in (below_cell hb1 h1) d os) (cell_in (below_cell hb1 h2) d os) (cell_in (below_cell hb1 h3) d os))
    clear h1 h2 h3 hm
    go_wp2_with fail
    refine wp_region_quiet_below (by kernel_rfl) (by kernel_rfl) ?_
    repeat (any_goals (first | go_big_quiet_step (first | exact c1 _ _) | quiet_step (first | exact c1 _ _)))
    refine wpQuiet_nil ?_
    intro _ hw'
    obtain ⟨⟨dq, osq⟩, hw''⟩ := hw'
    subst hw''
    go_wp2
    go_ret
    exact ⟨rfl, below_next hb1 (below_regrown w1 dq osq)⟩
end Go.Proofs.YticnifjmicipnaaDoor
