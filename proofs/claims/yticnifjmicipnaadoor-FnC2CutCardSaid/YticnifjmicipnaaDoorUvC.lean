import Derived.Test.YticnifjmicipnaaDoorUvB
namespace Go.Proofs.YticnifjmicipnaaDoor
open Go.RowKit

set_option maxRecDepth 100000 in
set_option maxHeartbeats 1000000 in
theorem fromUv_none (A : Option Addr) (c : Nat) (w : World) (T : TypeId) (p3 : Value) (h3 : w.cell? ⟨3, 0, none⟩ = some (.iface T p3)) :
    Calls Tryd.prog 24 #[.slice A 0 c] w fun e w' =>
      e = .returned (.tuple #[.int .u64 0, .int .i64 0, .iface T p3]) ∧ ∃ q, w' = w.drewN q := by
  go_enter Tryd.func24, Tryd.ntmps24
  go_wp2
  refine wp_loop_rounds 1 ?_
  rw [rounds_succ]
  go_wp2
  go_quiet (fail)
  go_wp2
  go_ret3
  exact ⟨rfl, _, rfl⟩

/-- varint.FromUvarint at whatever slice: it reads as uvDec says; its errors are the three sentinels. -/
theorem fromUv (A : Option Addr) (n c : Nat) (l : List UInt8) (w : World) (hs : BS w (.slice A n c) l) (hm : l.length ≤ 9223372036854775807)
    (T : TypeId) (p1 p2 p3 : Value)
    (h1 : w.cell? ⟨1, 0, none⟩ = some (.iface T p1)) (h2 : w.cell? ⟨2, 0, none⟩ = some (.iface T p2)) (h3 : w.cell? ⟨3, 0, none⟩ = some (.iface T p3)) :
    Calls Tryd.prog 24 #[.slice A n c] w fun e w' =>
      e = .returned ((uvDec l).val (.iface T p1) (.iface T p2) (.iface T p3)) ∧ ∃ q, w' = w.drewN q := by
  obtain ⟨hn, _⟩ := hs.slice
  rcases Nat.eq_zero_or_pos n with h0 | h0
  · subst h0
    have hl : l = [] := List.eq_nil_of_length_eq_zero hn.symm
    subst hl
    exact fromUv_none A c w T p3 h3
  · obtain ⟨b, o, rfl, hc⟩ := hs.at_ h0
    exact fromUv_any b o n c l w hn.symm (by omega) hc T p1 p2 p3 h1 h2 h3

set_option maxRecDepth 100000 in
set_option maxHeartbeats 1000000 in
theorem uvPut_any (x : Nat) (w : World) (hx : x < 18446744073709551616) :
    Calls Tryd.prog 11 #[.int .u64 x] w fun e w' => e = .returned (.string ⟨(Lib.uvarint x).toArray⟩) ∧ Below w.heap.size w w' := by
  go_enter Tryd.func11, Tryd.ntmps11
  go_wp2_with fail
  refine (toUv_any x w hx).mono ?_
  rintro e w1 ⟨rfl, hr, hb⟩
  have hc := (BS.of_row hr.out (Nat.le_refl _)).str Tryd.underlying34 Tryd.underlying5 Tryd.underlying9
  go_wp2
  go_ret
  exact ⟨rfl, hb⟩

set_option maxRecDepth 100000 in
theorem uvSizeI_any (x : Nat) (w : World) (hx : x < 18446744073709551616) :
    Calls Tryd.prog 15 #[.int .u64 x] w fun e w' => e = .returned (.int .i64 (Lib.uvarint x).length) ∧ w = w' := by
  go_enter Tryd.func15, Tryd.ntmps15
  go_wp2_with fail
  refine (uvSize_any x w hx).mono ?_
  rintro e w' ⟨rfl, rfl⟩
  go_wp2
  go_ret
  exact ⟨rfl, rfl⟩

/-- What impl.UvRead answers. -/
def UvR.plain : UvR → Value
  | .ok x m => .tuple #[.int .u64 x, .int .i64 m, .bool true]
  | _ => .tuple #[.int .u64 0, .int .i64 0, .bool false]

set_option maxRecDepth 100000 in
set_option maxHeartbeats 1000000 in
theorem uvRead_any (s : ByteArray) (w : World) (hm : s.size ≤ 9223372036854775807) (T : TypeId) (p1 p2 p3 : Value)
    (h1 : w.cell? ⟨1, 0, none⟩ = some (.iface T p1)) (h2 : w.cell? ⟨2, 0, none⟩ = some (.iface T p2)) (h3 : w.cell? ⟨3, 0, none⟩ = some (.iface T p3)) :
    Calls Tryd.prog 13 #[.string s] w fun e w' => e = .returned (uvDec s.data.toList).plain ∧ Below w.heap.size w w' := by
  obtain ⟨c, w1, hconv, hc, hb, hsz, _, hcells⟩ := conv_bytes (P := Tryd.prog) Tryd.underlying9 Tryd.underlying34 Tryd.underlying5 w s
  have hlen : s.data.toList.length = s.size := by rw [Array.length_toList]; rfl
  have HS := Lib.hid (BS.of_cells (w := w1) (b := w.heap.size) (o := 0) (c := c) (l := s.data.toList) (by omega) hcells)
  rw [hlen] at HS
  have H1 := Lib.hid (below_cell hb h1)
  have H2 := Lib.hid (below_cell hb h2)
  have H3 := Lib.hid (below_cell hb h3)
  clear hcells hsz h1 h2 h3
  have HL := Lib.hid hlen
  clear hlen
  go_enter Tryd.func13, Tryd.ntmps13
  go_wp2_with fail
  refine (fromUv _ _ _ _ w1 HS.out (by rw [HL.out]; exact hm) T p1 p2 p3 H1.out H2.out H3.out).mono ?_
  cases hd : uvDec s.data.toList <;> have HD := Lib.hid hd <;> clear hd <;> rintro e w2 ⟨rfl, q, rfl⟩ <;> unfold UvR.val <;> dsimp only <;> (
    go_wp2
    go_quiet (fail)
    go_wp2
    go_ret3
    exact ⟨by rw [HD.out]; rfl, (hb.drewN _).drewN _⟩)
end Go.Proofs.YticnifjmicipnaaDoor
