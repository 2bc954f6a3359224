/- Contracts: (*bytes.Reader).ReadByte. -/
import Derived.Test.YthfgnhgijgjggaaDoorRdrB
import Derived.BigQuiet
namespace Go.Proofs.YthfgnhgijgjggaaDoor
open Go.RowKit

set_option maxRecDepth 100000 in
set_option maxHeartbeats 1000000 in
/-- A byte that is there is read. -/
theorem rdByte_some (p : Nat) (v : Value) (l : List UInt8) (i : Nat) (w : World) (hr : Rdr w p v l i) (hi : i < l.length) :
    Calls Tryd.prog 142 #[.pointer (some ⟨p, 0, none⟩)] w fun e w' => e = .returned (.tuple #[.int .u8 (l[i].toNat), .nilIface]) ∧ Rdr w' p v l (i + 1) ∧ Keep (fun k => k = p) w w' := by
  obtain ⟨⟨r, hrow⟩, hbs, hle, hfits⟩ := hr
  have HB := Lib.hid hbs
  obtain ⟨⟨A0, c0, rfl, hc0, hcl⟩, hout⟩ := hbs
  obtain ⟨b, o, rfl, hcl2⟩ := hcl (by omega)
  have hbp : ¬ p ≤ b := hout (by omega) _ _ _ _ rfl rfl
  have f2 : w.frozen? ⟨p, 2, none⟩ = false := frozen_of_row' (cur := [_, _, _]) hrow 2
  have h2 : w.cell? ⟨p, 2, none⟩ = some (.int .i64 r) := by rw [cell_of_row' (cur := [_, _, _]) hrow]; rfl
  have hcell := hcl2 i hi
  have k1 : Keep (fun k => k = p) w (w.setCell ⟨p, 2, none⟩ (.int .i64 (-1))) := Keep.setCell (S := fun k => k = p) (Keep.refl _ w) (show p = p from rfl) _ _
  have hrow2 := Lib.heap_setCell_same (i := 2) (w := w) hrow (.int .i64 (-1))
  obtain ⟨B, hB⟩ : ∃ B, B = l[i].toNat := ⟨_, rfl⟩
  rw [← hB] at hcell ⊢
  obtain ⟨N, hN⟩ : ∃ N, N = l.length := ⟨_, rfl⟩
  have HN := Lib.hid hN
  rw [← hN] at hi hfits
  clear hB hN hcl hcl2 hout hle hc0 hrow
  go_enter Tryd.func142, Tryd.ntmps142
  go_wp2
  generalize w.setCell ⟨p, 2, none⟩ (.int .i64 (-1)) = w2 at k1 hrow2 ⊢
  have hrow3 : w2.heap[p]? = some (.cells #[.slice (some ⟨b, o, none⟩) l.length c0, .int .i64 i, .int .i64 (-1)] 163 (0, 0)) := hrow2
  rw [← HN.out] at hrow3
  have h0 : w2.cell? ⟨p, 0, none⟩ = some (.slice (some ⟨b, o, none⟩) N c0) := by rw [cell_of_row' (cur := [_, _, _]) hrow3]; rfl
  have h1 : w2.cell? ⟨p, 1, none⟩ = some (.int .i64 i) := by rw [cell_of_row' (cur := [_, _, _]) hrow3]; rfl
  have f1 : w2.frozen? ⟨p, 1, none⟩ = false := frozen_of_row' (cur := [_, _, _]) hrow3 1
  have hc2 : w2.cell? ⟨b, o + i, none⟩ = some (.int .u8 B) := k1.cell hcell (by show ¬ b = p; omega)
  have HROW := Lib.hid hrow3
  clear hrow2 hrow3 f2 h2 hcell
  go_quiet (fail)
  go_wp2
  go_quiet (fail)
  go_wp2
  go_ret2
  refine ⟨rfl, ⟨⟨-1, ?_⟩, ?_, ?_, ?_⟩, ?_⟩
  · have h := Lib.heap_setCell_same (i := 1) HROW.out (.int .i64 ((i : Int) + 1))
    rw [← HN.out]
    exact h
  · exact HB.out.keep (Keep.setCell (S := fun k => p ≤ k) ((k1.mono fun _ _ h => by omega).drewN _) (Nat.le_refl p) _ _)
  · rw [← HN.out]; omega
  · rw [← HN.out]; exact hfits
  · exact Keep.setCell (S := fun k => k = p) (k1.drewN _) (show p = p from rfl) _ _

set_option maxRecDepth 100000 in
set_option maxHeartbeats 1000000 in
/-- Behind the last byte the end is told. -/
theorem rdByte_end (p : Nat) (v : Value) (l : List UInt8) (i : Nat) (w : World) (hr : Rdr w p v l i) (hi : i = l.length) (e0 : Addr) (he : ErrAt p w 0 e0) :
    Calls Tryd.prog 142 #[.pointer (some ⟨p, 0, none⟩)] w fun e w' => e = .returned (.tuple #[.int .u8 0, errV e0]) ∧ Rdr w' p v l i ∧ Keep (fun k => k = p) w w' := by
  obtain ⟨⟨r, hrow⟩, hbs, hle, hfits⟩ := hr
  have HB := Lib.hid hbs
  obtain ⟨⟨A0, c0, rfl, hc0, hcl⟩, hout⟩ := hbs
  have f2 : w.frozen? ⟨p, 2, none⟩ = false := frozen_of_row' (cur := [_, _, _]) hrow 2
  have h2 : w.cell? ⟨p, 2, none⟩ = some (.int .i64 r) := by rw [cell_of_row' (cur := [_, _, _]) hrow]; rfl
  have k1 : Keep (fun k => k = p) w (w.setCell ⟨p, 2, none⟩ (.int .i64 (-1))) := Keep.setCell (S := fun k => k = p) (Keep.refl _ w) (show p = p from rfl) _ _
  have hrow2 := Lib.heap_setCell_same (i := 2) (w := w) hrow (.int .i64 (-1))
  have he2 := (he.keep k1 (fun k hk => by omega)).cell
  clear hcl hout hc0 hrow he
  go_enter Tryd.func142, Tryd.ntmps142
  go_wp2
  generalize w.setCell ⟨p, 2, none⟩ (.int .i64 (-1)) = w2 at k1 hrow2 he2 ⊢
  have hrow3 : w2.heap[p]? = some (.cells #[.slice A0 l.length c0, .int .i64 i, .int .i64 (-1)] 163 (0, 0)) := hrow2
  have h0 : w2.cell? ⟨p, 0, none⟩ = some (.slice A0 l.length c0) := by rw [cell_of_row' (cur := [_, _, _]) hrow3]; rfl
  have h1 : w2.cell? ⟨p, 1, none⟩ = some (.int .i64 i) := by rw [cell_of_row' (cur := [_, _, _]) hrow3]; rfl
  have HROW := Lib.hid hrow3
  clear hrow2 hrow3 f2 h2
  go_quiet (fail)
  go_wp2
  go_quiet (fail)
  go_wp2
  go_ret2
  exact ⟨rfl, ⟨⟨-1, HROW.out⟩, HB.out.keep (S := fun k => p ≤ k) (((k1.mono fun _ _ h => by omega).drewN _).drewN _), by omega, hfits⟩, (k1.drewN _).drewN _⟩
end Go.Proofs.YthfgnhgijgjggaaDoor
