/- Contracts, joined (CaD CaE CaF LwA RaA). -/
import Derived.Test.YtglkonccinpdnaaGreatDoorJCi1
import Derived.Test.YtglkonccinpdnaaGreatDoorJCi2
import Derived.Test.YtglkonccinpdnaaGreatDoorJCi6
import Derived.Test.YtglkonccinpdnaaGreatDoorJCi7
import Derived.Maps.AppendAt
import Derived.OwnWalk
import Derived.Laws.AppendOwn
import Derived.Lib.AppendZeros
/- Contracts: car.NewReader of a file of version 2. (genCaD.py) -/
namespace Go.Proofs.YtglkonccinpdnaaGreatDoor
open Go.RowKit

/-- A reader of archives: its header's numbers, its version, the reader below it. -/
abbrev crO (p : Nat) (a b c d e ver : Int) : Obj := .cells #[.int .u64 a, .int .u64 b, .int .u64 c, .int .u64 d, .int .u64 e, .int .u64 ver, rdV p, .slice none 0 0, .int .u64 0, .int .u64 0, .int .u64 1025, .bool false, .int .u64 2048, .bool false, .bool false, .bool false, .int .u64 9223372036854775807, .bool false, .bool false, .int .u64 33554432, .int .u64 8388608, .nilIface] 89 (0, 0)
abbrev crZ (p : Nat) : Obj := .cells #[.int .u64 0, .int .u64 0, .int .u64 0, .int .u64 0, .int .u64 0, .int .u64 0, rdV p, .slice none 0 0, .int .u64 0, .int .u64 0, .int .u64 0, .bool false, .int .u64 0, .bool false, .bool false, .bool false, .int .u64 0, .bool false, .bool false, .int .u64 0, .int .u64 0, .nilIface] 89 (0, 0)
/-- The options laid into it. -/
def stOpts (w : World) (cr : Nat) : World := (((((((((((((w.setCell ⟨cr, 8, none⟩ (.int .u64 0)).setCell ⟨cr, 9, none⟩ (.int .u64 0)).setCell ⟨cr, 10, none⟩ (.int .u64 1025)).setCell ⟨cr, 11, none⟩ (.bool false)).setCell ⟨cr, 12, none⟩ (.int .u64 2048)).setCell ⟨cr, 13, none⟩ (.bool false)).setCell ⟨cr, 14, none⟩ (.bool false)).setCell ⟨cr, 15, none⟩ (.bool false)).setCell ⟨cr, 16, none⟩ (.int .u64 9223372036854775807)).setCell ⟨cr, 17, none⟩ (.bool false)).setCell ⟨cr, 18, none⟩ (.bool false)).setCell ⟨cr, 19, none⟩ (.int .u64 33554432)).setCell ⟨cr, 20, none⟩ (.int .u64 8388608))
set_option maxHeartbeats 2000000 in
theorem stOpts_row {w : World} {cr p : Nat} (h0 : w.heap[cr]? = some (crZ p)) : (stOpts w cr).heap[cr]? = some (crO p 0 0 0 0 0 0) := by
  have h1 : (w.setCell ⟨cr, 8, none⟩ (.int .u64 0)).heap[cr]? = some (.cells #[.int .u64 0, .int .u64 0, .int .u64 0, .int .u64 0, .int .u64 0, .int .u64 0, rdV p, .slice none 0 0, .int .u64 0, .int .u64 0, .int .u64 0, .bool false, .int .u64 0, .bool false, .bool false, .bool false, .int .u64 0, .bool false, .bool false, .int .u64 0, .int .u64 0, .nilIface] 89 (0, 0)) := Lib.heap_setCell_same (i := 8) h0 _
  have h2 : ((w.setCell ⟨cr, 8, none⟩ (.int .u64 0)).setCell ⟨cr, 9, none⟩ (.int .u64 0)).heap[cr]? = some (.cells #[.int .u64 0, .int .u64 0, .int .u64 0, .int .u64 0, .int .u64 0, .int .u64 0, rdV p, .slice none 0 0, .int .u64 0, .int .u64 0, .int .u64 0, .bool false, .int .u64 0, .bool false, .bool false, .bool false, .int .u64 0, .bool false, .bool false, .int .u64 0, .int .u64 0, .nilIface] 89 (0, 0)) := Lib.heap_setCell_same (i := 9) h1 _
  have h3 : (((w.setCell ⟨cr, 8, none⟩ (.int .u64 0)).setCell ⟨cr, 9, none⟩ (.int .u64 0)).setCell ⟨cr, 10, none⟩ (.int .u64 1025)).heap[cr]? = some (.cells #[.int .u64 0, .int .u64 0, .int .u64 0, .int .u64 0, .int .u64 0, .int .u64 0, rdV p, .slice none 0 0, .int .u64 0, .int .u64 0, .int .u64 1025, .bool false, .int .u64 0, .bool false, .bool false, .bool false, .int .u64 0, .bool false, .bool false, .int .u64 0, .int .u64 0, .nilIface] 89 (0, 0)) := Lib.heap_setCell_same (i := 10) h2 _
  have h4 : ((((w.setCell ⟨cr, 8, none⟩ (.int .u64 0)).setCell ⟨cr, 9, none⟩ (.int .u64 0)).setCell ⟨cr, 10, none⟩ (.int .u64 1025)).setCell ⟨cr, 11, none⟩ (.bool false)).heap[cr]? = some (.cells #[.int .u64 0, .int .u64 0, .int .u64 0, .int .u64 0, .int .u64 0, .int .u64 0, rdV p, .slice none 0 0, .int .u64 0, .int .u64 0, .int .u64 1025, .bool false, .int .u64 0, .bool false, .bool false, .bool false, .int .u64 0, .bool false, .bool false, .int .u64 0, .int .u64 0, .nilIface] 89 (0, 0)) := Lib.heap_setCell_same (i := 11) h3 _
  have h5 : (((((w.setCell ⟨cr, 8, none⟩ (.int .u64 0)).setCell ⟨cr, 9, none⟩ (.int .u64 0)).setCell ⟨cr, 10, none⟩ (.int .u64 1025)).setCell ⟨cr, 11, none⟩ (.bool false)).setCell ⟨cr, 12, none⟩ (.int .u64 2048)).heap[cr]? = some (.cells #[.int .u64 0, .int .u64 0, .int .u64 0, .int .u64 0, .int .u64 0, .int .u64 0, rdV p, .slice none 0 0, .int .u64 0, .int .u64 0, .int .u64 1025, .bool false, .int .u64 2048, .bool false, .bool false, .bool false, .int .u64 0, .bool false, .bool false, .int .u64 0, .int .u64 0, .nilIface] 89 (0, 0)) := Lib.heap_setCell_same (i := 12) h4 _
  have h6 : ((((((w.setCell ⟨cr, 8, none⟩ (.int .u64 0)).setCell ⟨cr, 9, none⟩ (.int .u64 0)).setCell ⟨cr, 10, none⟩ (.int .u64 1025)).setCell ⟨cr, 11, none⟩ (.bool false)).setCell ⟨cr, 12, none⟩ (.int .u64 2048)).setCell ⟨cr, 13, none⟩ (.bool false)).heap[cr]? = some (.cells #[.int .u64 0, .int .u64 0, .int .u64 0, .int .u64 0, .int .u64 0, .int .u64 0, rdV p, .slice none 0 0, .int .u64 0, .int .u64 0, .int .u64 1025, .bool false, .int .u64 2048, .bool false, .bool false, .bool false, .int .u64 0, .bool false, .bool false, .int .u64 0, .int .u64 0, .nilIface] 89 (0, 0)) := Lib.heap_setCell_same (i := 13) h5 _
  have h7 : (((((((w.setCell ⟨cr, 8, none⟩ (.int .u64 0)).setCell ⟨cr, 9, none⟩ (.int .u64 0)).setCell ⟨cr, 10, none⟩ (.int .u64 1025)).setCell ⟨cr, 11, none⟩ (.bool false)).setCell ⟨cr, 12, none⟩ (.int .u64 2048)).setCell ⟨cr, 13, none⟩ (.bool false)).setCell ⟨cr, 14, none⟩ (.bool false)).heap[cr]? = some (.cells #[.int .u64 0, .int .u64 0, .int .u64 0, .int .u64 0, .int .u64 0, .int .u64 0, rdV p, .slice none 0 0, .int .u64 0, .int .u64 0, .int .u64 1025, .bool false, .int .u64 2048, .bool false, .bool false, .bool false, .int .u64 0, .bool false, .bool false, .int .u64 0, .int .u64 0, .nilIface] 89 (0, 0)) := Lib.heap_setCell_same (i := 14) h6 _
  have h8 : ((((((((w.setCell ⟨cr, 8, none⟩ (.int .u64 0)).setCell ⟨cr, 9, none⟩ (.int .u64 0)).setCell ⟨cr, 10, none⟩ (.int .u64 1025)).setCell ⟨cr, 11, none⟩ (.bool false)).setCell ⟨cr, 12, none⟩ (.int .u64 2048)).setCell ⟨cr, 13, none⟩ (.bool false)).setCell ⟨cr, 14, none⟩ (.bool false)).setCell ⟨cr, 15, none⟩ (.bool false)).heap[cr]? = some (.cells #[.int .u64 0, .int .u64 0, .int .u64 0, .int .u64 0, .int .u64 0, .int .u64 0, rdV p, .slice none 0 0, .int .u64 0, .int .u64 0, .int .u64 1025, .bool false, .int .u64 2048, .bool false, .bool false, .bool false, .int .u64 0, .bool false, .bool false, .int .u64 0, .int .u64 0, .nilIface] 89 (0, 0)) := Lib.heap_setCell_same (i := 15) h7 _
  have h9 : (((((((((w.setCell ⟨cr, 8, none⟩ (.int .u64 0)).setCell ⟨cr, 9, none⟩ (.int .u64 0)).setCell ⟨cr, 10, none⟩ (.int .u64 1025)).setCell ⟨cr, 11, none⟩ (.bool false)).setCell ⟨cr, 12, none⟩ (.int .u64 2048)).setCell ⟨cr, 13, none⟩ (.bool false)).setCell ⟨cr, 14, none⟩ (.bool false)).setCell ⟨cr, 15, none⟩ (.bool false)).setCell ⟨cr, 16, none⟩ (.int .u64 9223372036854775807)).heap[cr]? = some (.cells #[.int .u64 0, .int .u64 0, .int .u64 0, .int .u64 0, .int .u64 0, .int .u64 0, rdV p, .slice none 0 0, .int .u64 0, .int .u64 0, .int .u64 1025, .bool false, .int .u64 2048, .bool false, .bool false, .bool false, .int .u64 9223372036854775807, .bool false, .bool false, .int .u64 0, .int .u64 0, .nilIface] 89 (0, 0)) := Lib.heap_setCell_same (i := 16) h8 _
  have h10 : ((((((((((w.setCell ⟨cr, 8, none⟩ (.int .u64 0)).setCell ⟨cr, 9, none⟩ (.int .u64 0)).setCell ⟨cr, 10, none⟩ (.int .u64 1025)).setCell ⟨cr, 11, none⟩ (.bool false)).setCell ⟨cr, 12, none⟩ (.int .u64 2048)).setCell ⟨cr, 13, none⟩ (.bool false)).setCell ⟨cr, 14, none⟩ (.bool false)).setCell ⟨cr, 15, none⟩ (.bool false)).setCell ⟨cr, 16, none⟩ (.int .u64 9223372036854775807)).setCell ⟨cr, 17, none⟩ (.bool false)).heap[cr]? = some (.cells #[.int .u64 0, .int .u64 0, .int .u64 0, .int .u64 0, .int .u64 0, .int .u64 0, rdV p, .slice none 0 0, .int .u64 0, .int .u64 0, .int .u64 1025, .bool false, .int .u64 2048, .bool false, .bool false, .bool false, .int .u64 9223372036854775807, .bool false, .bool false, .int .u64 0, .int .u64 0, .nilIface] 89 (0, 0)) := Lib.heap_setCell_same (i := 17) h9 _
  have h11 : (((((((((((w.setCell ⟨cr, 8, none⟩ (.int .u64 0)).setCell ⟨cr, 9, none⟩ (.int .u64 0)).setCell ⟨cr, 10, none⟩ (.int .u64 1025)).setCell ⟨cr, 11, none⟩ (.bool false)).setCell ⟨cr, 12, none⟩ (.int .u64 2048)).setCell ⟨cr, 13, none⟩ (.bool false)).setCell ⟨cr, 14, none⟩ (.bool false)).setCell ⟨cr, 15, none⟩ (.bool false)).setCell ⟨cr, 16, none⟩ (.int .u64 9223372036854775807)).setCell ⟨cr, 17, none⟩ (.bool false)).setCell ⟨cr, 18, none⟩ (.bool false)).heap[cr]? = some (.cells #[.int .u64 0, .int .u64 0, .int .u64 0, .int .u64 0, .int .u64 0, .int .u64 0, rdV p, .slice none 0 0, .int .u64 0, .int .u64 0, .int .u64 1025, .bool false, .int .u64 2048, .bool false, .bool false, .bool false, .int .u64 9223372036854775807, .bool false, .bool false, .int .u64 0, .int .u64 0, .nilIface] 89 (0, 0)) := Lib.heap_setCell_same (i := 18) h10 _
  have h12 : ((((((((((((w.setCell ⟨cr, 8, none⟩ (.int .u64 0)).setCell ⟨cr, 9, none⟩ (.int .u64 0)).setCell ⟨cr, 10, none⟩ (.int .u64 1025)).setCell ⟨cr, 11, none⟩ (.bool false)).setCell ⟨cr, 12, none⟩ (.int .u64 2048)).setCell ⟨cr, 13, none⟩ (.bool false)).setCell ⟨cr, 14, none⟩ (.bool false)).setCell ⟨cr, 15, none⟩ (.bool false)).setCell ⟨cr, 16, none⟩ (.int .u64 9223372036854775807)).setCell ⟨cr, 17, none⟩ (.bool false)).setCell ⟨cr, 18, none⟩ (.bool false)).setCell ⟨cr, 19, none⟩ (.int .u64 33554432)).heap[cr]? = some (.cells #[.int .u64 0, .int .u64 0, .int .u64 0, .int .u64 0, .int .u64 0, .int .u64 0, rdV p, .slice none 0 0, .int .u64 0, .int .u64 0, .int .u64 1025, .bool false, .int .u64 2048, .bool false, .bool false, .bool false, .int .u64 9223372036854775807, .bool false, .bool false, .int .u64 33554432, .int .u64 0, .nilIface] 89 (0, 0)) := Lib.heap_setCell_same (i := 19) h11 _
  have h13 : (((((((((((((w.setCell ⟨cr, 8, none⟩ (.int .u64 0)).setCell ⟨cr, 9, none⟩ (.int .u64 0)).setCell ⟨cr, 10, none⟩ (.int .u64 1025)).setCell ⟨cr, 11, none⟩ (.bool false)).setCell ⟨cr, 12, none⟩ (.int .u64 2048)).setCell ⟨cr, 13, none⟩ (.bool false)).setCell ⟨cr, 14, none⟩ (.bool false)).setCell ⟨cr, 15, none⟩ (.bool false)).setCell ⟨cr, 16, none⟩ (.int .u64 9223372036854775807)).setCell ⟨cr, 17, none⟩ (.bool false)).setCell ⟨cr, 18, none⟩ (.bool false)).setCell ⟨cr, 19, none⟩ (.int .u64 33554432)).setCell ⟨cr, 20, none⟩ (.int .u64 8388608)).heap[cr]? = some (.cells #[.int .u64 0, .int .u64 0, .int .u64 0, .int .u64 0, .int .u64 0, .int .u64 0, rdV p, .slice none 0 0, .int .u64 0, .int .u64 0, .int .u64 1025, .bool false, .int .u64 2048, .bool false, .bool false, .bool false, .int .u64 9223372036854775807, .bool false, .bool false, .int .u64 33554432, .int .u64 8388608, .nilIface] 89 (0, 0)) := Lib.heap_setCell_same (i := 20) h12 _
  exact h13
theorem stOpts_keep (w : World) (cr : Nat) : Keep (fun k => k = cr) w (stOpts w cr) := ((((((((((((((Keep.refl (fun k => k = cr) w).setCell (p := cr) rfl 8 _).setCell (p := cr) rfl 9 _).setCell (p := cr) rfl 10 _).setCell (p := cr) rfl 11 _).setCell (p := cr) rfl 12 _).setCell (p := cr) rfl 13 _).setCell (p := cr) rfl 14 _).setCell (p := cr) rfl 15 _).setCell (p := cr) rfl 16 _).setCell (p := cr) rfl 17 _).setCell (p := cr) rfl 18 _).setCell (p := cr) rfl 19 _).setCell (p := cr) rfl 20 _)

theorem newOrs' (p off : Nat) (v : Value) (l : List UInt8) (z : Nat) (w : World) (hr : Rdr w p v l z) (hoff : off ≤ 4611686018427387904) (hl : l.length ≤ 4611686018427387904) :
    Calls Tryz.prog 35 #[rdV p, .int .i64 off] w fun e w' => e = .returned (.tuple #[orsV w.heap.size, .nilIface]) ∧ Ors w' w.heap.size p v l z off off ∧ Below w.heap.size w w' ∧ w'.heap.size = w.heap.size + 1 :=
  (newOrs p off w).mono (by
    rintro e w' ⟨rfl, rfl⟩
    exact ⟨rfl, Ors.start hr hoff hl, (Below.refl _ _).alloc (Nat.le_refl _) _, World.size_alloc _ _⟩)

set_option maxRecDepth 100000 in
set_option maxHeartbeats 2000000 in
theorem readV2 (cr p : Nat) (v : Value) (l : List UInt8) (z : Nat) (w : World) (hr : Rdr w p v l z) (hh : w.heap[cr]? = some (crO p 0 0 0 0 0 2)) (hpc : p < cr) (hok : hdOk l 11) (hl : l.length ≤ 4294967296) (e0 : Addr) (he : ErrAt p w 0 e0) :
    Calls Tryz.prog 59 #[.pointer (some ⟨cr, 0, none⟩)] w fun e w' => e = .returned .nilIface ∧ w'.heap[cr]? = some (crO p (leAt l 11 0) (leAt l 11 1) (leAt l 11 2) (leAt l 11 3) (leAt l 11 4) 2) ∧ Keep (fun k => k = cr) w w' := by
  have hcw := block_of_row hh
  have hB1 : Below w.heap.size w (w.alloc (secO p 11 11 51 40)) := (Below.refl _ _).alloc (Nat.le_refl _) _
  have hS : Sec (w.alloc (secO p 11 11 51 40)) w.heap.size p v l z 11 51 40 11 := ⟨heap_alloc_new w _, hr.below hB1, by omega, by omega, by have := hok.1; omega, by omega⟩
  have HC := Lib.hid (secHead_ok w.heap.size z 11 51 40 p cr v l 11 _ _ _ _ _ _ _ _ _ _ _ _ _ _ _ _ _ _ _ _ _ _ _ (w.alloc (secO p 11 11 51 40)) hS e0 (he.below hB1) (row_below hB1 hcw hh) (by omega) hpc hok (by omega))
  have HB1 := Lib.hid hB1
  have c6 := cell_of_row' (cur := [_, _, _, _, _, _, _, _, _, _, _, _, _, _, _, _, _, _, _, _, _, _]) hh 6
  clear hr hh hok he hS hB1
  go_enter Tryz.func59, Tryz.ntmps59
  go_wp2_with fail
  refine (newSec p w).mono ?_
  rintro e w1 ⟨rfl, rfl⟩
  go_wp2_with fail
  refine HC.out.mono ?_
  rintro e w2 ⟨rfl, hs2, hh2, hk2⟩
  have HH := Lib.hid hh2
  have HK := Lib.hid ((HB1.out.keep (S := fun k => k = cr)).trans2 hk2 (fun i hi e => by omega))
  clear hs2 hh2 hk2 HC
  go_wp2
  go_ret
  exact ⟨rfl, HH.out, HK.out⟩

set_option maxRecDepth 100000 in
set_option maxHeartbeats 4000000 in
theorem newReader2 (p : Nat) (v : Value) (l : List UInt8) (z : Nat) (vo : Value) (w : World) (ho : OptsAt w w.heap.size vo) (hr : Rdr w p v l z) (hpw : p < w.heap.size) (hp : l.take 11 = 10 :: pragB) (hok : hdOk l 11) (hl : l.length ≤ 4294967296) (e0 e1 : Addr) (t2 t3 : TypeId) (p2 p3 : Value) (he : UvErrs p w e0 e1 (.iface t2 p2) (.iface t3 p3)) :
    Calls Tryz.prog 33 #[rdV p, vo] w fun e w' => e = .returned (.tuple #[.pointer (some ⟨w.heap.size, 0, none⟩), .nilIface]) ∧ w'.heap[w.heap.size]? = some (crO p (leAt l 11 0) (leAt l 11 1) (leAt l 11 2) (leAt l 11 3) (leAt l 11 4) 2) ∧ Rdr w' p v l z ∧ Below w.heap.size w w' := by
  obtain ⟨cr, hcr⟩ : ∃ cr, cr = w.heap.size := ⟨_, rfl⟩
  have B1 : Below w.heap.size w (w.alloc (crZ p)) := (Below.refl _ _).alloc (Nat.le_refl _) _
  have r1 := heap_alloc_new w (crZ p)
  have z1 := World.size_alloc w (crZ p)
  have O1 := (ho.keep (S := fun _ => False) B1.keep (fun _ h => h.elim)).mono B1.size
  rw [← hcr] at r1
  have HA := Lib.hid (applyOpts vo _ O1)
  have HE := Lib.hid he
  have HR := Lib.hid hr
  have HP := Lib.hid hp
  have HOK := Lib.hid hok
  have HO := Lib.hid ho
  have HB1 := Lib.hid B1
  have HR1 := Lib.hid r1
  have HCR := Lib.hid hcr
  rw [← hcr]
  clear hr he hp hok ho O1 B1 r1 hcr
  go_enter Tryz.func33, Tryz.ntmps33
  go_wp2_with fail
  refine HA.out.mono ?_
  rintro e w1 ⟨rfl, hb1⟩
  rw [← HCR.out]
  have hw1 := hb1.size
  rw [z1] at hw1
  have r2 : w1.heap[cr]? = some (crZ p) := row_below hb1 (block_of_row HR1.out) HR1.out
  have hB1 : Below w.heap.size w w1 := below_next HB1.out hb1
  have hD : Rdr (stOpts w1 cr) p v l z := (HR.out.below hB1).keep (stOpts_keep w1 cr) (fun k hk => by have := HCR.out; omega)
  have hrow := stOpts_row r2
  have hkp := stOpts_keep w1 cr
  have hB2 : Below w.heap.size w (stOpts w1 cr) := hB1.trans (hkp.below (fun k h1 h2 => by have := HCR.out; omega) hB1.size)
  have HOR := Lib.hid (newOrs' p 0 v l z (stOpts w1 cr) hD (by omega) (by omega))
  have c8 := cell_of_row' (cur := [_, _, _, _, _, _, _, _, _, _, _, _, _, _, _, _, _, _, _, _, _, _]) r2 8
  have f8 := frozen_of_row' (cur := [_, _, _, _, _, _, _, _, _, _, _, _, _, _, _, _, _, _, _, _, _, _]) r2 8
  have c9 := cell_of_row' (cur := [_, _, _, _, _, _, _, _, _, _, _, _, _, _, _, _, _, _, _, _, _, _]) r2 9
  have f9 := frozen_of_row' (cur := [_, _, _, _, _, _, _, _, _, _, _, _, _, _, _, _, _, _, _, _, _, _]) r2 9
  have c10 := cell_of_row' (cur := [_, _, _, _, _, _, _, _, _, _, _, _, _, _, _, _, _, _, _, _, _, _]) r2 10
  have f10 := frozen_of_row' (cur := [_, _, _, _, _, _, _, _, _, _, _, _, _, _, _, _, _, _, _, _, _, _]) r2 10
  have c11 := cell_of_row' (cur := [_, _, _, _, _, _, _, _, _, _, _, _, _, _, _, _, _, _, _, _, _, _]) r2 11
  have f11 := frozen_of_row' (cur := [_, _, _, _, _, _, _, _, _, _, _, _, _, _, _, _, _, _, _, _, _, _]) r2 11
  have c12 := cell_of_row' (cur := [_, _, _, _, _, _, _, _, _, _, _, _, _, _, _, _, _, _, _, _, _, _]) r2 12
  have f12 := frozen_of_row' (cur := [_, _, _, _, _, _, _, _, _, _, _, _, _, _, _, _, _, _, _, _, _, _]) r2 12
  have c13 := cell_of_row' (cur := [_, _, _, _, _, _, _, _, _, _, _, _, _, _, _, _, _, _, _, _, _, _]) r2 13
  have f13 := frozen_of_row' (cur := [_, _, _, _, _, _, _, _, _, _, _, _, _, _, _, _, _, _, _, _, _, _]) r2 13
  have c14 := cell_of_row' (cur := [_, _, _, _, _, _, _, _, _, _, _, _, _, _, _, _, _, _, _, _, _, _]) r2 14
  have f14 := frozen_of_row' (cur := [_, _, _, _, _, _, _, _, _, _, _, _, _, _, _, _, _, _, _, _, _, _]) r2 14
  have c15 := cell_of_row' (cur := [_, _, _, _, _, _, _, _, _, _, _, _, _, _, _, _, _, _, _, _, _, _]) r2 15
  have f15 := frozen_of_row' (cur := [_, _, _, _, _, _, _, _, _, _, _, _, _, _, _, _, _, _, _, _, _, _]) r2 15
  have c16 := cell_of_row' (cur := [_, _, _, _, _, _, _, _, _, _, _, _, _, _, _, _, _, _, _, _, _, _]) r2 16
  have f16 := frozen_of_row' (cur := [_, _, _, _, _, _, _, _, _, _, _, _, _, _, _, _, _, _, _, _, _, _]) r2 16
  have c17 := cell_of_row' (cur := [_, _, _, _, _, _, _, _, _, _, _, _, _, _, _, _, _, _, _, _, _, _]) r2 17
  have f17 := frozen_of_row' (cur := [_, _, _, _, _, _, _, _, _, _, _, _, _, _, _, _, _, _, _, _, _, _]) r2 17
  have c18 := cell_of_row' (cur := [_, _, _, _, _, _, _, _, _, _, _, _, _, _, _, _, _, _, _, _, _, _]) r2 18
  have f18 := frozen_of_row' (cur := [_, _, _, _, _, _, _, _, _, _, _, _, _, _, _, _, _, _, _, _, _, _]) r2 18
  have c19 := cell_of_row' (cur := [_, _, _, _, _, _, _, _, _, _, _, _, _, _, _, _, _, _, _, _, _, _]) r2 19
  have f19 := frozen_of_row' (cur := [_, _, _, _, _, _, _, _, _, _, _, _, _, _, _, _, _, _, _, _, _, _]) r2 19
  have c20 := cell_of_row' (cur := [_, _, _, _, _, _, _, _, _, _, _, _, _, _, _, _, _, _, _, _, _, _]) r2 20
  have f20 := frozen_of_row' (cur := [_, _, _, _, _, _, _, _, _, _, _, _, _, _, _, _, _, _, _, _, _, _]) r2 20
  have HROW := Lib.hid hrow
  have HB2 := Lib.hid hB2
  clear hb1 r2 hB1 hD hrow hkp hB2 HA
  go_wp2_with fail
  refine HOR.out.mono ?_
  rintro e w2 ⟨rfl, hor, hb2, hz2⟩
  have hqs : w.heap.size + 1 ≤ (stOpts w1 cr).heap.size := Nat.le_trans hw1 (stOpts_keep w1 cr).size
  obtain ⟨q, hq⟩ : ∃ q, q = (stOpts w1 cr).heap.size := ⟨_, rfl⟩
  rw [← hq] at hor hz2 hqs ⊢
  have hB3 : Below w.heap.size w w2 := below_next HB2.out hb2
  have hrow2 := row_below hb2 (block_of_row HROW.out) HROW.out
  have hcq : cr ≠ q := by have := HCR.out; omega
  have HV := Lib.hid (readVersion_prag q p v l z 0 vo w2 ((HO.out.keep (S := fun _ => False) hB3.keep (fun _ h => h.elim)).mono hB3.size) hor HP.out hl e0 e1 t2 t3 p2 p3 (HE.out.keep (S := fun _ => False) hB3.keep (fun _ h => h.elim)))
  have HB3 := Lib.hid hB3
  have HROW2 := Lib.hid hrow2
  clear hor hb2 hq hB3 hrow2 HOR c8 f8 c9 f9 c10 f10 c11 f11 c12 f12 c13 f13 c14 f14 c15 f15 c16 f16 c17 f17 c18 f18 c19 f19 c20 f20
  go_wp2_with fail
  refine HV.out.mono ?_
  rintro e w3 ⟨rfl, hor3, hk3⟩
  have hrow3 := hk3.row HROW2.out hcq
  have c5 := cell_of_row' (cur := [_, _, _, _, _, _, _, _, _, _, _, _, _, _, _, _, _, _, _, _, _, _]) hrow3 5
  have f5 := frozen_of_row' (cur := [_, _, _, _, _, _, _, _, _, _, _, _, _, _, _, _, _, _, _, _, _, _]) hrow3 5
  have hrow4 : (w3.setCell ⟨cr, 5, none⟩ (.int .u64 2)).heap[cr]? = some (crO p 0 0 0 0 0 2) := Lib.heap_setCell_same (i := 5) hrow3 _
  have hk4 : Keep (fun k => k = cr) w3 (w3.setCell ⟨cr, 5, none⟩ (.int .u64 2)) := (Keep.refl (fun k => k = cr) w3).setCell (p := cr) rfl 5 _
  have hB4 : Below w.heap.size w w3 := HB3.out.trans (hk3.below (fun k h1 h2 => by omega) HB3.out.size)
  have hB5 : Below w.heap.size w (w3.setCell ⟨cr, 5, none⟩ (.int .u64 2)) := hB4.trans (hk4.below (fun k h1 h2 => by have := HCR.out; omega) hB4.size)
  have hR5 : Rdr (w3.setCell ⟨cr, 5, none⟩ (.int .u64 2)) p v l z := hor3.rdr.keep hk4 (fun k hk => by have := HCR.out; omega)
  have HRV := Lib.hid (readV2 cr p v l z _ hR5 hrow4 (by have := HCR.out; omega) HOK.out hl e0 (HE.out.eof.keep (S := fun k => w.heap.size ≤ k) ⟨hB5.os, hB5.tape, hB5.output, hB5.size, fun k h1 h2 => hB5.block k (by omega)⟩ (fun k hk => by omega)))
  have HB5 := Lib.hid hB5
  have HR5 := Lib.hid hR5
  clear hor3 hk3 hrow3 hrow4 hk4 hB4 hB5 hR5 HV HROW2
  go_wp2_with fail
  refine HRV.out.mono ?_
  rintro e w6 ⟨rfl, hrow6, hk6⟩
  have HROW6 := Lib.hid hrow6
  have HB6 := Lib.hid (HB5.out.trans (hk6.below (fun k h1 h2 => by have := HCR.out; omega) HB5.out.size))
  have HR6 := Lib.hid (HR5.out.keep hk6 (fun k hk => by have := HCR.out; omega))
  clear hrow6 hk6 HRV
  go_wp2
  go_ret2
  exact ⟨rfl, HROW6.out, HR6.out, by rw [HCR.out]; exact HB6.out⟩
end Go.Proofs.YtglkonccinpdnaaGreatDoor
/- Contracts: (*car.Reader).IndexReader. -/
namespace Go.Proofs.YtglkonccinpdnaaGreatDoor
open Go.RowKit

set_option maxRecDepth 100000 in
set_option maxHeartbeats 1000000 in
theorem hasIndex_no (a b c d : Int) (w : World) :
    Calls Tryz.prog 34 #[.agg #[.int .u64 a, .int .u64 b, .int .u64 c, .int .u64 d, .int .u64 0]] w fun e w' => e = .returned (.bool false) ∧ Below w.heap.size w w' := by
  have hB : Below w.heap.size w (w.alloc (.cells #[.int .u64 a, .int .u64 b, .int .u64 c, .int .u64 d, .int .u64 0] 79)) := (Below.refl _ _).alloc (Nat.le_refl _) _
  go_enter Tryz.func34, Tryz.ntmps34
  go_wp2
  go_ret
  exact ⟨rfl, hB⟩
set_option maxRecDepth 100000 in
set_option maxHeartbeats 1000000 in
theorem hasIndex_yes (a b c d x : Int) (hx : (x == 0) = false) (w : World) :
    Calls Tryz.prog 34 #[.agg #[.int .u64 a, .int .u64 b, .int .u64 c, .int .u64 d, .int .u64 x]] w fun e w' => e = .returned (.bool true) ∧ Below w.heap.size w w' := by
  have hB : Below w.heap.size w (w.alloc (.cells #[.int .u64 a, .int .u64 b, .int .u64 c, .int .u64 d, .int .u64 x] 79)) := (Below.refl _ _).alloc (Nat.le_refl _) _
  go_enter Tryz.func34, Tryz.ntmps34
  go_wp2
  go_ret
  exact ⟨by show Ending.returned (.bool (x != 0)) = _; rw [bne, hx]; rfl, hB⟩

set_option maxRecDepth 100000 in
set_option maxHeartbeats 2000000 in
theorem indexReader_no (cr p : Nat) (a b c d : Int) (w : World) (hh : w.heap[cr]? = some (crO p a b c d 0 2)) :
    Calls Tryz.prog 19 #[.pointer (some ⟨cr, 0, none⟩)] w fun e w' => e = .returned (.tuple #[.nilIface, .nilIface]) ∧ Below w.heap.size w w' := by
  have c0 := cell_of_row' (cur := [_, _, _, _, _, _, _, _, _, _, _, _, _, _, _, _, _, _, _, _, _, _]) hh 0
  have c1 := cell_of_row' (cur := [_, _, _, _, _, _, _, _, _, _, _, _, _, _, _, _, _, _, _, _, _, _]) hh 1
  have c2 := cell_of_row' (cur := [_, _, _, _, _, _, _, _, _, _, _, _, _, _, _, _, _, _, _, _, _, _]) hh 2
  have c3 := cell_of_row' (cur := [_, _, _, _, _, _, _, _, _, _, _, _, _, _, _, _, _, _, _, _, _, _]) hh 3
  have c4 := cell_of_row' (cur := [_, _, _, _, _, _, _, _, _, _, _, _, _, _, _, _, _, _, _, _, _, _]) hh 4
  have c5 := cell_of_row' (cur := [_, _, _, _, _, _, _, _, _, _, _, _, _, _, _, _, _, _, _, _, _, _]) hh 5
  clear hh
  go_enter Tryz.func19, Tryz.ntmps19
  go_wp2_with fail
  refine (hasIndex_no a b c d w).mono ?_
  rintro e w1 ⟨rfl, hb⟩
  have HB := Lib.hid hb
  clear hb
  go_wp2
  go_ret2
  exact ⟨rfl, HB.out⟩

set_option maxRecDepth 100000 in
set_option maxHeartbeats 2000000 in
theorem indexReader_yes (cr p x : Nat) (v : Value) (l : List UInt8) (z : Nat) (a b c d : Int) (w : World) (hh : w.heap[cr]? = some (crO p a b c d x 2)) (hx : 0 < x) (hxl : x ≤ l.length) (hl : l.length ≤ 4294967296) (hr : Rdr w p v l z) :
    Calls Tryz.prog 19 #[.pointer (some ⟨cr, 0, none⟩)] w fun e w' => ∃ q : Nat, e = .returned (.tuple #[orsV q, .nilIface]) ∧ w.heap.size ≤ q ∧ Ors w' q p v l z x x ∧ Below w.heap.size w w' := by
  have c0 := cell_of_row' (cur := [_, _, _, _, _, _, _, _, _, _, _, _, _, _, _, _, _, _, _, _, _, _]) hh 0
  have c1 := cell_of_row' (cur := [_, _, _, _, _, _, _, _, _, _, _, _, _, _, _, _, _, _, _, _, _, _]) hh 1
  have c2 := cell_of_row' (cur := [_, _, _, _, _, _, _, _, _, _, _, _, _, _, _, _, _, _, _, _, _, _]) hh 2
  have c3 := cell_of_row' (cur := [_, _, _, _, _, _, _, _, _, _, _, _, _, _, _, _, _, _, _, _, _, _]) hh 3
  have c4 := cell_of_row' (cur := [_, _, _, _, _, _, _, _, _, _, _, _, _, _, _, _, _, _, _, _, _, _]) hh 4
  have c5 := cell_of_row' (cur := [_, _, _, _, _, _, _, _, _, _, _, _, _, _, _, _, _, _, _, _, _, _]) hh 5
  have HH := Lib.hid hh
  have HR := Lib.hid hr
  have hx0 : ((x : Int) == 0) = false := by rw [beq_eq_false_iff_ne]; omega
  clear hh hr
  go_enter Tryz.func19, Tryz.ntmps19
  go_wp2_with fail
  refine (hasIndex_yes a b c d x hx0 w).mono ?_
  rintro e w1 ⟨rfl, hb⟩
  have hh1 := row_below hb (block_of_row HH.out) HH.out
  have k6 := cell_of_row' (cur := [_, _, _, _, _, _, _, _, _, _, _, _, _, _, _, _, _, _, _, _, _, _]) hh1 6
  have k4 := cell_of_row' (cur := [_, _, _, _, _, _, _, _, _, _, _, _, _, _, _, _, _, _, _, _, _, _]) hh1 4
  have hr1 : Rdr w1.drew p v l z := (HR.out.below hb).drew
  have HC := Lib.hid (newOrs' p x v l z w1.drew hr1 (by omega) (by omega))
  have hs1 := hb.size
  have HB := Lib.hid (hb.drewN 1)
  have hcv : IntKind.i64.wrap (x : Int) = x := IntWalk.i64_in _ (by omega)
  clear hb hh1 hr1 c0 c1 c2 c3 c4 c5
  go_wp2_with fail
  go_region_with (go_at_call 35; refine HC.out.mono ?_; rintro e w2 ⟨rfl, ho2, hb2, hz2⟩)
  all_goals
    have HO2 := Lib.hid ho2
    have HB2 := Lib.hid (below_next HB.out hb2)
    clear ho2 hb2 hz2 k6 k4 HC
    go_wp2
    go_ret2
    exact ⟨_, rfl, hs1, HO2.out, HB2.out⟩
end Go.Proofs.YtglkonccinpdnaaGreatDoor
/- Contract: impl.reader, over what car.NewReader gives. (genCaF.py) -/
namespace Go.Proofs.YtglkonccinpdnaaGreatDoor
open Go.RowKit
attribute [local go_sem] gives givesUpon evalOf look wants asBool

/-- []byte(s), told by what it is good for. -/
theorem conv_bs (s : ByteArray) (W : World) : ∃ v W', (convert 9 58 (.string s)).run Tryz.prog W = .ok v W' ∧ Below W.heap.size W W' ∧ BS W' v s.data.toList := by
  obtain ⟨c, w1, hconv, hc, hb, hsz, -, hcells⟩ := conv_bytes (P := Tryz.prog) Tryz.underlying9 Tryz.underlying58 Tryz.underlying5 W s
  refine ⟨_, w1, hconv, hb, ?_⟩
  have hl : s.data.toList.length = s.size := by rw [Array.length_toList]; rfl
  have := BS.of_cells (w := w1) (b := W.heap.size) (o := 0) (c := c) (l := s.data.toList) (by rw [hl]; exact hc) hcells
  rwa [hl] at this

/-- A reader of bytes, from block B on, at its beginning. -/
def NewR (l : List UInt8) (B : Nat) (f : Nat → Value) (v : Value) (w : World) : Prop := ∃ (p : Nat) (v' : Value), v = f p ∧ B ≤ p ∧ Rdr w p v' l 0
theorem NewR.on {l : List UInt8} {B : Nat} {f : Nat → Value} (v : Value) (w1 w2 : World) (hb : Below w1.heap.size w1 w2) (h : NewR l B f v w1) : NewR l B f v w2 := by
  obtain ⟨p, v', e, hB, h⟩ := h
  exact ⟨p, v', e, hB, h.below hb⟩
/-- A value made of a block of which R holds. -/
def Made (R : World → Nat → Prop) (f : Nat → Value) (v : Value) (w : World) : Prop := ∃ cr : Nat, v = f cr ∧ R w cr
abbrev ptrV (p : Nat) : Value := .pointer (some ⟨p, 0, none⟩)
abbrev pairV (cr : Nat) : Value := .tuple #[.pointer (some ⟨cr, 0, none⟩), .nilIface]

set_option linter.constructorNameAsVariable false in
set_option maxRecDepth 100000 in
set_option maxHeartbeats 8000000 in
theorem reader_any (s : ByteArray) (hs : s.size ≤ 4294967296) (w : World) (R : World → Nat → Prop) (hR : ∀ cr w1 w2, Below w1.heap.size w1 w2 → R w1 cr → R w2 cr)
    (hN : ∀ W p v' vo, Below w.heap.size w W → OptsAt W W.heap.size vo → Rdr W p v' s.data.toList 0 → w.heap.size ≤ p → Calls Tryz.prog 33 #[rdV p, vo] W fun e w' => ∃ cr, e = .returned (pairV cr) ∧ Below W.heap.size W w' ∧ R w' cr) :
    Calls Tryz.prog 18 #[.string s, optsIn] w fun e w' => ∃ cr, e = .returned (.tuple #[.pointer (some ⟨cr, 0, none⟩), .bool true]) ∧ R w' cr ∧ Below w.heap.size w w' := by
  have hl : s.data.toList.length ≤ 9223372036854775807 := by rw [Array.length_toList]; show s.size ≤ _; omega
  have B1 : Below w.heap.size w (w.alloc (.cells #[.bool false, .bool false, .bool false, .bool false, .bool false, .bool false, .int .u64 0, .int .u64 0, .int .u64 0, .int .u64 0, .int .u64 0, .int .u64 0] 30)) := (Below.refl _ _).alloc (Nat.le_refl _) _
  have r1 := heap_alloc_new w (.cells #[.bool false, .bool false, .bool false, .bool false, .bool false, .bool false, .int .u64 0, .int .u64 0, .int .u64 0, .int .u64 0, .int .u64 0, .int .u64 0] 30)
  have onR : ∀ f (v : Value) (w1 w2 : World), Below w1.heap.size w1 w2 → Made R f v w1 → Made R f v w2 := fun f v w1 w2 hb ⟨cr, e, h⟩ => ⟨cr, e, hR cr w1 w2 hb h⟩
  have HN := Lib.hid hN
  clear hN
  go_enter Tryz.func18, Tryz.ntmps18
  go_wp2_with fail
  obtain ⟨wd, hwd⟩ : ∃ wd, wd = (w.alloc (.cells #[.bool false, .bool false, .bool false, .bool false, .bool false, .bool false, .int .u64 0, .int .u64 0, .int .u64 0, .int .u64 0, .int .u64 0, .int .u64 0] 30)).drew := ⟨_, rfl⟩
  have h0 : Below w.heap.size w wd := by rw [hwd]; exact B1.drewN 1
  have hr : wd.heap[w.heap.size]? = some (.cells #[.bool false, .bool false, .bool false, .bool false, .bool false, .bool false, .int .u64 0, .int .u64 0, .int .u64 0, .int .u64 0, .int .u64 0, .int .u64 0] 30 (0, 0)) := by rw [hwd]; exact r1
  have K0 : ∀ W, Below wd.heap.size wd W → W.cell? ⟨w.heap.size, 0, none⟩ = some (.bool false) := fun W h => cell_of_row' (cur := [_, _, _, _, _, _, _, _, _, _, _, _]) (row_below h (block_of_row hr) hr) 0
  have K1 : ∀ W, Below wd.heap.size wd W → W.cell? ⟨w.heap.size, 1, none⟩ = some (.bool false) := fun W h => cell_of_row' (cur := [_, _, _, _, _, _, _, _, _, _, _, _]) (row_below h (block_of_row hr) hr) 1
  have K2 : ∀ W, Below wd.heap.size wd W → W.cell? ⟨w.heap.size, 2, none⟩ = some (.bool false) := fun W h => cell_of_row' (cur := [_, _, _, _, _, _, _, _, _, _, _, _]) (row_below h (block_of_row hr) hr) 2
  have K3 : ∀ W, Below wd.heap.size wd W → W.cell? ⟨w.heap.size, 3, none⟩ = some (.bool false) := fun W h => cell_of_row' (cur := [_, _, _, _, _, _, _, _, _, _, _, _]) (row_below h (block_of_row hr) hr) 3
  have K4 : ∀ W, Below wd.heap.size wd W → W.cell? ⟨w.heap.size, 4, none⟩ = some (.bool false) := fun W h => cell_of_row' (cur := [_, _, _, _, _, _, _, _, _, _, _, _]) (row_below h (block_of_row hr) hr) 4
  have K5 : ∀ W, Below wd.heap.size wd W → W.cell? ⟨w.heap.size, 5, none⟩ = some (.bool false) := fun W h => cell_of_row' (cur := [_, _, _, _, _, _, _, _, _, _, _, _]) (row_below h (block_of_row hr) hr) 5
  have K6 : ∀ W, Below wd.heap.size wd W → W.cell? ⟨w.heap.size, 6, none⟩ = some (.int .u64 0) := fun W h => cell_of_row' (cur := [_, _, _, _, _, _, _, _, _, _, _, _]) (row_below h (block_of_row hr) hr) 6
  have K7 : ∀ W, Below wd.heap.size wd W → W.cell? ⟨w.heap.size, 7, none⟩ = some (.int .u64 0) := fun W h => cell_of_row' (cur := [_, _, _, _, _, _, _, _, _, _, _, _]) (row_below h (block_of_row hr) hr) 7
  have K8 : ∀ W, Below wd.heap.size wd W → W.cell? ⟨w.heap.size, 8, none⟩ = some (.int .u64 0) := fun W h => cell_of_row' (cur := [_, _, _, _, _, _, _, _, _, _, _, _]) (row_below h (block_of_row hr) hr) 8
  have K9 : ∀ W, Below wd.heap.size wd W → W.cell? ⟨w.heap.size, 9, none⟩ = some (.int .u64 0) := fun W h => cell_of_row' (cur := [_, _, _, _, _, _, _, _, _, _, _, _]) (row_below h (block_of_row hr) hr) 9
  have K10 : ∀ W, Below wd.heap.size wd W → W.cell? ⟨w.heap.size, 10, none⟩ = some (.int .u64 0) := fun W h => cell_of_row' (cur := [_, _, _, _, _, _, _, _, _, _, _, _]) (row_below h (block_of_row hr) hr) 10
  have K11 : ∀ W, Below wd.heap.size wd W → W.cell? ⟨w.heap.size, 11, none⟩ = some (.int .u64 0) := fun W h => cell_of_row' (cur := [_, _, _, _, _, _, _, _, _, _, _, _]) (row_below h (block_of_row hr) hr) 11
  have h0s := h0.size
  clear B1 r1
  refine wp_region_below [some 9, some 10, some 11, some 12, some 13, some 14, some 15, some 8, some 16, some 17, some 6, some 7] (by kernel_rfl) (by kernel_rfl) (by kernel_rfl) (by kernel_rfl) ?_
  rw [← hwd]
  clear hwd
  refine Each.fixed ?_ (fun u W hle hk => ?_) ?_
  rotate_left
  · (go_simp
     exact rfl)
  refine Each.made (fun v W => BS W v s.data.toList) (fun v w1 w2 hb h => h.below hb) (fun u W hle hk => ?_) ?_
  · simp [knows, factAt, Region.binds] at hk
    obtain ⟨v, W', hc, hb, hbs⟩ := conv_bs s W
    have HB := Lib.hid hb
    have HS := Lib.hid hbs
    clear hb hbs
    go_simp
    exact ⟨HB.out, HS.out⟩
  refine Each.made (NewR s.data.toList w.heap.size ptrV) NewR.on (fun u W hle hk => ?_) ?_
  · simp [knows, factAt, Region.binds] at hk
    have HK := Lib.hid hk
    clear hk
    go_simp
    refine (newReader (u 1) s.data.toList W HK.out hl).mono ?_
    rintro e w' ⟨rfl, hr', hz', hb'⟩
    exact ⟨_, rfl, hb', W.heap.size, u 1, rfl, Nat.le_trans h0s (Below.size hle), hr'⟩
  refine Each.made (NewR s.data.toList w.heap.size rdV) NewR.on (fun u W hle hk => ?_) ?_
  · simp [knows, factAt, Region.binds] at hk
    obtain ⟨p, v', e, hB, hr'⟩ := hk
    have HRR := Lib.hid hr'
    clear hr'
    go_simp
    exact ⟨Below.refl _ _, p, v', rfl, hB, HRR.out⟩
  refine Each.fixed optsIn (fun u W hle hk => ?_) ?_
  · clear hk
    have q0 := K0 W hle
    have q1 := K1 W hle
    have q2 := K2 W hle
    have q3 := K3 W hle
    have q4 := K4 W hle
    have q5 := K5 W hle
    have q6 := K6 W hle
    have q7 := K7 W hle
    have q8 := K8 W hle
    have q9 := K9 W hle
    have q10 := K10 W hle
    have q11 := K11 W hle
    go_simp
  refine Each.made (fun v W => OptsAt W W.heap.size v) OptsAt.on (fun u W hle hk => ?_) ?_
  · simp [knows, factAt, Region.binds] at hk
    go_simp
    refine (options_none W).mono ?_
    rintro e w' ⟨vo, rfl, h1, h2⟩
    exact ⟨_, rfl, h2, h1⟩
  refine Each.made (Made R pairV) (onR pairV) (fun u W hle hk => ?_) ?_
  · simp [knows, factAt, Region.binds] at hk
    obtain ⟨⟨p, v', e, hB, hr'⟩, ho⟩ := hk
    have HC := Lib.hid (HN.out W p v' (u 5) (h0.trans (hle.mono h0s)) ho hr' hB)
    clear hr' ho
    go_simp
    refine HC.out.mono ?_
    rintro e' w' ⟨cr, rfl, h1, h2⟩
    exact ⟨_, rfl, h1, cr, rfl, h2⟩
  refine Each.made (Made R pairV) (onR pairV) (fun u W hle hk => ?_) ?_
  · simp [knows, factAt, Region.binds] at hk
    have HK := Lib.hid hk
    clear hk
    go_simp
    first | exact ⟨Below.refl _ _, HK.out⟩ | exact ⟨Below.refl _ _, HK.out.1⟩
  refine Each.made (Made R ptrV) (onR ptrV) (fun u W hle hk => ?_) ?_
  · simp [knows, factAt, Region.binds] at hk
    obtain ⟨cr, e, h2⟩ := hk
    have HK := Lib.hid h2
    clear h2
    go_simp
    exact ⟨Below.refl _ _, cr, rfl, HK.out⟩
  refine Each.fixed .nilIface (fun u W hle hk => ?_) ?_
  · simp [knows, factAt, Region.binds] at hk
    obtain ⟨cr, e, h2⟩ := hk
    clear h2
    go_simp
  refine Each.made (Made R ptrV) (onR ptrV) (fun u W hle hk => ?_) ?_
  · simp [knows, factAt, Region.binds] at hk
    have HK := Lib.hid hk
    clear hk
    go_simp
    exact ⟨Below.refl _ _, HK.out.1⟩
  refine Each.fixed .nilIface (fun u W hle hk => ?_) ?_
  · simp [knows, factAt, Region.binds] at hk
    have h9 := hk.1
    clear hk
    go_simp
  intro u W hle hf
  simp [allFacts] at hf
  obtain ⟨f0, f1, f2, f3, f4, f5, f6, f7, f8, f9, ⟨cr, f10, hRc⟩, f11⟩ := hf
  have HRC := Lib.hid hRc
  have HRM := Lib.hid hR
  have HB := Lib.hid (h0.trans (hle.mono h0s))
  clear f1 f2 f3 f5 f6 f7 f8 hRc K0 K1 K2 K3 K4 K5 K6 K7 K8 K9 K10 K11 hr h0 hle HN hR onR hl hs h0s
  simp only [fillD]
  go_simp
  generalize u 1 = z1
  generalize u 2 = z2
  generalize u 3 = z3
  generalize u 5 = z5
  generalize u 6 = z6
  generalize u 7 = z7
  generalize u 8 = z8
  clear f0 f4 f9 f10 f11 u
  go_wp2
  go_quiet (fail)
  go_wp2
  go_ret2
  exact ⟨_, rfl, HRM.out cr _ _ (below_drewN _ _ _) HRC.out, HB.out.drewN _⟩
end Go.Proofs.YtglkonccinpdnaaGreatDoor
/- Contract: impl.bytesOf: the bytes of strings, one slice each. -/
namespace Go.Proofs.YtglkonccinpdnaaGreatDoor
open Go.RowKit

/-- The slice value v holds the strings ss. -/
def SS (w : World) (v : Value) (ss : List ByteArray) : Prop :=
  ∃ (A : Option Addr) (c : Nat), v = .slice A ss.length c ∧ ss.length ≤ c ∧ (0 < ss.length → ∃ b o, A = some ⟨b, o, none⟩ ∧ ∀ (j : Nat) (s : ByteArray), ss[j]? = some s → w.cell? ⟨b, o + j, none⟩ = some (.string s))
theorem SS.below {w w' : World} {v : Value} {ss : List ByteArray} (h : SS w v ss) (hb : Below w.heap.size w w') : SS w' v ss := by
  obtain ⟨A, c, e, hc, h⟩ := h
  refine ⟨A, c, e, hc, fun hl => ?_⟩
  obtain ⟨b, o, e, h⟩ := h hl
  exact ⟨b, o, e, fun j s hj => below_cell hb (h j s hj)⟩

/-- x is a slice, from block lo on and not in row r, of the bytes of s. -/
def PartN (w : World) (lo : Nat) (r : Option Nat) (x : Value) (s : ByteArray) : Prop :=
  ∃ b c, x = .slice (some ⟨b, 0, none⟩) s.size c ∧ s.size ≤ c ∧ lo ≤ b ∧ b < w.heap.size ∧ some b ≠ r ∧ ∀ i (h : i < s.data.toList.length), w.cell? ⟨b, 0 + i, none⟩ = some (.int .u8 (s.data.toList[i].toNat))

theorem PartN.grown {w w2 : World} {lo : Nat} {row r2 : Option Nat} {x : Value} {s : ByteArray} (h : PartN w lo row x s) (hg : w.grownBy w2 row) (hr : r2 = row ∨ r2 = some w.heap.size) : PartN w2 lo r2 x s := by
  obtain ⟨b, c, e, hc, h1, h2, h3, h4⟩ := h
  refine ⟨b, c, e, hc, h1, Nat.lt_of_lt_of_le h2 hg.size, ?_, fun i hi => ?_⟩
  · rcases hr with rfl | rfl
    · exact h3
    · intro e; injection e; omega
  · rw [World.cell?_of_block (hg.block b h2 h3)]; exact h4 i hi
theorem PartN.below {w w2 : World} {lo : Nat} {row : Option Nat} {x : Value} {s : ByteArray} (h : PartN w lo row x s) (hg : Below w.heap.size w w2) : PartN w2 lo row x s := by
  obtain ⟨b, c, e, hc, h1, h2, h3, h4⟩ := h
  exact ⟨b, c, e, hc, h1, Nat.lt_of_lt_of_le h2 hg.size, h3, fun i hi => below_cell hg (h4 i hi)⟩

theorem ownsRow_below {w w' : World} {B size n : Nat} {e : TypeId} {v : Value} {xs : List Value} (h : w.ownsRow B e size v n xs) (hb : Below w.heap.size w w') : w'.ownsRow B e size v n xs := by
  refine ⟨h.1, ?_⟩
  rcases h.2 with h | ⟨g, cap, cur, hv, hbg, hg, rest⟩
  · exact .inl h
  · exact .inr ⟨g, cap, cur, hv, hbg, (hb.block g (block_of_row hg)).trans hg, rest⟩

/-- The slice value v (nil, or a row from block lo on) holds slices of the bytes of the strings ss, that lie from block lo on. -/
def Parts (w : World) (lo : Nat) (v : Value) (ss : List ByteArray) : Prop :=
  ∃ (A : Option Addr) (c : Nat), v = .slice A ss.length c ∧ ss.length ≤ c ∧ (0 < ss.length → ∃ g, A = some ⟨g, 0, none⟩ ∧ lo ≤ g ∧ g < w.heap.size ∧ ∀ (j : Nat) (s : ByteArray), ss[j]? = some s → ∃ x, w.cell? ⟨g, 0 + j, none⟩ = some x ∧ PartN w lo none x s)
theorem Parts.below {w w' : World} {lo : Nat} {v : Value} {ss : List ByteArray} (h : Parts w lo v ss) (hb : Below w.heap.size w w') : Parts w' lo v ss := by
  obtain ⟨A, c, e, hc, h⟩ := h
  refine ⟨A, c, e, hc, fun hl => ?_⟩
  obtain ⟨g, e, h1, h2, h⟩ := h hl
  refine ⟨g, e, h1, Nat.lt_of_lt_of_le h2 hb.size, fun j s hj => ?_⟩
  obtain ⟨x, hx, hp⟩ := h j s hj
  exact ⟨x, below_cell hb hx, hp.below hb⟩

theorem parts_of_own {w : World} {lo : Nat} {v : Value} {n : Nat} {xs : List Value} {e : TypeId} {ss : List ByteArray} (hn : ss.length = n) (ho : w.ownsRow lo e 1 v n xs) (hp : ∀ (j : Nat) (x : Value) (s : ByteArray), xs[j]? = some x → ss[j]? = some s → PartN w lo v.ownBlock x s) : Parts w lo v ss := by
  subst hn
  obtain ⟨hl, ho⟩ := ho
  rcases ho with ⟨rfl, h0⟩ | ⟨g, cap, cur, rfl, hbg, hg, hnc, hcm, hcs, ht⟩
  · exact ⟨none, 0, by rw [h0], by omega, fun h => by omega⟩
  · refine ⟨_, cap, rfl, hnc, fun _ => ⟨g, rfl, hbg, block_of_row hg, fun j s hj => ?_⟩⟩
    have hjs : j < ss.length := by
      rcases Nat.lt_or_ge j ss.length with h | h
      · exact h
      · rw [List.getElem?_eq_none h] at hj; cases hj
    have hjx : j < xs.length := by omega
    refine ⟨xs[j], ?_, ?_⟩
    · have hadd : (⟨g, 0 + j, none⟩ : Addr) = ⟨g, j, none⟩ := by rw [Nat.zero_add]
      rw [hadd, cell_of_row w g j cur e (0, 0) hg]
      have h3 : xs[j]? = some xs[j] := List.getElem?_eq_getElem hjx
      generalize xs[j] = y at h3
      rw [← ht, List.getElem?_take] at h3
      split at h3
      · rw [← Array.getElem?_toList]; exact h3
      · cases h3
    · obtain ⟨b, c, e1, h1, h2, h3, _, h5⟩ := hp j _ _ (List.getElem?_eq_getElem hjx) hj
      exact ⟨b, c, e1, h1, h2, h3, by simp, h5⟩

theorem info_bsl : ∃ i, Tryz.prog.info? 58 = some i ∧ i.zero = some (.slice none 0 0) ∧ i.size = 1 ∧ i.bytes = 24 := by
  have h : (Tryz.prog.info? 58).map (fun i => (i.zero, i.size, i.bytes)) = some (some (.slice none 0 0), 1, 24) := by kernel_rfl
  obtain ⟨i, hi, h2⟩ := Option.map_eq_some_iff.1 h
  simp only [Prod.mk.injEq] at h2
  exact ⟨i, hi, h2.1, h2.2.1, h2.2.2⟩

end Go.Proofs.YtglkonccinpdnaaGreatDoor
/- io.ReadAll over a reader at places: what holds between its rounds. -/
namespace Go.Proofs.YtglkonccinpdnaaGreatDoor
open Go.RowKit

/-- x is a slice of the bytes bs, in a block from lo on, below hi, that is not r. -/
def PartL (w : World) (lo hi : Nat) (r : Option Nat) (x : Value) (bs : List UInt8) : Prop :=
  ∃ b c, x = .slice (some ⟨b, 0, none⟩) bs.length c ∧ bs.length ≤ c ∧ lo ≤ b ∧ b < hi ∧ b < w.heap.size ∧ some b ≠ r ∧ ∀ i (h : i < bs.length), w.cell? ⟨b, 0 + i, none⟩ = some (.int .u8 (bs[i].toNat))
theorem PartL.keep {w w' : World} {lo hi hi' : Nat} {r r' : Option Nat} {x : Value} {bs : List UInt8} (h : PartL w lo hi r x bs) {S : Nat → Prop} (hk : Keep S w w') (hS : ∀ b, lo ≤ b → b < hi → some b ≠ r → ¬ S b) (hhi : hi ≤ hi') (hr : ∀ b, b < w.heap.size → some b ≠ r → some b ≠ r') : PartL w' lo hi' r' x bs := by
  obtain ⟨b, c, e, h1, h2, h3, h4, h5, h6⟩ := h
  exact ⟨b, c, e, h1, h2, Nat.lt_of_lt_of_le h3 hhi, Nat.lt_of_lt_of_le h4 hk.size, hr b h4 h5, fun i hi => hk.cell (h6 i hi) (hS b h2 h3 h5)⟩
/-- As many slices as texts, each a slice of its text. -/
def PartsL (w : World) (lo hi : Nat) (r : Option Nat) (xs : List Value) (bss : List (List UInt8)) : Prop := xs.length = bss.length ∧ ∀ (j : Nat) (x : Value) (bs : List UInt8), xs[j]? = some x → bss[j]? = some bs → PartL w lo hi r x bs
theorem PartsL.keep {w w' : World} {lo hi hi' : Nat} {r r' : Option Nat} {xs : List Value} {bss : List (List UInt8)} (h : PartsL w lo hi r xs bss) {S : Nat → Prop} (hk : Keep S w w') (hS : ∀ b, lo ≤ b → b < hi → some b ≠ r → ¬ S b) (hhi : hi ≤ hi') (hr : ∀ b, b < w.heap.size → some b ≠ r → some b ≠ r') : PartsL w' lo hi' r' xs bss :=
  ⟨h.1, fun j x bs h1 h2 => (h.2 j x bs h1 h2).keep hk hS hhi hr⟩
theorem PartsL.snoc {w : World} {lo hi : Nat} {r : Option Nat} {xs : List Value} {bss : List (List UInt8)} {x : Value} {bs : List UInt8} (h : PartsL w lo hi r xs bss) (hx : PartL w lo hi r x bs) : PartsL w lo hi r (xs ++ [x]) (bss ++ [bs]) := by
  refine ⟨by rw [List.length_append, List.length_append, h.1]; rfl, fun j y b h1 h2 => ?_⟩
  rcases Nat.lt_trichotomy j xs.length with hj | hj | hj
  · rw [List.getElem?_append_left hj] at h1
    rw [List.getElem?_append_left (by rw [← h.1]; exact hj)] at h2
    exact h.2 j y b h1 h2
  · subst hj
    rw [List.getElem?_append_right (Nat.le_refl _), Nat.sub_self] at h1
    rw [List.getElem?_append_right (by rw [h.1]; exact Nat.le_refl _), h.1, Nat.sub_self] at h2
    simp at h1 h2
    subst h1 h2
    exact hx
  · rw [List.getElem?_eq_none (by rw [List.length_append]; simp; omega)] at h1; cases h1

theorem ownsRow_keep {w w' : World} {B size n : Nat} {e : TypeId} {v : Value} {xs : List Value} {S : Nat → Prop} (h : w.ownsRow B e size v n xs) (hk : Keep S w w') (hS : ∀ k, S k → some k ≠ v.ownBlock) : w'.ownsRow B e size v n xs := by
  refine ⟨h.1, ?_⟩
  rcases h.2 with h | ⟨g, cap, cur, hv, hbg, hg, rest⟩
  · exact .inl h
  · exact .inr ⟨g, cap, cur, hv, hbg, (hk.block g (block_of_row hg) (fun hs => hS g hs (by rw [hv]; rfl))).trans hg, rest⟩
theorem keep_grown {w w' : World} {r : Option Nat} (h : w.grownBy w' r) : Keep (fun k => some k = r) w w' := ⟨h.os, h.tape, h.output, h.size, fun k hk hn => h.block k hk hn⟩

/-- Between two rounds: F bytes have been read, into m chunks, the next one has room for C bytes in block g. -/
structure RaS (w wr : World) (q p : Nat) (v : Value) (l : List UInt8) (z base off F N C g m : Nat) (ch : Value) (xs : List Value) (bss : List (List UInt8)) : Prop where
  ors : Ors wr q p v l z base (off + F)
  row : ∃ cur : List Value, wr.heap[g]? = some (.cells cur.toArray 5 (0, 0)) ∧ cur.length = C
  lo : w.heap.size ≤ g
  qw : q < w.heap.size
  own : wr.ownsRow w.heap.size 58 1 ch m xs
  gne : some g ≠ ch.ownBlock
  parts : PartsL wr w.heap.size g ch.ownBlock xs bss
  len : bss.length = m
  eq : bss.flatten = (l.drop off).take F
  fl : off + F ≤ l.length
  num : 256 ≤ N ∧ N ≤ 256 + 2 * F ∧ 2 * N ≤ 3 * C ∧ m * 256 ≤ F ∧ 256 ≤ C ∧ C ≤ 9223372036854775807
  keep : Keep (fun k => k = q) w wr

section
variable {w wr w1 w3 : World} {q p : Nat} {v : Value} {l : List UInt8} {z base off F N C g m : Nat} {ch ch' : Value} {xs : List Value} {bss : List (List UInt8)}

theorem RaS.gw (h : RaS w wr q p v l z base off F N C g m ch xs bss) : g < wr.heap.size := by obtain ⟨cur, h1, _⟩ := h.row; exact block_of_row h1

set_option maxRecDepth 100000 in
/-- A chunk has been filled, and a new one made. -/
theorem RaS.next (h : RaS w wr q p v l z base off F N C g m ch xs bss) (hk : Keep (fun k => k = g ∨ k = q) wr w1) (hr1 : Ors w1 q p v l z base (off + F + C)) (hC : off + F + C ≤ l.length)
    (hrow : w1.heap[g]? = some (.cells (Lib.byteCells ((l.drop (off + F)).take C)).toArray 5 (0, 0))) (o : Obj) (hg : (w1.alloc o).grownBy w3 ch.ownBlock)
    (hown : w3.ownsRow w.heap.size 58 1 ch' (m + 1) (xs ++ [.slice (some ⟨g, 0, none⟩) C C])) (hat : ch'.ownBlock = ch.ownBlock ∨ ch'.ownBlock = some (w1.alloc o).heap.size) (cs : List Value) (C' : Nat) (hcs : cs.length = C') (hN : N ≤ C') (hC' : C' ≤ 9223372036854775807) :
    RaS w (w3.drew.alloc (.cells cs.toArray 5)) q p v l z base off (F + C) (N + N / 2) C' w3.heap.size (m + 1) ch' (xs ++ [.slice (some ⟨g, 0, none⟩) C C]) (bss ++ [(l.drop (off + F)).take C]) := by
  obtain ⟨n1, n2, n3, n4, n5, n6⟩ := h.num
  have hgw := h.gw
  have hs1 := hk.size
  have hw := h.keep.size
  have hz2 : (w1.alloc o).heap.size = w1.heap.size + 1 := World.size_alloc _ _
  have hs3 : w1.heap.size + 1 ≤ w3.heap.size := by rw [← hz2]; exact hg.size
  have hbs : ((l.drop (off + F)).take C).length = C := by rw [List.length_take, List.length_drop]; omega
  have hlo := h.own.lt
  have hlo' := hown.lt
  have hpq := h.ors.lt
  have hqw := h.qw
  have K13 : Keep (fun k => some k = ch.ownBlock) w1 w3 := (((Keep.refl _ w1).alloc o)).trans (keep_grown hg)
  have K14 : Keep (fun k => some k = ch.ownBlock) w1 (w3.drew.alloc (.cells cs.toArray 5)) := K13.trans ((keep_drew _ w3).alloc _)
  have hS : ∀ k, some k = ch.ownBlock → w.heap.size ≤ k ∧ k < wr.heap.size := fun k hk => hlo k hk.symm
  have hr' : ∀ b, b < w1.heap.size → some b ≠ ch.ownBlock → some b ≠ ch'.ownBlock := by
    intro b hb hne
    rcases hat with h | h
    · rw [h]; exact hne
    · rw [h, hz2]; intro e; injection e; omega
  refine ⟨?_, ⟨cs, heap_alloc_new w3.drew _, hcs⟩, by omega, hqw, ?_, ?_, ?_, ?_, ?_, by omega, ⟨by omega, by omega, by omega, by omega, by omega, hC'⟩, ?_⟩
  · rw [← Nat.add_assoc]
    exact hr1.keep K14 (fun k hk => by have := hS k hk; omega)
  · exact ownsRow_keep hown ((keep_drew (fun _ => False) w3).alloc _) (fun _ h => h.elim)
  · intro e
    have := hlo' _ e.symm
    omega
  · have p1 := h.parts.keep hk (hi' := w3.heap.size) (r' := ch.ownBlock) (fun b h1 h2 _ => by omega) (by omega) (fun _ _ h => h)
    refine (PartsL.keep p1 K14 (fun b _ _ h3 => h3) (Nat.le_refl _) hr').snoc ?_
    refine ⟨g, C, by rw [hbs], by omega, h.lo, by omega, Nat.lt_of_lt_of_le (by omega : g < w1.heap.size) K14.size, hr' g (by omega) h.gne, fun i hi => ?_⟩
    refine K14.cell ?_ h.gne
    rw [Nat.zero_add, cell_of_row' hrow i]
    simp only [Lib.byteCells, List.getElem?_map, List.getElem?_eq_getElem hi, Option.map_some]
  · rw [List.length_append, h.len]; rfl
  · rw [List.flatten_append, h.eq, List.flatten_singleton, ← List.drop_drop]
    rw [List.take_add]
  · exact (h.keep.trans2 hk (fun i hi e => by have := h.lo; omega)).trans2 K14 (fun i hi e => by have := hS i e; omega)
end

/-- A row of one's own that holds the bytes bs. -/
theorem bs_of_own {w : World} {B n : Nat} {v : Value} {bs : List UInt8} (h : w.ownsRow B 5 1 v n (Lib.byteCells bs)) : ∃ A c, v = .slice A bs.length c ∧ BS w v bs := by
  obtain ⟨hl, h⟩ := h
  rw [Lib.byteCells_length, Nat.mul_one] at hl
  subst hl
  rcases h with ⟨rfl, h0⟩ | ⟨g, cap, cur, rfl, hb, hg, hc, _, hcs, ht⟩
  · have : bs = [] := List.eq_nil_of_length_eq_zero h0
    subst this
    exact ⟨none, 0, rfl, BS.nil _ _⟩
  · refine ⟨_, cap, rfl, BS.of_cells (o := 0) hc (fun j hj => ?_)⟩
    obtain ⟨cur⟩ := cur
    rw [Nat.zero_add, cell_of_row' (cur := cur) hg j]
    rw [Nat.mul_one] at ht
    have h1 := congrArg (fun l => l[j]?) ht
    simp only [List.getElem?_take, Lib.byteCells, List.getElem?_map] at h1
    rw [if_pos hj, List.getElem?_eq_getElem hj] at h1
    exact h1
end Go.Proofs.YtglkonccinpdnaaGreatDoor
