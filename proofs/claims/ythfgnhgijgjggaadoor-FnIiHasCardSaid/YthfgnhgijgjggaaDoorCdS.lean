/- Contracts: laws.cdOne, laws.cdGood. FnCdBytes' walk. -/
import Derived.Test.YthfgnhgijgjggaaDoorCdR
import Derived.Test.YthfgnhgijgjggaaDoorSpB
namespace Go.Proofs.YthfgnhgijgjggaaDoor
open Go.RowKit

def oneCid : CidD := ⟨1, 85, 0, [97]⟩
theorem one_tidy : oneCid.tidy := .inr ⟨rfl, by decide, by decide⟩
theorem uvarint0 : Lib.uvarint 0 = [0] := Lib.uvarint_small (by omega)
theorem uvarint85 : Lib.uvarint 85 = [85] := Lib.uvarint_small (by omega)
theorem one_enc : cidEnc oneCid = [1, 85, 0, 1, 97] := by
  show 1 :: (Lib.uvarint 85 ++ (Lib.uvarint 0 ++ (Lib.uvarint 1 ++ [97]))) = _
  rw [uvarint85, uvarint0, uvarint1]; rfl
theorem one_rd : cidRd [1, 85, 0, 1, 97] = some (oneCid, 5) := by
  have := cidRd_enc0 oneCid one_tidy (by decide)
  rw [one_enc] at this
  exact this

set_option maxRecDepth 100000 in
set_option maxHeartbeats 2000000 in
theorem cdOne_any (w : World) (hu : CdS w) :
    Calls Tryd.prog 24 #[] w fun e w' => e = .returned (.bool true) ∧ Below w.heap.size w w' := by
  have C1 := fun W (h : Below w.heap.size w W) => Lib.hid (cdBytesI 1 85 0 ⟨#[97]⟩ ⟨#[1, 85, 0, 1, 97]⟩ true W (fun w1 hb => by
    have := cidIn_ok oneCid one_tidy ⟨#[97]⟩ rfl (by decide) w1 ((hu.below h).below hb).toUvS
    rw [one_enc] at this
    exact this))
  have C2 := fun W (h : Below w.heap.size w W) => Lib.hid (cdReadI_ok ⟨#[1, 85, 0, 1, 97]⟩ W (by decide) (hu.below h) oneCid 5 one_rd)
  have heq := fun W => eqCid_same oneCid W
  rw [show cidVal oneCid = .agg #[.int .u64 1, .int .u64 85, .int .u64 0, .string ⟨#[97]⟩] from rfl] at heq C2
  rw [show ((5 : Nat) : Int) = 5 from rfl] at C2
  have h0 : Below w.heap.size w (w.alloc (.cells #[.int .u64 1, .int .u64 85, .int .u64 0, .string ⟨#[97]⟩] 26)) := (Below.refl _ _).alloc (Nat.le_refl _) _
  have r0 := heap_alloc_new w (.cells #[.int .u64 1, .int .u64 85, .int .u64 0, .string ⟨#[97]⟩] 26)
  have R0 := Lib.hid r0
  clear r0
  go_enter Tryd.func24, Tryd.ntmps24
  go_wp2_with fail
  refine (C1 _ h0).out.mono ?_
  rintro e w1 ⟨rfl, hb1⟩
  have h1 := below_next h0 hb1
  have r1 := row_below hb1 (block_of_row R0.out) R0.out
  have R1 := Lib.hid r1
  clear r1 hb1
  go_wp2_with fail
  refine (C2 _ h1).out.mono ?_
  rintro e w2 ⟨rfl, hb2⟩
  have h2 := below_next h1 hb2
  have r2 := row_below hb2 (block_of_row R1.out) R1.out
  have k0 := fun o => cell_of_row' (cur := [_, _, _, _]) (row_alloc r2 o) 0
  have k1 := fun o => cell_of_row' (cur := [_, _, _, _]) (row_alloc r2 o) 1
  have k2 := fun o => cell_of_row' (cur := [_, _, _, _]) (row_alloc r2 o) 2
  have k3 := fun o => cell_of_row' (cur := [_, _, _, _]) (row_alloc r2 o) 3
  clear r2 hb2 R1 R0 C1 C2
  go_wp2
  go_ret
  exact ⟨rfl, h2.alloc h2.size _⟩
end Go.Proofs.YthfgnhgijgjggaaDoor
