/-
  DERIVED: THE SHELF's CONTRACTS AT THIS DUMP, IN PLAIN WORDS (tools/lay-plain.mjs out of 'TryzShelf.lean', which tools/lay-shelf.mjs wrote): THE SAME DECLARATIONS UNDER THE SAME NAMES: 'import', 'namespace', 'open', 'def', 'theorem' AND NOTHING ELSE: no command of the shelf's: FOR A HAND-IN. Each laying: the table of numbers ('.._ren') and one theorem, a field a fact of the dump's own or the kernel's comparison; each contract: ONE APPLICATION.
-/
import Derived.Ground.MnProg
import Derived.Shelf.Bin.LEUint64
import Derived.Shelf.Bin.BEUint16
import Derived.Shelf.Bin.BEUint32
import Derived.Shelf.Bin.BEUint64
import Derived.Shelf.Bin.LEUint64Panics
import Derived.Shelf.Bin.BEUint16Panics
import Derived.Shelf.Bin.BEUint32Panics
import Derived.Shelf.Bin.BEUint64Panics
import Derived.Shelf.Bin.ReadersZ
import Derived.Test.YtglkonccinpdnaaGreatDoorProg
namespace Go.Proofs
open Go.Shelf
def Tryz.laysBin33_ren : Go.Shelf.Ren := ⟨fun | 33 => 90 | n => n, fun | 25 => 183 | 22 => 58 | 33 => 22 | 0 => 0 | 5 => 5 | 45 => 99 | n => n, fun | n => n⟩
theorem Tryz.laysBin33 : Go.Proofs.LaysBin.n33 Tryz.prog Tryz.laysBin33_ren := {
  mixed := by kernel_rfl
  f33 := Tryz.func90.trans (congrArg some (by kernel_rfl))
  t0 := Tryz.underlying0
  a0 := Tryz.isAgg0
  z0 := Tryz.sizeOf0
  v0 := Tryz.zeroValue0
  i0 := by kernel_rfl
  t5 := Tryz.underlying5
  a5 := Tryz.isAgg5
  z5 := Tryz.sizeOf5
  v5 := Tryz.zeroValue5
  i5 := by kernel_rfl
  t22 := Tryz.underlying58
  a22 := Tryz.isAgg58
  z22 := Tryz.sizeOf58
  v22 := Tryz.zeroValue58
  i22 := by kernel_rfl
  t25 := Tryz.underlying183
  a25 := Tryz.isAgg183
  z25 := Tryz.sizeOf183
  v25 := Tryz.zeroValue183
  i25 := by kernel_rfl
  t33 := Tryz.underlying22
  a33 := Tryz.isAgg22
  z33 := Tryz.sizeOf22
  v33 := Tryz.zeroValue22
  i33 := by kernel_rfl
  t45 := Tryz.underlying99
  a45 := Tryz.isAgg99
  z45 := Tryz.sizeOf99
  v45 := Tryz.zeroValue99
  i45 := by kernel_rfl }
open Go.RowKit in
/-- binary.LittleEndian.Uint64: "Uint64 returns the uint64 representation of b[0:8].": THE NUMBER THAT THE FIRST 8 BYTES SPELL, the least byte first ('Lib.leNat'). Of what was there nothing has turned (the receiver, an empty struct, is laid in a new block without cells; the statement's order is drawn). (LAID: no walk: one application.) -/
theorem Tryz.binary_LE_Uint64 (g o n c : Nat) (b0 b1 b2 b3 b4 b5 b6 b7 : UInt8) (w : World) (hn : 8 ≤ n) (c0 : w.cell? ⟨g, o, none⟩ = some (.int .u8 b0.toNat)) (c1 : w.cell? ⟨g, o + 1, none⟩ = some (.int .u8 b1.toNat)) (c2 : w.cell? ⟨g, o + 2, none⟩ = some (.int .u8 b2.toNat)) (c3 : w.cell? ⟨g, o + 3, none⟩ = some (.int .u8 b3.toNat)) (c4 : w.cell? ⟨g, o + 4, none⟩ = some (.int .u8 b4.toNat)) (c5 : w.cell? ⟨g, o + 5, none⟩ = some (.int .u8 b5.toNat)) (c6 : w.cell? ⟨g, o + 6, none⟩ = some (.int .u8 b6.toNat)) (c7 : w.cell? ⟨g, o + 7, none⟩ = some (.int .u8 b7.toNat)) :
    Calls Tryz.prog 90 #[.agg #[], .slice (some ⟨g, o, none⟩) n c] w fun e w' => e = .returned (.int .u64 (Lib.leNat [b0, b1, b2, b3, b4, b5, b6, b7])) ∧ Below w.heap.size w w' := Any.binary_LE_Uint64 Tryz.laysBin33 g o n c b0 b1 b2 b3 b4 b5 b6 b7 w hn c0 c1 c2 c3 c4 c5 c6 c7
def Tryz.laysBin36_ren : Go.Shelf.Ren := ⟨fun | 36 => 121 | n => n, fun | 37 => 248 | 22 => 58 | 23 => 247 | 0 => 0 | 5 => 5 | 45 => 99 | n => n, fun | n => n⟩
theorem Tryz.laysBin36 : Go.Proofs.LaysBin.n36 Tryz.prog Tryz.laysBin36_ren := {
  mixed := by kernel_rfl
  f36 := Tryz.func121.trans (congrArg some (by kernel_rfl))
  t0 := Tryz.underlying0
  a0 := Tryz.isAgg0
  z0 := Tryz.sizeOf0
  v0 := Tryz.zeroValue0
  i0 := by kernel_rfl
  t5 := Tryz.underlying5
  a5 := Tryz.isAgg5
  z5 := Tryz.sizeOf5
  v5 := Tryz.zeroValue5
  i5 := by kernel_rfl
  t22 := Tryz.underlying58
  a22 := Tryz.isAgg58
  z22 := Tryz.sizeOf58
  v22 := Tryz.zeroValue58
  i22 := by kernel_rfl
  t23 := Tryz.underlying247
  a23 := Tryz.isAgg247
  z23 := Tryz.sizeOf247
  v23 := Tryz.zeroValue247
  i23 := by kernel_rfl
  t37 := Tryz.underlying248
  a37 := Tryz.isAgg248
  z37 := Tryz.sizeOf248
  v37 := Tryz.zeroValue248
  i37 := by kernel_rfl
  t45 := Tryz.underlying99
  a45 := Tryz.isAgg99
  z45 := Tryz.sizeOf99
  v45 := Tryz.zeroValue99
  i45 := by kernel_rfl }
open Go.RowKit in
/-- binary.BigEndian.Uint16: "Uint16 returns the uint16 representation of b[0:2].": THE NUMBER THAT THE FIRST 2 BYTES SPELL, the greatest byte first ('Lib.beNat'). Of what was there nothing has turned (the receiver, an empty struct, is laid in a new block without cells; the statement's order is drawn). (LAID: no walk: one application.) -/
theorem Tryz.binary_BE_Uint16 (g o n c : Nat) (b0 b1 : UInt8) (w : World) (hn : 2 ≤ n) (c0 : w.cell? ⟨g, o, none⟩ = some (.int .u8 b0.toNat)) (c1 : w.cell? ⟨g, o + 1, none⟩ = some (.int .u8 b1.toNat)) :
    Calls Tryz.prog 121 #[.agg #[], .slice (some ⟨g, o, none⟩) n c] w fun e w' => e = .returned (.int .u16 (Lib.beNat [b0, b1])) ∧ Below w.heap.size w w' := Any.binary_BE_Uint16 Tryz.laysBin36 g o n c b0 b1 w hn c0 c1
def Tryz.laysBin39_ren : Go.Shelf.Ren := ⟨fun | 39 => 122 | n => n, fun | 37 => 248 | 22 => 58 | 29 => 245 | 0 => 0 | 5 => 5 | 45 => 99 | n => n, fun | n => n⟩
theorem Tryz.laysBin39 : Go.Proofs.LaysBin.n39 Tryz.prog Tryz.laysBin39_ren := {
  mixed := by kernel_rfl
  f39 := Tryz.func122.trans (congrArg some (by kernel_rfl))
  t0 := Tryz.underlying0
  a0 := Tryz.isAgg0
  z0 := Tryz.sizeOf0
  v0 := Tryz.zeroValue0
  i0 := by kernel_rfl
  t5 := Tryz.underlying5
  a5 := Tryz.isAgg5
  z5 := Tryz.sizeOf5
  v5 := Tryz.zeroValue5
  i5 := by kernel_rfl
  t22 := Tryz.underlying58
  a22 := Tryz.isAgg58
  z22 := Tryz.sizeOf58
  v22 := Tryz.zeroValue58
  i22 := by kernel_rfl
  t29 := Tryz.underlying245
  a29 := Tryz.isAgg245
  z29 := Tryz.sizeOf245
  v29 := Tryz.zeroValue245
  i29 := by kernel_rfl
  t37 := Tryz.underlying248
  a37 := Tryz.isAgg248
  z37 := Tryz.sizeOf248
  v37 := Tryz.zeroValue248
  i37 := by kernel_rfl
  t45 := Tryz.underlying99
  a45 := Tryz.isAgg99
  z45 := Tryz.sizeOf99
  v45 := Tryz.zeroValue99
  i45 := by kernel_rfl }
open Go.RowKit in
/-- binary.BigEndian.Uint32: "Uint32 returns the uint32 representation of b[0:4].": THE NUMBER THAT THE FIRST 4 BYTES SPELL, the greatest byte first ('Lib.beNat'). Of what was there nothing has turned (the receiver, an empty struct, is laid in a new block without cells; the statement's order is drawn). (LAID: no walk: one application.) -/
theorem Tryz.binary_BE_Uint32 (g o n c : Nat) (b0 b1 b2 b3 : UInt8) (w : World) (hn : 4 ≤ n) (c0 : w.cell? ⟨g, o, none⟩ = some (.int .u8 b0.toNat)) (c1 : w.cell? ⟨g, o + 1, none⟩ = some (.int .u8 b1.toNat)) (c2 : w.cell? ⟨g, o + 2, none⟩ = some (.int .u8 b2.toNat)) (c3 : w.cell? ⟨g, o + 3, none⟩ = some (.int .u8 b3.toNat)) :
    Calls Tryz.prog 122 #[.agg #[], .slice (some ⟨g, o, none⟩) n c] w fun e w' => e = .returned (.int .u32 (Lib.beNat [b0, b1, b2, b3])) ∧ Below w.heap.size w w' := Any.binary_BE_Uint32 Tryz.laysBin39 g o n c b0 b1 b2 b3 w hn c0 c1 c2 c3
def Tryz.laysBin42_ren : Go.Shelf.Ren := ⟨fun | 42 => 124 | n => n, fun | 37 => 248 | 22 => 58 | 33 => 22 | 0 => 0 | 5 => 5 | 45 => 99 | n => n, fun | n => n⟩
theorem Tryz.laysBin42 : Go.Proofs.LaysBin.n42 Tryz.prog Tryz.laysBin42_ren := {
  mixed := by kernel_rfl
  f42 := Tryz.func124.trans (congrArg some (by kernel_rfl))
  t0 := Tryz.underlying0
  a0 := Tryz.isAgg0
  z0 := Tryz.sizeOf0
  v0 := Tryz.zeroValue0
  i0 := by kernel_rfl
  t5 := Tryz.underlying5
  a5 := Tryz.isAgg5
  z5 := Tryz.sizeOf5
  v5 := Tryz.zeroValue5
  i5 := by kernel_rfl
  t22 := Tryz.underlying58
  a22 := Tryz.isAgg58
  z22 := Tryz.sizeOf58
  v22 := Tryz.zeroValue58
  i22 := by kernel_rfl
  t33 := Tryz.underlying22
  a33 := Tryz.isAgg22
  z33 := Tryz.sizeOf22
  v33 := Tryz.zeroValue22
  i33 := by kernel_rfl
  t37 := Tryz.underlying248
  a37 := Tryz.isAgg248
  z37 := Tryz.sizeOf248
  v37 := Tryz.zeroValue248
  i37 := by kernel_rfl
  t45 := Tryz.underlying99
  a45 := Tryz.isAgg99
  z45 := Tryz.sizeOf99
  v45 := Tryz.zeroValue99
  i45 := by kernel_rfl }
open Go.RowKit in
/-- binary.BigEndian.Uint64: "Uint64 returns the uint64 representation of b[0:8].": THE NUMBER THAT THE FIRST 8 BYTES SPELL, the greatest byte first ('Lib.beNat'). Of what was there nothing has turned (the receiver, an empty struct, is laid in a new block without cells; the statement's order is drawn). (LAID: no walk: one application.) -/
theorem Tryz.binary_BE_Uint64 (g o n c : Nat) (b0 b1 b2 b3 b4 b5 b6 b7 : UInt8) (w : World) (hn : 8 ≤ n) (c0 : w.cell? ⟨g, o, none⟩ = some (.int .u8 b0.toNat)) (c1 : w.cell? ⟨g, o + 1, none⟩ = some (.int .u8 b1.toNat)) (c2 : w.cell? ⟨g, o + 2, none⟩ = some (.int .u8 b2.toNat)) (c3 : w.cell? ⟨g, o + 3, none⟩ = some (.int .u8 b3.toNat)) (c4 : w.cell? ⟨g, o + 4, none⟩ = some (.int .u8 b4.toNat)) (c5 : w.cell? ⟨g, o + 5, none⟩ = some (.int .u8 b5.toNat)) (c6 : w.cell? ⟨g, o + 6, none⟩ = some (.int .u8 b6.toNat)) (c7 : w.cell? ⟨g, o + 7, none⟩ = some (.int .u8 b7.toNat)) :
    Calls Tryz.prog 124 #[.agg #[], .slice (some ⟨g, o, none⟩) n c] w fun e w' => e = .returned (.int .u64 (Lib.beNat [b0, b1, b2, b3, b4, b5, b6, b7])) ∧ Below w.heap.size w w' := Any.binary_BE_Uint64 Tryz.laysBin42 g o n c b0 b1 b2 b3 b4 b5 b6 b7 w hn c0 c1 c2 c3 c4 c5 c6 c7
open Go.RowKit in
/-- binary.LittleEndian.Uint64, b SHORTER THAN 8: IT PANICS: Go's 'runtime error: index out of range [7] with length n' ('Lib.boundsPanicked'). THE WORLD: the receiver's new block without cells, and the draw of the panic's flag. (LAID: no walk: one application.) -/
theorem Tryz.binary_LE_Uint64_panics (ao : Option Addr) (n c : Nat) (w : World) (hn : n < 8) (hnil : ao = none → n = 0) :
    Calls Tryz.prog 90 #[.agg #[], .slice ao n c] w fun e w' => Lib.boundsPanicked Tryz.prog 7 n e ∧ w' = (w.alloc (.cells #[] 183)).drew := Any.binary_LE_Uint64_panics Tryz.laysBin33 ao n c w hn hnil
open Go.RowKit in
/-- binary.BigEndian.Uint16, b SHORTER THAN 2: IT PANICS: Go's 'runtime error: index out of range [1] with length n' ('Lib.boundsPanicked'). THE WORLD: the receiver's new block without cells, and the draw of the panic's flag. (LAID: no walk: one application.) -/
theorem Tryz.binary_BE_Uint16_panics (ao : Option Addr) (n c : Nat) (w : World) (hn : n < 2) (hnil : ao = none → n = 0) :
    Calls Tryz.prog 121 #[.agg #[], .slice ao n c] w fun e w' => Lib.boundsPanicked Tryz.prog 1 n e ∧ w' = (w.alloc (.cells #[] 248)).drew := Any.binary_BE_Uint16_panics Tryz.laysBin36 ao n c w hn hnil
open Go.RowKit in
/-- binary.BigEndian.Uint32, b SHORTER THAN 4: IT PANICS: Go's 'runtime error: index out of range [3] with length n' ('Lib.boundsPanicked'). THE WORLD: the receiver's new block without cells, and the draw of the panic's flag. (LAID: no walk: one application.) -/
theorem Tryz.binary_BE_Uint32_panics (ao : Option Addr) (n c : Nat) (w : World) (hn : n < 4) (hnil : ao = none → n = 0) :
    Calls Tryz.prog 122 #[.agg #[], .slice ao n c] w fun e w' => Lib.boundsPanicked Tryz.prog 3 n e ∧ w' = (w.alloc (.cells #[] 248)).drew := Any.binary_BE_Uint32_panics Tryz.laysBin39 ao n c w hn hnil
open Go.RowKit in
/-- binary.BigEndian.Uint64, b SHORTER THAN 8: IT PANICS: Go's 'runtime error: index out of range [7] with length n' ('Lib.boundsPanicked'). THE WORLD: the receiver's new block without cells, and the draw of the panic's flag. (LAID: no walk: one application.) -/
theorem Tryz.binary_BE_Uint64_panics (ao : Option Addr) (n c : Nat) (w : World) (hn : n < 8) (hnil : ao = none → n = 0) :
    Calls Tryz.prog 124 #[.agg #[], .slice ao n c] w fun e w' => Lib.boundsPanicked Tryz.prog 7 n e ∧ w' = (w.alloc (.cells #[] 248)).drew := Any.binary_BE_Uint64_panics Tryz.laysBin42 ao n c w hn hnil
open Go.RowKit in
/-- binary.LittleEndian.Uint64, ITS PREMISES 'open_ints'' CONCLUSION TO THE LETTER: a slice at WHATEVER address a, the numbers zs that its cells hold: THE NUMBER THAT THE FIRST 8 SPELL ('Lib.leZ'). (LAID: no walk: one application.) -/
theorem Tryz.binary_LE_Uint64_z (a : Addr) (n c : Nat) (zs : List Int) (w : World) (hn : 8 ≤ n) (hl : 8 ≤ zs.length) (hcell : ∀ i, i < zs.length → w.cell? (a.add i) = some (.int .u8 (zs.getD i 0))) (hw : ∀ z ∈ zs, (Lit.int .u8 z).wf = true) :
    Calls Tryz.prog 90 #[.agg #[], .slice (some a) n c] w fun e w' => e = .returned (.int .u64 (Lib.leZ (zs.take 8))) ∧ Below w.heap.size w w' := Any.binary_LE_Uint64_z Tryz.laysBin33 a n c zs w hn hl hcell hw
open Go.RowKit in
/-- binary.BigEndian.Uint16, ITS PREMISES 'open_ints'' CONCLUSION TO THE LETTER: a slice at WHATEVER address a, the numbers zs that its cells hold: THE NUMBER THAT THE FIRST 2 SPELL ('Lib.beZ'). (LAID: no walk: one application.) -/
theorem Tryz.binary_BE_Uint16_z (a : Addr) (n c : Nat) (zs : List Int) (w : World) (hn : 2 ≤ n) (hl : 2 ≤ zs.length) (hcell : ∀ i, i < zs.length → w.cell? (a.add i) = some (.int .u8 (zs.getD i 0))) (hw : ∀ z ∈ zs, (Lit.int .u8 z).wf = true) :
    Calls Tryz.prog 121 #[.agg #[], .slice (some a) n c] w fun e w' => e = .returned (.int .u16 (Lib.beZ (zs.take 2))) ∧ Below w.heap.size w w' := Any.binary_BE_Uint16_z Tryz.laysBin36 a n c zs w hn hl hcell hw
open Go.RowKit in
/-- binary.BigEndian.Uint32, ITS PREMISES 'open_ints'' CONCLUSION TO THE LETTER: a slice at WHATEVER address a, the numbers zs that its cells hold: THE NUMBER THAT THE FIRST 4 SPELL ('Lib.beZ'). (LAID: no walk: one application.) -/
theorem Tryz.binary_BE_Uint32_z (a : Addr) (n c : Nat) (zs : List Int) (w : World) (hn : 4 ≤ n) (hl : 4 ≤ zs.length) (hcell : ∀ i, i < zs.length → w.cell? (a.add i) = some (.int .u8 (zs.getD i 0))) (hw : ∀ z ∈ zs, (Lit.int .u8 z).wf = true) :
    Calls Tryz.prog 122 #[.agg #[], .slice (some a) n c] w fun e w' => e = .returned (.int .u32 (Lib.beZ (zs.take 4))) ∧ Below w.heap.size w w' := Any.binary_BE_Uint32_z Tryz.laysBin39 a n c zs w hn hl hcell hw
open Go.RowKit in
/-- binary.BigEndian.Uint64, ITS PREMISES 'open_ints'' CONCLUSION TO THE LETTER: a slice at WHATEVER address a, the numbers zs that its cells hold: THE NUMBER THAT THE FIRST 8 SPELL ('Lib.beZ'). (LAID: no walk: one application.) -/
theorem Tryz.binary_BE_Uint64_z (a : Addr) (n c : Nat) (zs : List Int) (w : World) (hn : 8 ≤ n) (hl : 8 ≤ zs.length) (hcell : ∀ i, i < zs.length → w.cell? (a.add i) = some (.int .u8 (zs.getD i 0))) (hw : ∀ z ∈ zs, (Lit.int .u8 z).wf = true) :
    Calls Tryz.prog 124 #[.agg #[], .slice (some a) n c] w fun e w' => e = .returned (.int .u64 (Lib.beZ (zs.take 8))) ∧ Below w.heap.size w w' := Any.binary_BE_Uint64_z Tryz.laysBin42 a n c zs w hn hl hcell hw
end Go.Proofs
