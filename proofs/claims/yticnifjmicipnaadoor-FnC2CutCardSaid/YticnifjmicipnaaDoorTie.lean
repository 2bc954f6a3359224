/-
  DERIVED. GIVEN WITH THE SEED: THE PROGRAM's TIES (one call each: nine closed facts by the kernel) AND EACH ROW's TIE, after the 31st guide's Derived/Test/Toyas{Tie, Card}.lean. No idea stands in it: it is a product of the set-up. Laid BY PROGRAM, IN A SANDBOX (cutbox-door.mjs). By AI agents, Wed Nov 11 2026. No macro, syntax, notation, axiom, sorry.
-/
import Derived.Test.YticnifjmicipnaaDoorRows
import Derived.LaidByTextLater
import Derived.SevenTiedAt
import Derived.LaidSub
import Derived.LaidOnce
namespace Go.Proofs.YticnifjmicipnaaDoor
open Go
set_option maxRecDepth 100000
theorem seatTie1 : Tryd.prog.laidByTextLater [("io.ErrShortBuffer", Rows.laid_io_ErrShortBuffer), ("io.EOF", Rows.laid_io_EOF), ("io.ErrUnexpectedEOF", Rows.laid_io_ErrUnexpectedEOF), ("pub-droshky/pub/varint.ErrOverflow", Rows.laid_pub_droshky_pub_varint_ErrOverflow), ("pub-droshky/pub/varint.ErrUnderflow", Rows.laid_pub_droshky_pub_varint_ErrUnderflow), ("pub-droshky/pub/varint.ErrNotMinimal", Rows.laid_pub_droshky_pub_varint_ErrNotMinimal), ("pub-droshky/pub/multihash.ErrTooShort", Rows.laid_pub_droshky_pub_multihash_ErrTooShort), ("pub-droshky/pub/multihash.ErrVarintBufferShort", Rows.laid_pub_droshky_pub_multihash_ErrVarintBufferShort), ("pub-droshky/pub/multihash.ErrVarintTooLong", Rows.laid_pub_droshky_pub_multihash_ErrVarintTooLong)] [.sentinel, .sentinel, .sentinel, .sentinel, .sentinel, .sentinel, .sentinel, .sentinel, .sentinel] true :=
  Program.laidByTextLater_by_one 180 8 2 (by kernel_rfl) (by kernel_rfl) (by kernel_rfl) (by kernel_rfl) (by kernel_rfl) (by kernel_rfl) (fun _ _ => by kernel_rfl)
theorem noOwnUnsafe : Tryd.pinned.checked.prog.headLifts.contains "ownunsafe" = false := by kernel_rfl
theorem tie : Tryd.prog.laidByTextLater [("io.ErrShortBuffer", Rows.laid_io_ErrShortBuffer), ("io.EOF", Rows.laid_io_EOF), ("io.ErrUnexpectedEOF", Rows.laid_io_ErrUnexpectedEOF)] [.sentinel, .sentinel, .sentinel] true :=
  Program.laidByTextLater.sub seatTie1 ["io.ErrShortBuffer", "io.EOF", "io.ErrUnexpectedEOF"] (by kernel_rfl) (by kernel_rfl)
theorem fnC2Cut_row_tie : Rows.fnC2CutRow.laidByTextAt .later Tryd.pinned [.sentinel, .sentinel, .sentinel] true :=
  OpenClaim.laidByTextAt_later rfl rfl tie noOwnUnsafe
theorem tie2 : Tryd.prog.laidByTextLater [("pub-droshky/pub/varint.ErrOverflow", Rows.laid_pub_droshky_pub_varint_ErrOverflow), ("pub-droshky/pub/varint.ErrUnderflow", Rows.laid_pub_droshky_pub_varint_ErrUnderflow), ("pub-droshky/pub/varint.ErrNotMinimal", Rows.laid_pub_droshky_pub_varint_ErrNotMinimal)] [.sentinel, .sentinel, .sentinel] true :=
  Program.laidByTextLater.sub seatTie1 ["pub-droshky/pub/varint.ErrOverflow", "pub-droshky/pub/varint.ErrUnderflow", "pub-droshky/pub/varint.ErrNotMinimal"] (by kernel_rfl) (by kernel_rfl)
theorem fnUvCut_row_tie : Rows.fnUvCutRow.laidByTextAt .later Tryd.pinned [.sentinel, .sentinel, .sentinel] true :=
  OpenClaim.laidByTextAt_later rfl rfl tie2 noOwnUnsafe
theorem fnUvRead_row_tie : Rows.fnUvReadRow.laidByTextAt .later Tryd.pinned [.sentinel, .sentinel, .sentinel] true :=
  OpenClaim.laidByTextAt_later rfl rfl tie2 noOwnUnsafe
theorem fnUvCanon_row_tie : Rows.fnUvCanonRow.laidByTextAt .later Tryd.pinned [.sentinel, .sentinel, .sentinel] true :=
  OpenClaim.laidByTextAt_later rfl rfl tie2 noOwnUnsafe
theorem tie3 : Tryd.prog.laidByTextLater [("pub-droshky/pub/varint.ErrOverflow", Rows.laid_pub_droshky_pub_varint_ErrOverflow), ("pub-droshky/pub/varint.ErrUnderflow", Rows.laid_pub_droshky_pub_varint_ErrUnderflow), ("pub-droshky/pub/varint.ErrNotMinimal", Rows.laid_pub_droshky_pub_varint_ErrNotMinimal), ("pub-droshky/pub/multihash.ErrTooShort", Rows.laid_pub_droshky_pub_multihash_ErrTooShort), ("pub-droshky/pub/multihash.ErrVarintBufferShort", Rows.laid_pub_droshky_pub_multihash_ErrVarintBufferShort), ("pub-droshky/pub/multihash.ErrVarintTooLong", Rows.laid_pub_droshky_pub_multihash_ErrVarintTooLong)] [.sentinel, .sentinel, .sentinel, .sentinel, .sentinel, .sentinel] true :=
  Program.laidByTextLater.sub seatTie1 ["pub-droshky/pub/varint.ErrOverflow", "pub-droshky/pub/varint.ErrUnderflow", "pub-droshky/pub/varint.ErrNotMinimal", "pub-droshky/pub/multihash.ErrTooShort", "pub-droshky/pub/multihash.ErrVarintBufferShort", "pub-droshky/pub/multihash.ErrVarintTooLong"] (by kernel_rfl) (by kernel_rfl)
theorem fnMhBack_row_tie : Rows.fnMhBackRow.laidByTextAt .later Tryd.pinned [.sentinel, .sentinel, .sentinel, .sentinel, .sentinel, .sentinel] true :=
  OpenClaim.laidByTextAt_later rfl rfl tie3 noOwnUnsafe
theorem fnC2CutUpto_row_tie : Rows.fnC2CutUptoRow.laidByTextAt .later Tryd.pinned [.sentinel, .sentinel, .sentinel] true :=
  OpenClaim.laidByTextAt_later rfl rfl tie noOwnUnsafe
theorem fnUvCutUpto_row_tie : Rows.fnUvCutUptoRow.laidByTextAt .later Tryd.pinned [.sentinel, .sentinel, .sentinel] true :=
  OpenClaim.laidByTextAt_later rfl rfl tie2 noOwnUnsafe
theorem fnUvReadUpto_row_tie : Rows.fnUvReadUptoRow.laidByTextAt .later Tryd.pinned [.sentinel, .sentinel, .sentinel] true :=
  OpenClaim.laidByTextAt_later rfl rfl tie2 noOwnUnsafe
theorem fnUvCanonUpto_row_tie : Rows.fnUvCanonUptoRow.laidByTextAt .later Tryd.pinned [.sentinel, .sentinel, .sentinel] true :=
  OpenClaim.laidByTextAt_later rfl rfl tie2 noOwnUnsafe
theorem fnMhBackUpto_row_tie : Rows.fnMhBackUptoRow.laidByTextAt .later Tryd.pinned [.sentinel, .sentinel, .sentinel, .sentinel, .sentinel, .sentinel] true :=
  OpenClaim.laidByTextAt_later rfl rfl tie3 noOwnUnsafe
end Go.Proofs.YticnifjmicipnaaDoor
