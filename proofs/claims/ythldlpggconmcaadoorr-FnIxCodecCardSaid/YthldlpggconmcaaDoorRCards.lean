/-
  DERIVED. GIVEN WITH THE SEED: THE CARDS: each row of YthldlpggconmcaaDoorRRows.lean that lists a variable, with what it lists TIED to the program's text (the seventh form; the later family's looks); each row that meets fmt, with fmt's text TOLD by the authors' own Lean function (tested against real Go, not proved from fmt's source: count such statements apart). THE CARD IS WHAT COUNTS. Prove the row's statement (the work); the ties are given (YthldlpggconmcaaDoorRTie.lean); close each card by the builder's one call (the guide's Derived/Test/ToyasCard.lean, 'card_holds'). Laid BY PROGRAM, IN A SANDBOX (cutbox-door.mjs). By AI agents, Wed Nov 11 2026. No macro, syntax, notation, axiom, sorry.
-/
import Derived.Test.YthldlpggconmcaaDoorRRows
import GoSem.ClaimSeven
namespace Go.Proofs.YthldlpggconmcaaDoorR
namespace Rows

/-- THE TIED CARD OF 'laws.FnHdMatches'. -/
def fnHdMatchesCard : Claim7 := { stood := { row := fnHdMatchesRow, standIns := [], harness := (true, "30cd257ec1c15e37fc8e72113c4bdabd24805d6c82082a5698f1884005bd10f3"), looks := true }, kinds := [], alts := [], laidByText := true, laidKinds := [.sentinel, .sentinel, .sentinel, .sentinel, .sentinel, .sentinel, .data], laidTests := true, laidLooks := .later }
def FnHdMatchesCardSaid : Prop := Claim7.holds Tryd.pinned (.plain (OpenSpec.ofChange fnHdMatchesSpec)) fnHdMatchesCard

/-- THE TIED CARD OF 'laws.FnIxCodec'. -/
def fnIxCodecCard : Claim7 := { stood := { row := fnIxCodecRow, standIns := [], harness := (true, "30cd257ec1c15e37fc8e72113c4bdabd24805d6c82082a5698f1884005bd10f3"), looks := true }, kinds := [], alts := [], laidByText := true, laidKinds := [.sentinel, .sentinel, .sentinel, .sentinel], laidTests := true, laidLooks := .later }
def FnIxCodecCardSaid : Prop := Claim7.holds Tryd.pinned (.plain (OpenSpec.ofChange fnIxCodecSpec)) fnIxCodecCard

/-- THE TIED CARD OF 'laws.FnCdBytes'. -/
def fnCdBytesCard : Claim7 := { stood := { row := fnCdBytesRow, standIns := [], harness := (true, "30cd257ec1c15e37fc8e72113c4bdabd24805d6c82082a5698f1884005bd10f3"), looks := true }, kinds := [], alts := [], laidByText := true, laidKinds := [.sentinel, .sentinel, .sentinel, .sentinel, .sentinel, .sentinel, .data], laidTests := true, laidLooks := .later }
def FnCdBytesCardSaid : Prop := Claim7.holds Tryd.pinned (.plain (OpenSpec.ofChange fnCdBytesSpec)) fnCdBytesCard

/-- THE TIED CARD OF 'laws.FnCdSame'. -/
def fnCdSameCard : Claim7 := { stood := { row := fnCdSameRow, standIns := [], harness := (true, "30cd257ec1c15e37fc8e72113c4bdabd24805d6c82082a5698f1884005bd10f3"), looks := true }, kinds := [], alts := [], laidByText := true, laidKinds := [.sentinel, .sentinel, .sentinel, .sentinel, .sentinel, .sentinel, .data], laidTests := true, laidLooks := .later }
def FnCdSameCardSaid : Prop := Claim7.holds Tryd.pinned (.plain (OpenSpec.ofChange fnCdSameSpec)) fnCdSameCard

/-- THE TIED CARD OF 'laws.FnCdByte'. -/
def fnCdByteCard : Claim7 := { stood := { row := fnCdByteRow, standIns := [], harness := (true, "30cd257ec1c15e37fc8e72113c4bdabd24805d6c82082a5698f1884005bd10f3"), looks := true }, kinds := [], alts := [], laidByText := true, laidKinds := [.sentinel, .sentinel, .sentinel, .sentinel, .sentinel, .sentinel, .data], laidTests := true, laidLooks := .later }
def FnCdByteCardSaid : Prop := Claim7.holds Tryd.pinned (.plain (OpenSpec.ofChange fnCdByteSpec)) fnCdByteCard

/-- THE TIED CARD OF 'laws.FnCdCast'. -/
def fnCdCastCard : Claim7 := { stood := { row := fnCdCastRow, standIns := [], harness := (true, "30cd257ec1c15e37fc8e72113c4bdabd24805d6c82082a5698f1884005bd10f3"), looks := true }, kinds := [], alts := [], laidByText := true, laidKinds := [.sentinel, .sentinel, .sentinel, .sentinel, .sentinel, .sentinel, .data], laidTests := true, laidLooks := .later }
def FnCdCastCardSaid : Prop := Claim7.holds Tryd.pinned (.plain (OpenSpec.ofChange fnCdCastSpec)) fnCdCastCard

/-- THE TIED CARD OF 'laws.FnIiHas'. -/
def fnIiHasCard : Claim7 := { stood := { row := fnIiHasRow, standIns := [], harness := (true, "30cd257ec1c15e37fc8e72113c4bdabd24805d6c82082a5698f1884005bd10f3"), looks := true }, kinds := [], alts := [], laidByText := true, laidKinds := [.data, .data, .sentinel, .sentinel, .sentinel, .sentinel, .sentinel, .sentinel, .data], laidTests := true, laidLooks := .later }
def FnIiHasCardSaid : Prop := Claim7.holds Tryd.pinned (.plain (OpenSpec.ofChange fnIiHasSpec)) fnIiHasCard

/-- THE TIED CARD OF 'laws.FnCdPrefix'. -/
def fnCdPrefixCard : Claim7 := { stood := { row := fnCdPrefixRow, standIns := [], harness := (true, "30cd257ec1c15e37fc8e72113c4bdabd24805d6c82082a5698f1884005bd10f3"), looks := true }, kinds := [], alts := [], laidByText := true, laidKinds := [.sentinel, .sentinel, .sentinel, .sentinel, .sentinel, .sentinel, .sentinel, .sentinel, .data], laidTests := true, laidLooks := .later }
def FnCdPrefixCardSaid : Prop := Claim7.holds Tryd.pinned (.plain (OpenSpec.ofChange fnCdPrefixSpec)) fnCdPrefixCard

/-- THE TIED CARD OF 'laws.FnLdZero'. -/
def fnLdZeroCard : Claim7 := { stood := { row := fnLdZeroRow, standIns := [], harness := (true, "30cd257ec1c15e37fc8e72113c4bdabd24805d6c82082a5698f1884005bd10f3"), looks := true }, kinds := [], alts := [], laidByText := true, laidKinds := [.sentinel, .sentinel, .sentinel, .sentinel, .sentinel, .sentinel], laidTests := true, laidLooks := .later }
def FnLdZeroCardSaid : Prop := Claim7.holds Tryd.pinned (.plain (OpenSpec.ofChange fnLdZeroSpec)) fnLdZeroCard

/-- THE TIED CARD OF 'laws.FnLdWrite'. -/
def fnLdWriteCard : Claim7 := { stood := { row := fnLdWriteRow, standIns := [], harness := (true, "30cd257ec1c15e37fc8e72113c4bdabd24805d6c82082a5698f1884005bd10f3"), looks := true }, kinds := [], alts := [], laidByText := true, laidKinds := [.sentinel, .sentinel, .sentinel, .sentinel, .sentinel, .sentinel], laidTests := true, laidLooks := .later }
def FnLdWriteCardSaid : Prop := Claim7.holds Tryd.pinned (.plain (OpenSpec.ofChange fnLdWriteSpec)) fnLdWriteCard

/-- THE SECOND FORM's CARD OF 'laws.FnHdMatches'. -/
def fnHdMatchesUptoCard : Claim7 := { stood := { row := fnHdMatchesUptoRow, standIns := [], harness := (true, "30cd257ec1c15e37fc8e72113c4bdabd24805d6c82082a5698f1884005bd10f3"), looks := true }, kinds := [], alts := [], laidByText := true, laidKinds := [.sentinel, .sentinel, .sentinel, .sentinel, .sentinel, .sentinel, .data], laidTests := true, laidLooks := .later }
def FnHdMatchesUptoCardSaid : Prop := Claim7.holds Tryd.pinned (.plain (OpenSpec.upto fnHdMatchesSpec)) fnHdMatchesUptoCard

/-- THE SECOND FORM's CARD OF 'laws.FnIxCodec'. -/
def fnIxCodecUptoCard : Claim7 := { stood := { row := fnIxCodecUptoRow, standIns := [], harness := (true, "30cd257ec1c15e37fc8e72113c4bdabd24805d6c82082a5698f1884005bd10f3"), looks := true }, kinds := [], alts := [], laidByText := true, laidKinds := [.sentinel, .sentinel, .sentinel, .sentinel], laidTests := true, laidLooks := .later }
def FnIxCodecUptoCardSaid : Prop := Claim7.holds Tryd.pinned (.plain (OpenSpec.upto fnIxCodecSpec)) fnIxCodecUptoCard

/-- THE SECOND FORM's CARD OF 'laws.FnCdBytes'. -/
def fnCdBytesUptoCard : Claim7 := { stood := { row := fnCdBytesUptoRow, standIns := [], harness := (true, "30cd257ec1c15e37fc8e72113c4bdabd24805d6c82082a5698f1884005bd10f3"), looks := true }, kinds := [], alts := [], laidByText := true, laidKinds := [.sentinel, .sentinel, .sentinel, .sentinel, .sentinel, .sentinel, .data], laidTests := true, laidLooks := .later }
def FnCdBytesUptoCardSaid : Prop := Claim7.holds Tryd.pinned (.plain (OpenSpec.upto fnCdBytesSpec)) fnCdBytesUptoCard

/-- THE SECOND FORM's CARD OF 'laws.FnCdSame'. -/
def fnCdSameUptoCard : Claim7 := { stood := { row := fnCdSameUptoRow, standIns := [], harness := (true, "30cd257ec1c15e37fc8e72113c4bdabd24805d6c82082a5698f1884005bd10f3"), looks := true }, kinds := [], alts := [], laidByText := true, laidKinds := [.sentinel, .sentinel, .sentinel, .sentinel, .sentinel, .sentinel, .data], laidTests := true, laidLooks := .later }
def FnCdSameUptoCardSaid : Prop := Claim7.holds Tryd.pinned (.plain (OpenSpec.upto fnCdSameSpec)) fnCdSameUptoCard

/-- THE SECOND FORM's CARD OF 'laws.FnCdByte'. -/
def fnCdByteUptoCard : Claim7 := { stood := { row := fnCdByteUptoRow, standIns := [], harness := (true, "30cd257ec1c15e37fc8e72113c4bdabd24805d6c82082a5698f1884005bd10f3"), looks := true }, kinds := [], alts := [], laidByText := true, laidKinds := [.sentinel, .sentinel, .sentinel, .sentinel, .sentinel, .sentinel, .data], laidTests := true, laidLooks := .later }
def FnCdByteUptoCardSaid : Prop := Claim7.holds Tryd.pinned (.plain (OpenSpec.upto fnCdByteSpec)) fnCdByteUptoCard

/-- THE SECOND FORM's CARD OF 'laws.FnCdCast'. -/
def fnCdCastUptoCard : Claim7 := { stood := { row := fnCdCastUptoRow, standIns := [], harness := (true, "30cd257ec1c15e37fc8e72113c4bdabd24805d6c82082a5698f1884005bd10f3"), looks := true }, kinds := [], alts := [], laidByText := true, laidKinds := [.sentinel, .sentinel, .sentinel, .sentinel, .sentinel, .sentinel, .data], laidTests := true, laidLooks := .later }
def FnCdCastUptoCardSaid : Prop := Claim7.holds Tryd.pinned (.plain (OpenSpec.upto fnCdCastSpec)) fnCdCastUptoCard

/-- THE SECOND FORM's CARD OF 'laws.FnIiHas'. -/
def fnIiHasUptoCard : Claim7 := { stood := { row := fnIiHasUptoRow, standIns := [], harness := (true, "30cd257ec1c15e37fc8e72113c4bdabd24805d6c82082a5698f1884005bd10f3"), looks := true }, kinds := [], alts := [], laidByText := true, laidKinds := [.data, .data, .sentinel, .sentinel, .sentinel, .sentinel, .sentinel, .sentinel, .data], laidTests := true, laidLooks := .later }
def FnIiHasUptoCardSaid : Prop := Claim7.holds Tryd.pinned (.plain (OpenSpec.upto fnIiHasSpec)) fnIiHasUptoCard

/-- THE SECOND FORM's CARD OF 'laws.FnCdPrefix'. -/
def fnCdPrefixUptoCard : Claim7 := { stood := { row := fnCdPrefixUptoRow, standIns := [], harness := (true, "30cd257ec1c15e37fc8e72113c4bdabd24805d6c82082a5698f1884005bd10f3"), looks := true }, kinds := [], alts := [], laidByText := true, laidKinds := [.sentinel, .sentinel, .sentinel, .sentinel, .sentinel, .sentinel, .sentinel, .sentinel, .data], laidTests := true, laidLooks := .later }
def FnCdPrefixUptoCardSaid : Prop := Claim7.holds Tryd.pinned (.plain (OpenSpec.upto fnCdPrefixSpec)) fnCdPrefixUptoCard

/-- THE SECOND FORM's CARD OF 'laws.FnLdZero'. -/
def fnLdZeroUptoCard : Claim7 := { stood := { row := fnLdZeroUptoRow, standIns := [], harness := (true, "30cd257ec1c15e37fc8e72113c4bdabd24805d6c82082a5698f1884005bd10f3"), looks := true }, kinds := [], alts := [], laidByText := true, laidKinds := [.sentinel, .sentinel, .sentinel, .sentinel, .sentinel, .sentinel], laidTests := true, laidLooks := .later }
def FnLdZeroUptoCardSaid : Prop := Claim7.holds Tryd.pinned (.plain (OpenSpec.upto fnLdZeroSpec)) fnLdZeroUptoCard

/-- THE SECOND FORM's CARD OF 'laws.FnLdWrite'. -/
def fnLdWriteUptoCard : Claim7 := { stood := { row := fnLdWriteUptoRow, standIns := [], harness := (true, "30cd257ec1c15e37fc8e72113c4bdabd24805d6c82082a5698f1884005bd10f3"), looks := true }, kinds := [], alts := [], laidByText := true, laidKinds := [.sentinel, .sentinel, .sentinel, .sentinel, .sentinel, .sentinel], laidTests := true, laidLooks := .later }
def FnLdWriteUptoCardSaid : Prop := Claim7.holds Tryd.pinned (.plain (OpenSpec.upto fnLdWriteSpec)) fnLdWriteUptoCard
end Rows
end Go.Proofs.YthldlpggconmcaaDoorR
