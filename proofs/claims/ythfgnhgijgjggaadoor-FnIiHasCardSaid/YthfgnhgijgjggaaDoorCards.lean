/-
  DERIVED. GIVEN WITH THE SEED: THE CARDS: each row of YthfgnhgijgjggaaDoorRows.lean that lists a variable, with what it lists TIED to the program's text (the seventh form; the later family's looks); each row that meets fmt, with fmt's text TOLD by the authors' own Lean function (tested against real Go, not proved from fmt's source: count such statements apart). THE CARD IS WHAT COUNTS. Prove the row's statement (the work); the ties are given (YthfgnhgijgjggaaDoorTie.lean); close each card by the builder's one call (the guide's Derived/Test/ToyasCard.lean, 'card_holds'). Laid BY PROGRAM, IN A SANDBOX (cutbox-door.mjs). By AI agents, Wed Nov 11 2026. No macro, syntax, notation, axiom, sorry.
-/
import Derived.Test.YthfgnhgijgjggaaDoorRows
import GoSem.ClaimSeven
namespace Go.Proofs.YthfgnhgijgjggaaDoor
namespace Rows

/-- THE TIED CARD OF 'laws.FnHdMatches'. -/
def fnHdMatchesCard : Claim7 := { stood := { row := fnHdMatchesRow, standIns := [], harness := (true, "6fc857f68b1dd34fdd1d4870e3ec687b1723eced9428684d46118e504e68fad6"), looks := true }, kinds := [], alts := [], laidByText := true, laidKinds := [.sentinel, .sentinel, .sentinel, .sentinel, .sentinel, .sentinel, .data], laidTests := true, laidLooks := .later }
def FnHdMatchesCardSaid : Prop := Claim7.holds Tryd.pinned (.plain (OpenSpec.ofChange fnHdMatchesSpec)) fnHdMatchesCard

/-- THE TIED CARD OF 'laws.FnIiHas'. -/
def fnIiHasCard : Claim7 := { stood := { row := fnIiHasRow, standIns := [], harness := (true, "6fc857f68b1dd34fdd1d4870e3ec687b1723eced9428684d46118e504e68fad6"), looks := true }, kinds := [], alts := [], laidByText := true, laidKinds := [.data, .data, .sentinel, .sentinel, .sentinel, .sentinel, .sentinel, .sentinel, .data], laidTests := true, laidLooks := .later }
def FnIiHasCardSaid : Prop := Claim7.holds Tryd.pinned (.plain (OpenSpec.ofChange fnIiHasSpec)) fnIiHasCard

/-- THE TIED CARD OF 'laws.FnCdPrefix'. -/
def fnCdPrefixCard : Claim7 := { stood := { row := fnCdPrefixRow, standIns := [], harness := (true, "6fc857f68b1dd34fdd1d4870e3ec687b1723eced9428684d46118e504e68fad6"), looks := true }, kinds := [], alts := [], laidByText := true, laidKinds := [.sentinel, .sentinel, .sentinel, .sentinel, .sentinel, .sentinel, .sentinel, .sentinel, .data], laidTests := true, laidLooks := .later }
def FnCdPrefixCardSaid : Prop := Claim7.holds Tryd.pinned (.plain (OpenSpec.ofChange fnCdPrefixSpec)) fnCdPrefixCard

/-- THE TIED CARD OF 'laws.FnLdZero'. -/
def fnLdZeroCard : Claim7 := { stood := { row := fnLdZeroRow, standIns := [], harness := (true, "6fc857f68b1dd34fdd1d4870e3ec687b1723eced9428684d46118e504e68fad6"), looks := true }, kinds := [], alts := [], laidByText := true, laidKinds := [.sentinel, .sentinel, .sentinel, .sentinel, .sentinel, .sentinel], laidTests := true, laidLooks := .later }
def FnLdZeroCardSaid : Prop := Claim7.holds Tryd.pinned (.plain (OpenSpec.ofChange fnLdZeroSpec)) fnLdZeroCard

/-- THE TIED CARD OF 'laws.FnLdWrite'. -/
def fnLdWriteCard : Claim7 := { stood := { row := fnLdWriteRow, standIns := [], harness := (true, "6fc857f68b1dd34fdd1d4870e3ec687b1723eced9428684d46118e504e68fad6"), looks := true }, kinds := [], alts := [], laidByText := true, laidKinds := [.sentinel, .sentinel, .sentinel, .sentinel, .sentinel, .sentinel], laidTests := true, laidLooks := .later }
def FnLdWriteCardSaid : Prop := Claim7.holds Tryd.pinned (.plain (OpenSpec.ofChange fnLdWriteSpec)) fnLdWriteCard

/-- THE TIED CARD OF 'laws.FnSeHead'. -/
def fnSeHeadCard : Claim7 := { stood := { row := fnSeHeadRow, standIns := [], harness := (true, "6fc857f68b1dd34fdd1d4870e3ec687b1723eced9428684d46118e504e68fad6"), looks := true }, kinds := [], alts := [], laidByText := true, laidKinds := [.sentinel, .sentinel, .sentinel, .sentinel, .sentinel, .sentinel, .sentinel, .sentinel, .sentinel, .data, .sentinel], laidTests := true, laidLooks := .later }
def FnSeHeadCardSaid : Prop := Claim7.holds Tryd.pinned (.plain (OpenSpec.ofChange fnSeHeadSpec)) fnSeHeadCard

/-- THE TIED CARD OF 'laws.FnSeBoth'. -/
def fnSeBothCard : Claim7 := { stood := { row := fnSeBothRow, standIns := [], harness := (true, "6fc857f68b1dd34fdd1d4870e3ec687b1723eced9428684d46118e504e68fad6"), looks := true }, kinds := [], alts := [], laidByText := true, laidKinds := [.sentinel, .sentinel, .sentinel, .sentinel, .sentinel, .sentinel, .sentinel, .sentinel, .sentinel, .data, .sentinel], laidTests := true, laidLooks := .later }
def FnSeBothCardSaid : Prop := Claim7.holds Tryd.pinned (.plain (OpenSpec.ofChange fnSeBothSpec)) fnSeBothCard

/-- THE SECOND FORM's CARD OF 'laws.FnHdMatches'. -/
def fnHdMatchesUptoCard : Claim7 := { stood := { row := fnHdMatchesUptoRow, standIns := [], harness := (true, "6fc857f68b1dd34fdd1d4870e3ec687b1723eced9428684d46118e504e68fad6"), looks := true }, kinds := [], alts := [], laidByText := true, laidKinds := [.sentinel, .sentinel, .sentinel, .sentinel, .sentinel, .sentinel, .data], laidTests := true, laidLooks := .later }
def FnHdMatchesUptoCardSaid : Prop := Claim7.holds Tryd.pinned (.plain (OpenSpec.upto fnHdMatchesSpec)) fnHdMatchesUptoCard

/-- THE SECOND FORM's CARD OF 'laws.FnIiHas'. -/
def fnIiHasUptoCard : Claim7 := { stood := { row := fnIiHasUptoRow, standIns := [], harness := (true, "6fc857f68b1dd34fdd1d4870e3ec687b1723eced9428684d46118e504e68fad6"), looks := true }, kinds := [], alts := [], laidByText := true, laidKinds := [.data, .data, .sentinel, .sentinel, .sentinel, .sentinel, .sentinel, .sentinel, .data], laidTests := true, laidLooks := .later }
def FnIiHasUptoCardSaid : Prop := Claim7.holds Tryd.pinned (.plain (OpenSpec.upto fnIiHasSpec)) fnIiHasUptoCard

/-- THE SECOND FORM's CARD OF 'laws.FnCdPrefix'. -/
def fnCdPrefixUptoCard : Claim7 := { stood := { row := fnCdPrefixUptoRow, standIns := [], harness := (true, "6fc857f68b1dd34fdd1d4870e3ec687b1723eced9428684d46118e504e68fad6"), looks := true }, kinds := [], alts := [], laidByText := true, laidKinds := [.sentinel, .sentinel, .sentinel, .sentinel, .sentinel, .sentinel, .sentinel, .sentinel, .data], laidTests := true, laidLooks := .later }
def FnCdPrefixUptoCardSaid : Prop := Claim7.holds Tryd.pinned (.plain (OpenSpec.upto fnCdPrefixSpec)) fnCdPrefixUptoCard

/-- THE SECOND FORM's CARD OF 'laws.FnLdZero'. -/
def fnLdZeroUptoCard : Claim7 := { stood := { row := fnLdZeroUptoRow, standIns := [], harness := (true, "6fc857f68b1dd34fdd1d4870e3ec687b1723eced9428684d46118e504e68fad6"), looks := true }, kinds := [], alts := [], laidByText := true, laidKinds := [.sentinel, .sentinel, .sentinel, .sentinel, .sentinel, .sentinel], laidTests := true, laidLooks := .later }
def FnLdZeroUptoCardSaid : Prop := Claim7.holds Tryd.pinned (.plain (OpenSpec.upto fnLdZeroSpec)) fnLdZeroUptoCard

/-- THE SECOND FORM's CARD OF 'laws.FnLdWrite'. -/
def fnLdWriteUptoCard : Claim7 := { stood := { row := fnLdWriteUptoRow, standIns := [], harness := (true, "6fc857f68b1dd34fdd1d4870e3ec687b1723eced9428684d46118e504e68fad6"), looks := true }, kinds := [], alts := [], laidByText := true, laidKinds := [.sentinel, .sentinel, .sentinel, .sentinel, .sentinel, .sentinel], laidTests := true, laidLooks := .later }
def FnLdWriteUptoCardSaid : Prop := Claim7.holds Tryd.pinned (.plain (OpenSpec.upto fnLdWriteSpec)) fnLdWriteUptoCard

/-- THE SECOND FORM's CARD OF 'laws.FnSeHead'. -/
def fnSeHeadUptoCard : Claim7 := { stood := { row := fnSeHeadUptoRow, standIns := [], harness := (true, "6fc857f68b1dd34fdd1d4870e3ec687b1723eced9428684d46118e504e68fad6"), looks := true }, kinds := [], alts := [], laidByText := true, laidKinds := [.sentinel, .sentinel, .sentinel, .sentinel, .sentinel, .sentinel, .sentinel, .sentinel, .sentinel, .data, .sentinel], laidTests := true, laidLooks := .later }
def FnSeHeadUptoCardSaid : Prop := Claim7.holds Tryd.pinned (.plain (OpenSpec.upto fnSeHeadSpec)) fnSeHeadUptoCard

/-- THE SECOND FORM's CARD OF 'laws.FnSeBoth'. -/
def fnSeBothUptoCard : Claim7 := { stood := { row := fnSeBothUptoRow, standIns := [], harness := (true, "6fc857f68b1dd34fdd1d4870e3ec687b1723eced9428684d46118e504e68fad6"), looks := true }, kinds := [], alts := [], laidByText := true, laidKinds := [.sentinel, .sentinel, .sentinel, .sentinel, .sentinel, .sentinel, .sentinel, .sentinel, .sentinel, .data, .sentinel], laidTests := true, laidLooks := .later }
def FnSeBothUptoCardSaid : Prop := Claim7.holds Tryd.pinned (.plain (OpenSpec.upto fnSeBothSpec)) fnSeBothUptoCard
end Rows
end Go.Proofs.YthfgnhgijgjggaaDoor
