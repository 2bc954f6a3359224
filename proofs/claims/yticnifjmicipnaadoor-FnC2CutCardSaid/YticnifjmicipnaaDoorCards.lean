/-
  DERIVED. GIVEN WITH THE SEED: THE CARDS: each row of YticnifjmicipnaaDoorRows.lean that lists a variable, with what it lists TIED to the program's text (the seventh form; the later family's looks); each row that meets fmt, with fmt's text TOLD by the authors' own Lean function (tested against real Go, not proved from fmt's source: count such statements apart). THE CARD IS WHAT COUNTS. Prove the row's statement (the work); the ties are given (YticnifjmicipnaaDoorTie.lean); close each card by the builder's one call (the guide's Derived/Test/ToyasCard.lean, 'card_holds'). Laid BY PROGRAM, IN A SANDBOX (cutbox-door.mjs). By AI agents, Wed Nov 11 2026. No macro, syntax, notation, axiom, sorry.
-/
import Derived.Test.YticnifjmicipnaaDoorRows
import GoSem.ClaimSeven
namespace Go.Proofs.YticnifjmicipnaaDoor
namespace Rows

/-- THE TIED CARD OF 'laws.FnC2Cut'. -/
def fnC2CutCard : Claim7 := { stood := { row := fnC2CutRow, standIns := [], harness := (true, "35fe9077a46bb7d3f082607b58529d243ebc8443d1419d1306b44563d0dc8f39"), looks := true }, kinds := [], alts := [], laidByText := true, laidKinds := [.sentinel, .sentinel, .sentinel], laidTests := true, laidLooks := .later }
def FnC2CutCardSaid : Prop := Claim7.holds Tryd.pinned (.plain (OpenSpec.ofChange fnC2CutSpec)) fnC2CutCard

/-- THE TIED CARD OF 'laws.FnUvCut'. -/
def fnUvCutCard : Claim7 := { stood := { row := fnUvCutRow, standIns := [], harness := (true, "35fe9077a46bb7d3f082607b58529d243ebc8443d1419d1306b44563d0dc8f39"), looks := true }, kinds := [], alts := [], laidByText := true, laidKinds := [.sentinel, .sentinel, .sentinel], laidTests := true, laidLooks := .later }
def FnUvCutCardSaid : Prop := Claim7.holds Tryd.pinned (.plain (OpenSpec.ofChange fnUvCutSpec)) fnUvCutCard

/-- THE TIED CARD OF 'laws.FnUvRead'. -/
def fnUvReadCard : Claim7 := { stood := { row := fnUvReadRow, standIns := [], harness := (true, "35fe9077a46bb7d3f082607b58529d243ebc8443d1419d1306b44563d0dc8f39"), looks := true }, kinds := [], alts := [], laidByText := true, laidKinds := [.sentinel, .sentinel, .sentinel], laidTests := true, laidLooks := .later }
def FnUvReadCardSaid : Prop := Claim7.holds Tryd.pinned (.plain (OpenSpec.ofChange fnUvReadSpec)) fnUvReadCard

/-- THE TIED CARD OF 'laws.FnUvCanon'. -/
def fnUvCanonCard : Claim7 := { stood := { row := fnUvCanonRow, standIns := [], harness := (true, "35fe9077a46bb7d3f082607b58529d243ebc8443d1419d1306b44563d0dc8f39"), looks := true }, kinds := [], alts := [], laidByText := true, laidKinds := [.sentinel, .sentinel, .sentinel], laidTests := true, laidLooks := .later }
def FnUvCanonCardSaid : Prop := Claim7.holds Tryd.pinned (.plain (OpenSpec.ofChange fnUvCanonSpec)) fnUvCanonCard

/-- THE TIED CARD OF 'laws.FnMhBack'. -/
def fnMhBackCard : Claim7 := { stood := { row := fnMhBackRow, standIns := [], harness := (true, "35fe9077a46bb7d3f082607b58529d243ebc8443d1419d1306b44563d0dc8f39"), looks := true }, kinds := [], alts := [], laidByText := true, laidKinds := [.sentinel, .sentinel, .sentinel, .sentinel, .sentinel, .sentinel], laidTests := true, laidLooks := .later }
def FnMhBackCardSaid : Prop := Claim7.holds Tryd.pinned (.plain (OpenSpec.ofChange fnMhBackSpec)) fnMhBackCard

/-- THE SECOND FORM's CARD OF 'laws.FnC2Cut'. -/
def fnC2CutUptoCard : Claim7 := { stood := { row := fnC2CutUptoRow, standIns := [], harness := (true, "35fe9077a46bb7d3f082607b58529d243ebc8443d1419d1306b44563d0dc8f39"), looks := true }, kinds := [], alts := [], laidByText := true, laidKinds := [.sentinel, .sentinel, .sentinel], laidTests := true, laidLooks := .later }
def FnC2CutUptoCardSaid : Prop := Claim7.holds Tryd.pinned (.plain (OpenSpec.upto fnC2CutSpec)) fnC2CutUptoCard

/-- THE SECOND FORM's CARD OF 'laws.FnUvCut'. -/
def fnUvCutUptoCard : Claim7 := { stood := { row := fnUvCutUptoRow, standIns := [], harness := (true, "35fe9077a46bb7d3f082607b58529d243ebc8443d1419d1306b44563d0dc8f39"), looks := true }, kinds := [], alts := [], laidByText := true, laidKinds := [.sentinel, .sentinel, .sentinel], laidTests := true, laidLooks := .later }
def FnUvCutUptoCardSaid : Prop := Claim7.holds Tryd.pinned (.plain (OpenSpec.upto fnUvCutSpec)) fnUvCutUptoCard

/-- THE SECOND FORM's CARD OF 'laws.FnUvRead'. -/
def fnUvReadUptoCard : Claim7 := { stood := { row := fnUvReadUptoRow, standIns := [], harness := (true, "35fe9077a46bb7d3f082607b58529d243ebc8443d1419d1306b44563d0dc8f39"), looks := true }, kinds := [], alts := [], laidByText := true, laidKinds := [.sentinel, .sentinel, .sentinel], laidTests := true, laidLooks := .later }
def FnUvReadUptoCardSaid : Prop := Claim7.holds Tryd.pinned (.plain (OpenSpec.upto fnUvReadSpec)) fnUvReadUptoCard

/-- THE SECOND FORM's CARD OF 'laws.FnUvCanon'. -/
def fnUvCanonUptoCard : Claim7 := { stood := { row := fnUvCanonUptoRow, standIns := [], harness := (true, "35fe9077a46bb7d3f082607b58529d243ebc8443d1419d1306b44563d0dc8f39"), looks := true }, kinds := [], alts := [], laidByText := true, laidKinds := [.sentinel, .sentinel, .sentinel], laidTests := true, laidLooks := .later }
def FnUvCanonUptoCardSaid : Prop := Claim7.holds Tryd.pinned (.plain (OpenSpec.upto fnUvCanonSpec)) fnUvCanonUptoCard

/-- THE SECOND FORM's CARD OF 'laws.FnMhBack'. -/
def fnMhBackUptoCard : Claim7 := { stood := { row := fnMhBackUptoRow, standIns := [], harness := (true, "35fe9077a46bb7d3f082607b58529d243ebc8443d1419d1306b44563d0dc8f39"), looks := true }, kinds := [], alts := [], laidByText := true, laidKinds := [.sentinel, .sentinel, .sentinel, .sentinel, .sentinel, .sentinel], laidTests := true, laidLooks := .later }
def FnMhBackUptoCardSaid : Prop := Claim7.holds Tryd.pinned (.plain (OpenSpec.upto fnMhBackSpec)) fnMhBackUptoCard
end Rows
end Go.Proofs.YticnifjmicipnaaDoor
