/-
  DERIVED. GIVEN WITH THE SEED: THE CARDS: each row of YtglkonccinpdnaaGreatDoorRows.lean that lists a variable, with what it lists TIED to the program's text (the seventh form; the later family's looks); each row that meets fmt, with fmt's text TOLD by the authors' own Lean function (tested against real Go, not proved from fmt's source: count such statements apart). THE CARD IS WHAT COUNTS. Prove the row's statement (the work); the ties are given (YtglkonccinpdnaaGreatDoorTie.lean); close each card by the builder's one call (the guide's Derived/Test/ToyasCard.lean, 'card_holds'). Laid BY PROGRAM, IN A SANDBOX (cutbox-door.mjs). By AI agents, Wed Nov 11 2026. No macro, syntax, notation, axiom, sorry.
-/
import Derived.Test.YtglkonccinpdnaaGreatDoorRows
import GoSem.ClaimSeven
namespace Go.Proofs.YtglkonccinpdnaaGreatDoor
namespace Rows

/-- THE TIED CARD OF 'laws.FnC2Index'. -/
def fnC2IndexCard : Claim7 := { stood := { row := fnC2IndexRow, standIns := [], harness := (true, "97e9377aaee49e98c6f687f65031f9392afd7312b3c8bb01ef46289c11567034"), looks := true }, kinds := [], alts := [], laidByText := true, laidKinds := [.sentinel, .sentinel, .sentinel, .sentinel, .sentinel, .sentinel, .sentinel, .sentinel, .sentinel, .sentinel, .sentinel, .sentinel, .sentinel, .sentinel, .sentinel, .data, .sentinel, .sentinel, .sentinel], laidTests := true, laidLooks := .later }
def FnC2IndexCardSaid : Prop := Claim7.holds Tryz.pinned (.plain (OpenSpec.ofChange fnC2IndexSpec)) fnC2IndexCard

/-- THE TIED CARD OF 'laws.FnC2File1'. -/
def fnC2File1Card : Claim7 := { stood := { row := fnC2File1Row, standIns := [], harness := (true, "97e9377aaee49e98c6f687f65031f9392afd7312b3c8bb01ef46289c11567034"), looks := true }, kinds := [], alts := [], laidByText := true, laidKinds := [.sentinel, .sentinel, .sentinel, .sentinel, .sentinel, .sentinel, .sentinel, .sentinel, .sentinel, .sentinel, .sentinel, .sentinel, .sentinel, .sentinel, .sentinel, .data, .sentinel, .sentinel, .sentinel], laidTests := true, laidLooks := .later }
def FnC2File1CardSaid : Prop := Claim7.holds Tryz.pinned (.plain (OpenSpec.ofChange fnC2File1Spec)) fnC2File1Card

/-- THE SECOND FORM's CARD OF 'laws.FnC2Index'. -/
def fnC2IndexUptoCard : Claim7 := { stood := { row := fnC2IndexUptoRow, standIns := [], harness := (true, "97e9377aaee49e98c6f687f65031f9392afd7312b3c8bb01ef46289c11567034"), looks := true }, kinds := [], alts := [], laidByText := true, laidKinds := [.sentinel, .sentinel, .sentinel, .sentinel, .sentinel, .sentinel, .sentinel, .sentinel, .sentinel, .sentinel, .sentinel, .sentinel, .sentinel, .sentinel, .sentinel, .data, .sentinel, .sentinel, .sentinel], laidTests := true, laidLooks := .later }
def FnC2IndexUptoCardSaid : Prop := Claim7.holds Tryz.pinned (.plain (OpenSpec.upto fnC2IndexSpec)) fnC2IndexUptoCard

/-- THE SECOND FORM's CARD OF 'laws.FnC2File1'. -/
def fnC2File1UptoCard : Claim7 := { stood := { row := fnC2File1UptoRow, standIns := [], harness := (true, "97e9377aaee49e98c6f687f65031f9392afd7312b3c8bb01ef46289c11567034"), looks := true }, kinds := [], alts := [], laidByText := true, laidKinds := [.sentinel, .sentinel, .sentinel, .sentinel, .sentinel, .sentinel, .sentinel, .sentinel, .sentinel, .sentinel, .sentinel, .sentinel, .sentinel, .sentinel, .sentinel, .data, .sentinel, .sentinel, .sentinel], laidTests := true, laidLooks := .later }
def FnC2File1UptoCardSaid : Prop := Claim7.holds Tryz.pinned (.plain (OpenSpec.upto fnC2File1Spec)) fnC2File1UptoCard
end Rows
end Go.Proofs.YtglkonccinpdnaaGreatDoor
