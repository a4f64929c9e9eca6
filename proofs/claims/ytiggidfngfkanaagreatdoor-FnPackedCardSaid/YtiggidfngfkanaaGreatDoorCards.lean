/-
  DERIVED. GIVEN WITH THE SEED: THE CARDS: each row of YtiggidfngfkanaaGreatDoorRows.lean that lists a variable, with what it lists TIED to the program's text (the seventh form; the later family's looks); each row that meets fmt, with fmt's text TOLD by the authors' own Lean function (tested against real Go, not proved from fmt's source: count such statements apart). THE CARD IS WHAT COUNTS. Prove the row's statement (the work); the ties are given (YtiggidfngfkanaaGreatDoorTie.lean); close each card by the builder's one call (the guide's Derived/Test/ToyasCard.lean, 'card_holds'). Laid BY PROGRAM, IN A SANDBOX (cutbox-door.mjs). By AI agents, Wed Nov 11 2026. No macro, syntax, notation, axiom, sorry.
-/
import Derived.Test.YtiggidfngfkanaaGreatDoorRows
import GoSem.ClaimSeven
namespace Go.Proofs.YtiggidfngfkanaaGreatDoor
namespace Rows

/-- THE TIED CARD OF 'laws.FnKey'. -/
def fnKeyCard : Claim7 := { stood := { row := fnKeyRow, standIns := [], harness := (true, "69d087a4d84a754a81cbb38d4307530fe15e50dd9645174c4e30c43f54666b22"), looks := true }, kinds := [], alts := [], laidByText := true, laidKinds := [.sentinel, .sentinel, .sentinel, .sentinel, .sentinel, .data, .data, .data, .data], laidTests := true, laidLooks := .later }
def FnKeyCardSaid : Prop := Claim7.holds Tryz.pinned (.plain (OpenSpec.ofChange fnKeySpec)) fnKeyCard

/-- THE TIED CARD OF 'laws.FnKeyBy'. -/
def fnKeyByCard : Claim7 := { stood := { row := fnKeyByRow, standIns := [], harness := (true, "69d087a4d84a754a81cbb38d4307530fe15e50dd9645174c4e30c43f54666b22"), looks := true }, kinds := [], alts := [], laidByText := true, laidKinds := [.sentinel, .sentinel, .sentinel, .sentinel, .sentinel, .data, .data, .data, .data], laidTests := true, laidLooks := .later }
def FnKeyByCardSaid : Prop := Claim7.holds Tryz.pinned (.plain (OpenSpec.ofChange fnKeyBySpec)) fnKeyByCard

/-- THE TIED CARD OF 'laws.FnPacked'. -/
def fnPackedCard : Claim7 := { stood := { row := fnPackedRow, standIns := [], harness := (true, "69d087a4d84a754a81cbb38d4307530fe15e50dd9645174c4e30c43f54666b22"), looks := true }, kinds := [], alts := [], laidByText := true, laidKinds := [.data, .data, .sentinel, .sentinel, .sentinel, .data, .data, .data, .data, .data], laidTests := true, laidLooks := .later }
def FnPackedCardSaid : Prop := Claim7.holds Tryz.pinned (.plain (OpenSpec.ofChange fnPackedSpec)) fnPackedCard

/-- THE SECOND FORM's CARD OF 'laws.FnKey'. -/
def fnKeyUptoCard : Claim7 := { stood := { row := fnKeyUptoRow, standIns := [], harness := (true, "69d087a4d84a754a81cbb38d4307530fe15e50dd9645174c4e30c43f54666b22"), looks := true }, kinds := [], alts := [], laidByText := true, laidKinds := [.sentinel, .sentinel, .sentinel, .sentinel, .sentinel, .data, .data, .data, .data], laidTests := true, laidLooks := .later }
def FnKeyUptoCardSaid : Prop := Claim7.holds Tryz.pinned (.plain (OpenSpec.upto fnKeySpec)) fnKeyUptoCard

/-- THE SECOND FORM's CARD OF 'laws.FnKeyBy'. -/
def fnKeyByUptoCard : Claim7 := { stood := { row := fnKeyByUptoRow, standIns := [], harness := (true, "69d087a4d84a754a81cbb38d4307530fe15e50dd9645174c4e30c43f54666b22"), looks := true }, kinds := [], alts := [], laidByText := true, laidKinds := [.sentinel, .sentinel, .sentinel, .sentinel, .sentinel, .data, .data, .data, .data], laidTests := true, laidLooks := .later }
def FnKeyByUptoCardSaid : Prop := Claim7.holds Tryz.pinned (.plain (OpenSpec.upto fnKeyBySpec)) fnKeyByUptoCard

/-- THE SECOND FORM's CARD OF 'laws.FnPacked'. -/
def fnPackedUptoCard : Claim7 := { stood := { row := fnPackedUptoRow, standIns := [], harness := (true, "69d087a4d84a754a81cbb38d4307530fe15e50dd9645174c4e30c43f54666b22"), looks := true }, kinds := [], alts := [], laidByText := true, laidKinds := [.data, .data, .sentinel, .sentinel, .sentinel, .data, .data, .data, .data, .data], laidTests := true, laidLooks := .later }
def FnPackedUptoCardSaid : Prop := Claim7.holds Tryz.pinned (.plain (OpenSpec.upto fnPackedSpec)) fnPackedUptoCard
end Rows
end Go.Proofs.YtiggidfngfkanaaGreatDoor
