/-
  DERIVED. GIVEN WITH THE SEED: THE CARDS: each row of YtgikfcmcgpcckaaGreatDoorRows.lean that lists a variable, with what it lists TIED to the program's text (the seventh form; the later family's looks); each row that meets fmt, with fmt's text TOLD by the authors' own Lean function (tested against real Go, not proved from fmt's source: count such statements apart). THE CARD IS WHAT COUNTS. Prove the row's statement (the work); the ties are given (YtgikfcmcgpcckaaGreatDoorTie.lean); close each card by the builder's one call (the guide's Derived/Test/ToyasCard.lean, 'card_holds'). Laid BY PROGRAM, IN A SANDBOX (cutbox-door.mjs). By AI agents, Wed Nov 11 2026. No macro, syntax, notation, axiom, sorry.
-/
import Derived.Test.YtgikfcmcgpcckaaGreatDoorRows
import GoSem.ClaimSeven
namespace Go.Proofs.YtgikfcmcgpcckaaGreatDoor
namespace Rows

/-- THE TIED CARD OF 'laws.FnExactDegree'. -/
def fnExactDegreeCard : Claim7 := { stood := { row := fnExactDegreeRow, standIns := [], harness := (true, "e78cae4d544de3fd0928ef7141205255c1bc93aa717bdd9ab89fa42b678c9542"), looks := true }, kinds := [], alts := [], laidByText := true, laidKinds := [.sentinel, .sentinel, .sentinel], laidTests := true, laidLooks := .later }
def FnExactDegreeCardSaid : Prop := Claim7.holds Tryz.pinned (.plain (OpenSpec.ofChange fnExactDegreeSpec)) fnExactDegreeCard

/-- THE TIED CARD OF 'laws.FnExactCoefficient'. -/
def fnExactCoefficientCard : Claim7 := { stood := { row := fnExactCoefficientRow, standIns := [], harness := (true, "e78cae4d544de3fd0928ef7141205255c1bc93aa717bdd9ab89fa42b678c9542"), looks := true }, kinds := [], alts := [], laidByText := true, laidKinds := [.sentinel, .sentinel, .sentinel], laidTests := true, laidLooks := .later }
def FnExactCoefficientCardSaid : Prop := Claim7.holds Tryz.pinned (.plain (OpenSpec.ofChange fnExactCoefficientSpec)) fnExactCoefficientCard

/-- THE SECOND FORM's CARD OF 'laws.FnExactDegree'. -/
def fnExactDegreeUptoCard : Claim7 := { stood := { row := fnExactDegreeUptoRow, standIns := [], harness := (true, "e78cae4d544de3fd0928ef7141205255c1bc93aa717bdd9ab89fa42b678c9542"), looks := true }, kinds := [], alts := [], laidByText := true, laidKinds := [.sentinel, .sentinel, .sentinel], laidTests := true, laidLooks := .later }
def FnExactDegreeUptoCardSaid : Prop := Claim7.holds Tryz.pinned (.plain (OpenSpec.upto fnExactDegreeSpec)) fnExactDegreeUptoCard

/-- THE SECOND FORM's CARD OF 'laws.FnExactCoefficient'. -/
def fnExactCoefficientUptoCard : Claim7 := { stood := { row := fnExactCoefficientUptoRow, standIns := [], harness := (true, "e78cae4d544de3fd0928ef7141205255c1bc93aa717bdd9ab89fa42b678c9542"), looks := true }, kinds := [], alts := [], laidByText := true, laidKinds := [.sentinel, .sentinel, .sentinel], laidTests := true, laidLooks := .later }
def FnExactCoefficientUptoCardSaid : Prop := Claim7.holds Tryz.pinned (.plain (OpenSpec.upto fnExactCoefficientSpec)) fnExactCoefficientUptoCard
end Rows
end Go.Proofs.YtgikfcmcgpcckaaGreatDoor
