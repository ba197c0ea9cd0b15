/-
  DERIVED. GIVEN WITH THE SEED: THE CARDS: each row of YtolmolkcjoibiaaGreatDoorRows.lean that lists a variable, with what it lists TIED to the program's text (the seventh form; the later family's looks); each row that meets fmt, with fmt's text TOLD by the authors' own Lean function (tested against real Go, not proved from fmt's source: count such statements apart). THE CARD IS WHAT COUNTS. Prove the row's statement (the work); the ties are given (YtolmolkcjoibiaaGreatDoorTie.lean); close each card by the builder's one call (the guide's Derived/Test/ToyasCard.lean, 'card_holds'). Laid BY PROGRAM, IN A SANDBOX (cutbox-door.mjs). By AI agents, Wed Nov 11 2026. No macro, syntax, notation, axiom, sorry.
-/
import Derived.Test.YtolmolkcjoibiaaGreatDoorRows
import GoSem.ClaimSeven
namespace Go.Proofs.YtolmolkcjoibiaaGreatDoor
namespace Rows

/-- THE TIED CARD OF 'laws.FnG2Double'. -/
def fnG2DoubleCard : Claim7 := { stood := { row := fnG2DoubleRow, standIns := [], harness := (true, "f2648099bb7abc2604f62af61bb05ba0969b06e2b5e1c790f944b91b60f78f09"), looks := false }, kinds := [], alts := [], laidByText := true, laidKinds := [.sentinel], laidTests := true, laidLooks := .later }
def FnG2DoubleCardSaid : Prop := Claim7.holds Tryz.pinned (.plain (OpenSpec.ofChange fnG2DoubleSpec)) fnG2DoubleCard

/-- THE TIED CARD OF 'laws.FnG2Add'. -/
def fnG2AddCard : Claim7 := { stood := { row := fnG2AddRow, standIns := [], harness := (true, "f2648099bb7abc2604f62af61bb05ba0969b06e2b5e1c790f944b91b60f78f09"), looks := false }, kinds := [], alts := [], laidByText := true, laidKinds := [.sentinel], laidTests := true, laidLooks := .later }
def FnG2AddCardSaid : Prop := Claim7.holds Tryz.pinned (.plain (OpenSpec.ofChange fnG2AddSpec)) fnG2AddCard

/-- THE TIED CARD OF 'laws.FnG2Scaled'. -/
def fnG2ScaledCard : Claim7 := { stood := { row := fnG2ScaledRow, standIns := [], harness := (true, "f2648099bb7abc2604f62af61bb05ba0969b06e2b5e1c790f944b91b60f78f09"), looks := false }, kinds := [], alts := [], laidByText := true, laidKinds := [.sentinel], laidTests := true, laidLooks := .later }
def FnG2ScaledCardSaid : Prop := Claim7.holds Tryz.pinned (.plain (OpenSpec.ofChange fnG2ScaledSpec)) fnG2ScaledCard

/-- THE TIED CARD OF 'laws.FnG2Jac'. -/
def fnG2JacCard : Claim7 := { stood := { row := fnG2JacRow, standIns := [], harness := (true, "f2648099bb7abc2604f62af61bb05ba0969b06e2b5e1c790f944b91b60f78f09"), looks := false }, kinds := [], alts := [], laidByText := true, laidKinds := [.sentinel], laidTests := true, laidLooks := .later }
def FnG2JacCardSaid : Prop := Claim7.holds Tryz.pinned (.plain (OpenSpec.ofChange fnG2JacSpec)) fnG2JacCard

/-- THE SECOND FORM's CARD OF 'laws.FnG2Double'. -/
def fnG2DoubleUptoCard : Claim7 := { stood := { row := fnG2DoubleUptoRow, standIns := [], harness := (true, "f2648099bb7abc2604f62af61bb05ba0969b06e2b5e1c790f944b91b60f78f09"), looks := false }, kinds := [], alts := [], laidByText := true, laidKinds := [.sentinel], laidTests := true, laidLooks := .later }
def FnG2DoubleUptoCardSaid : Prop := Claim7.holds Tryz.pinned (.plain (OpenSpec.upto fnG2DoubleSpec)) fnG2DoubleUptoCard

/-- THE SECOND FORM's CARD OF 'laws.FnG2Add'. -/
def fnG2AddUptoCard : Claim7 := { stood := { row := fnG2AddUptoRow, standIns := [], harness := (true, "f2648099bb7abc2604f62af61bb05ba0969b06e2b5e1c790f944b91b60f78f09"), looks := false }, kinds := [], alts := [], laidByText := true, laidKinds := [.sentinel], laidTests := true, laidLooks := .later }
def FnG2AddUptoCardSaid : Prop := Claim7.holds Tryz.pinned (.plain (OpenSpec.upto fnG2AddSpec)) fnG2AddUptoCard

/-- THE SECOND FORM's CARD OF 'laws.FnG2Scaled'. -/
def fnG2ScaledUptoCard : Claim7 := { stood := { row := fnG2ScaledUptoRow, standIns := [], harness := (true, "f2648099bb7abc2604f62af61bb05ba0969b06e2b5e1c790f944b91b60f78f09"), looks := false }, kinds := [], alts := [], laidByText := true, laidKinds := [.sentinel], laidTests := true, laidLooks := .later }
def FnG2ScaledUptoCardSaid : Prop := Claim7.holds Tryz.pinned (.plain (OpenSpec.upto fnG2ScaledSpec)) fnG2ScaledUptoCard

/-- THE SECOND FORM's CARD OF 'laws.FnG2Jac'. -/
def fnG2JacUptoCard : Claim7 := { stood := { row := fnG2JacUptoRow, standIns := [], harness := (true, "f2648099bb7abc2604f62af61bb05ba0969b06e2b5e1c790f944b91b60f78f09"), looks := false }, kinds := [], alts := [], laidByText := true, laidKinds := [.sentinel], laidTests := true, laidLooks := .later }
def FnG2JacUptoCardSaid : Prop := Claim7.holds Tryz.pinned (.plain (OpenSpec.upto fnG2JacSpec)) fnG2JacUptoCard
end Rows
end Go.Proofs.YtolmolkcjoibiaaGreatDoor
