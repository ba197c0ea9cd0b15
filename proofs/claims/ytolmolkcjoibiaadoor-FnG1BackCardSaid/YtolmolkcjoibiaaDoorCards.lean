/-
  DERIVED. GIVEN WITH THE SEED: THE CARDS: each row of YtolmolkcjoibiaaDoorRows.lean that lists a variable, with what it lists TIED to the program's text (the seventh form; the later family's looks); each row that meets fmt, with fmt's text TOLD by the authors' own Lean function (tested against real Go, not proved from fmt's source: count such statements apart). THE CARD IS WHAT COUNTS. Prove the row's statement (the work); the ties are given (YtolmolkcjoibiaaDoorTie.lean); close each card by the builder's one call (the guide's Derived/Test/ToyasCard.lean, 'card_holds'). Laid BY PROGRAM, IN A SANDBOX (cutbox-door.mjs). By AI agents, Wed Nov 11 2026. No macro, syntax, notation, axiom, sorry.
-/
import Derived.Test.YtolmolkcjoibiaaDoorRows
import GoSem.ClaimSeven
namespace Go.Proofs.YtolmolkcjoibiaaDoor
namespace Rows

/-- THE TIED CARD OF 'laws.FnG1Equal'. -/
def fnG1EqualCard : Claim7 := { stood := { row := fnG1EqualRow, standIns := [], harness := (true, "c66df10eeca9866c13f6b0dd719f147ca1fa4932f0636794f013b7494a087ea4"), looks := false }, kinds := [], alts := [], laidByText := true, laidKinds := [.sentinel], laidTests := true, laidLooks := .later }
def FnG1EqualCardSaid : Prop := Claim7.holds Tryd.pinned (.plain (OpenSpec.ofChange fnG1EqualSpec)) fnG1EqualCard

/-- THE TIED CARD OF 'laws.FnG2Equal'. -/
def fnG2EqualCard : Claim7 := { stood := { row := fnG2EqualRow, standIns := [], harness := (true, "c66df10eeca9866c13f6b0dd719f147ca1fa4932f0636794f013b7494a087ea4"), looks := false }, kinds := [], alts := [], laidByText := true, laidKinds := [.sentinel], laidTests := true, laidLooks := .later }
def FnG2EqualCardSaid : Prop := Claim7.holds Tryd.pinned (.plain (OpenSpec.ofChange fnG2EqualSpec)) fnG2EqualCard

/-- THE TIED CARD OF 'laws.FnG1OnCurve'. -/
def fnG1OnCurveCard : Claim7 := { stood := { row := fnG1OnCurveRow, standIns := [], harness := (true, "c66df10eeca9866c13f6b0dd719f147ca1fa4932f0636794f013b7494a087ea4"), looks := false }, kinds := [], alts := [], laidByText := true, laidKinds := [.sentinel], laidTests := true, laidLooks := .later }
def FnG1OnCurveCardSaid : Prop := Claim7.holds Tryd.pinned (.plain (OpenSpec.ofChange fnG1OnCurveSpec)) fnG1OnCurveCard

/-- THE TIED CARD OF 'laws.FnG2OnCurve'. -/
def fnG2OnCurveCard : Claim7 := { stood := { row := fnG2OnCurveRow, standIns := [], harness := (true, "c66df10eeca9866c13f6b0dd719f147ca1fa4932f0636794f013b7494a087ea4"), looks := false }, kinds := [], alts := [], laidByText := true, laidKinds := [.sentinel], laidTests := true, laidLooks := .later }
def FnG2OnCurveCardSaid : Prop := Claim7.holds Tryd.pinned (.plain (OpenSpec.ofChange fnG2OnCurveSpec)) fnG2OnCurveCard

/-- THE TIED CARD OF 'laws.FnG1Double'. -/
def fnG1DoubleCard : Claim7 := { stood := { row := fnG1DoubleRow, standIns := [], harness := (true, "c66df10eeca9866c13f6b0dd719f147ca1fa4932f0636794f013b7494a087ea4"), looks := false }, kinds := [], alts := [], laidByText := true, laidKinds := [.sentinel], laidTests := true, laidLooks := .later }
def FnG1DoubleCardSaid : Prop := Claim7.holds Tryd.pinned (.plain (OpenSpec.ofChange fnG1DoubleSpec)) fnG1DoubleCard

/-- THE TIED CARD OF 'laws.FnG1Back'. -/
def fnG1BackCard : Claim7 := { stood := { row := fnG1BackRow, standIns := [], harness := (true, "c66df10eeca9866c13f6b0dd719f147ca1fa4932f0636794f013b7494a087ea4"), looks := false }, kinds := [], alts := [], laidByText := true, laidKinds := [.sentinel], laidTests := true, laidLooks := .later }
def FnG1BackCardSaid : Prop := Claim7.holds Tryd.pinned (.plain (OpenSpec.ofChange fnG1BackSpec)) fnG1BackCard

/-- THE TIED CARD OF 'laws.FnG1Parse'. -/
def fnG1ParseCard : Claim7 := { stood := { row := fnG1ParseRow, standIns := [], harness := (true, "c66df10eeca9866c13f6b0dd719f147ca1fa4932f0636794f013b7494a087ea4"), looks := false }, kinds := [], alts := [], laidByText := true, laidKinds := [.sentinel], laidTests := true, laidLooks := .later }
def FnG1ParseCardSaid : Prop := Claim7.holds Tryd.pinned (.plain (OpenSpec.ofChange fnG1ParseSpec)) fnG1ParseCard

/-- THE TIED CARD OF 'laws.FnG1Add'. -/
def fnG1AddCard : Claim7 := { stood := { row := fnG1AddRow, standIns := [], harness := (true, "c66df10eeca9866c13f6b0dd719f147ca1fa4932f0636794f013b7494a087ea4"), looks := false }, kinds := [], alts := [], laidByText := true, laidKinds := [.sentinel], laidTests := true, laidLooks := .later }
def FnG1AddCardSaid : Prop := Claim7.holds Tryd.pinned (.plain (OpenSpec.ofChange fnG1AddSpec)) fnG1AddCard

/-- THE TIED CARD OF 'laws.FnG1Scaled'. -/
def fnG1ScaledCard : Claim7 := { stood := { row := fnG1ScaledRow, standIns := [], harness := (true, "c66df10eeca9866c13f6b0dd719f147ca1fa4932f0636794f013b7494a087ea4"), looks := false }, kinds := [], alts := [], laidByText := true, laidKinds := [.sentinel], laidTests := true, laidLooks := .later }
def FnG1ScaledCardSaid : Prop := Claim7.holds Tryd.pinned (.plain (OpenSpec.ofChange fnG1ScaledSpec)) fnG1ScaledCard

/-- THE TIED CARD OF 'laws.FnG1Jac'. -/
def fnG1JacCard : Claim7 := { stood := { row := fnG1JacRow, standIns := [], harness := (true, "c66df10eeca9866c13f6b0dd719f147ca1fa4932f0636794f013b7494a087ea4"), looks := false }, kinds := [], alts := [], laidByText := true, laidKinds := [.sentinel], laidTests := true, laidLooks := .later }
def FnG1JacCardSaid : Prop := Claim7.holds Tryd.pinned (.plain (OpenSpec.ofChange fnG1JacSpec)) fnG1JacCard

/-- THE SECOND FORM's CARD OF 'laws.FnG1Equal'. -/
def fnG1EqualUptoCard : Claim7 := { stood := { row := fnG1EqualUptoRow, standIns := [], harness := (true, "c66df10eeca9866c13f6b0dd719f147ca1fa4932f0636794f013b7494a087ea4"), looks := false }, kinds := [], alts := [], laidByText := true, laidKinds := [.sentinel], laidTests := true, laidLooks := .later }
def FnG1EqualUptoCardSaid : Prop := Claim7.holds Tryd.pinned (.plain (OpenSpec.upto fnG1EqualSpec)) fnG1EqualUptoCard

/-- THE SECOND FORM's CARD OF 'laws.FnG2Equal'. -/
def fnG2EqualUptoCard : Claim7 := { stood := { row := fnG2EqualUptoRow, standIns := [], harness := (true, "c66df10eeca9866c13f6b0dd719f147ca1fa4932f0636794f013b7494a087ea4"), looks := false }, kinds := [], alts := [], laidByText := true, laidKinds := [.sentinel], laidTests := true, laidLooks := .later }
def FnG2EqualUptoCardSaid : Prop := Claim7.holds Tryd.pinned (.plain (OpenSpec.upto fnG2EqualSpec)) fnG2EqualUptoCard

/-- THE SECOND FORM's CARD OF 'laws.FnG1OnCurve'. -/
def fnG1OnCurveUptoCard : Claim7 := { stood := { row := fnG1OnCurveUptoRow, standIns := [], harness := (true, "c66df10eeca9866c13f6b0dd719f147ca1fa4932f0636794f013b7494a087ea4"), looks := false }, kinds := [], alts := [], laidByText := true, laidKinds := [.sentinel], laidTests := true, laidLooks := .later }
def FnG1OnCurveUptoCardSaid : Prop := Claim7.holds Tryd.pinned (.plain (OpenSpec.upto fnG1OnCurveSpec)) fnG1OnCurveUptoCard

/-- THE SECOND FORM's CARD OF 'laws.FnG2OnCurve'. -/
def fnG2OnCurveUptoCard : Claim7 := { stood := { row := fnG2OnCurveUptoRow, standIns := [], harness := (true, "c66df10eeca9866c13f6b0dd719f147ca1fa4932f0636794f013b7494a087ea4"), looks := false }, kinds := [], alts := [], laidByText := true, laidKinds := [.sentinel], laidTests := true, laidLooks := .later }
def FnG2OnCurveUptoCardSaid : Prop := Claim7.holds Tryd.pinned (.plain (OpenSpec.upto fnG2OnCurveSpec)) fnG2OnCurveUptoCard

/-- THE SECOND FORM's CARD OF 'laws.FnG1Double'. -/
def fnG1DoubleUptoCard : Claim7 := { stood := { row := fnG1DoubleUptoRow, standIns := [], harness := (true, "c66df10eeca9866c13f6b0dd719f147ca1fa4932f0636794f013b7494a087ea4"), looks := false }, kinds := [], alts := [], laidByText := true, laidKinds := [.sentinel], laidTests := true, laidLooks := .later }
def FnG1DoubleUptoCardSaid : Prop := Claim7.holds Tryd.pinned (.plain (OpenSpec.upto fnG1DoubleSpec)) fnG1DoubleUptoCard

/-- THE SECOND FORM's CARD OF 'laws.FnG1Back'. -/
def fnG1BackUptoCard : Claim7 := { stood := { row := fnG1BackUptoRow, standIns := [], harness := (true, "c66df10eeca9866c13f6b0dd719f147ca1fa4932f0636794f013b7494a087ea4"), looks := false }, kinds := [], alts := [], laidByText := true, laidKinds := [.sentinel], laidTests := true, laidLooks := .later }
def FnG1BackUptoCardSaid : Prop := Claim7.holds Tryd.pinned (.plain (OpenSpec.upto fnG1BackSpec)) fnG1BackUptoCard

/-- THE SECOND FORM's CARD OF 'laws.FnG1Parse'. -/
def fnG1ParseUptoCard : Claim7 := { stood := { row := fnG1ParseUptoRow, standIns := [], harness := (true, "c66df10eeca9866c13f6b0dd719f147ca1fa4932f0636794f013b7494a087ea4"), looks := false }, kinds := [], alts := [], laidByText := true, laidKinds := [.sentinel], laidTests := true, laidLooks := .later }
def FnG1ParseUptoCardSaid : Prop := Claim7.holds Tryd.pinned (.plain (OpenSpec.upto fnG1ParseSpec)) fnG1ParseUptoCard

/-- THE SECOND FORM's CARD OF 'laws.FnG1Add'. -/
def fnG1AddUptoCard : Claim7 := { stood := { row := fnG1AddUptoRow, standIns := [], harness := (true, "c66df10eeca9866c13f6b0dd719f147ca1fa4932f0636794f013b7494a087ea4"), looks := false }, kinds := [], alts := [], laidByText := true, laidKinds := [.sentinel], laidTests := true, laidLooks := .later }
def FnG1AddUptoCardSaid : Prop := Claim7.holds Tryd.pinned (.plain (OpenSpec.upto fnG1AddSpec)) fnG1AddUptoCard

/-- THE SECOND FORM's CARD OF 'laws.FnG1Scaled'. -/
def fnG1ScaledUptoCard : Claim7 := { stood := { row := fnG1ScaledUptoRow, standIns := [], harness := (true, "c66df10eeca9866c13f6b0dd719f147ca1fa4932f0636794f013b7494a087ea4"), looks := false }, kinds := [], alts := [], laidByText := true, laidKinds := [.sentinel], laidTests := true, laidLooks := .later }
def FnG1ScaledUptoCardSaid : Prop := Claim7.holds Tryd.pinned (.plain (OpenSpec.upto fnG1ScaledSpec)) fnG1ScaledUptoCard

/-- THE SECOND FORM's CARD OF 'laws.FnG1Jac'. -/
def fnG1JacUptoCard : Claim7 := { stood := { row := fnG1JacUptoRow, standIns := [], harness := (true, "c66df10eeca9866c13f6b0dd719f147ca1fa4932f0636794f013b7494a087ea4"), looks := false }, kinds := [], alts := [], laidByText := true, laidKinds := [.sentinel], laidTests := true, laidLooks := .later }
def FnG1JacUptoCardSaid : Prop := Claim7.holds Tryd.pinned (.plain (OpenSpec.upto fnG1JacSpec)) fnG1JacUptoCard
end Rows
end Go.Proofs.YtolmolkcjoibiaaDoor
