/-
  DERIVED. GIVEN WITH THE SEED: THE CARDS: each row of YtkaejhdncohgpaaGreatFmtRows.lean that lists a variable, with what it lists TIED to the program's text (the seventh form; the later family's looks); each row that meets fmt, with fmt's text TOLD by the authors' own Lean function (tested against real Go, not proved from fmt's source: count such statements apart). THE CARD IS WHAT COUNTS. Prove the row's statement (the work); the ties are given (YtkaejhdncohgpaaGreatFmtTie.lean); close each card by the builder's one call (the guide's Derived/Test/ToyasCard.lean, 'card_holds'). Laid BY PROGRAM, IN A SANDBOX (cutbox-door.mjs). By AI agents, Wed Nov 11 2026. No macro, syntax, notation, axiom, sorry.
-/
import Derived.Test.YtkaejhdncohgpaaGreatFmtRows
import GoSem.ClaimSeven
namespace Go.Proofs.YtkaejhdncohgpaaGreatFmt
namespace Rows

/-- THE TOLD AND TIED CARD OF 'laws.FnNamesAreRead'. -/
def fnNamesAreReadCard : Claim7 := { stood := { row := fnNamesAreReadRow, standIns := [], harness := (true, "6339c1c16f402ab53fb6b76672e9eddb9c3082f0c234fcf8ee9fc8a0f75a1b04"), looks := true }, told := true, laidByText := true, laidKinds := [.data, .data, .data, .data, .widerDeep, .pinned, .pinned], laidTests := true, laidLooks := .later, goes := false }
def FnNamesAreReadToldSaid : Prop := Claim7.holds Tryz.pinned (.plain (OpenSpec.ofChange fnNamesAreReadSpec)) fnNamesAreReadCard
/-- ITS FALSE NEIGHBOUR. Refute it at one input. -/
def FnNamesAreReadToldWrongFalsely : Prop := Claim7.holds Tryz.pinned (.plain (OpenSpec.ofChange fnNamesAreReadWrong)) fnNamesAreReadCard

/-- THE TOLD AND TIED CARD OF 'laws.FnNumbersAreRead'. -/
def fnNumbersAreReadCard : Claim7 := { stood := { row := fnNumbersAreReadRow, standIns := [], harness := (true, "6339c1c16f402ab53fb6b76672e9eddb9c3082f0c234fcf8ee9fc8a0f75a1b04"), looks := true }, told := true, laidByText := true, laidKinds := [.data, .data, .data, .data, .widerDeep, .pinned, .pinned], laidTests := true, laidLooks := .later, goes := false }
def FnNumbersAreReadToldSaid : Prop := Claim7.holds Tryz.pinned (.plain (OpenSpec.ofChange fnNumbersAreReadSpec)) fnNumbersAreReadCard
/-- ITS FALSE NEIGHBOUR. Refute it at one input. -/
def FnNumbersAreReadToldWrongFalsely : Prop := Claim7.holds Tryz.pinned (.plain (OpenSpec.ofChange fnNumbersAreReadWrong)) fnNumbersAreReadCard

/-- THE TOLD AND TIED CARD OF 'laws.FnStringsAreRead'. -/
def fnStringsAreReadCard : Claim7 := { stood := { row := fnStringsAreReadRow, standIns := [], harness := (true, "6339c1c16f402ab53fb6b76672e9eddb9c3082f0c234fcf8ee9fc8a0f75a1b04"), looks := true }, told := true, laidByText := true, laidKinds := [.data, .data, .data, .data, .widerDeep, .pinned, .pinned], laidTests := true, laidLooks := .later, goes := false }
def FnStringsAreReadToldSaid : Prop := Claim7.holds Tryz.pinned (.plain (OpenSpec.ofChange fnStringsAreReadSpec)) fnStringsAreReadCard
/-- ITS FALSE NEIGHBOUR. Refute it at one input. -/
def FnStringsAreReadToldWrongFalsely : Prop := Claim7.holds Tryz.pinned (.plain (OpenSpec.ofChange fnStringsAreReadWrong)) fnStringsAreReadCard

/-- THE TOLD AND TIED CARD OF 'laws.FnThreeRoads'. -/
def fnThreeRoadsCard : Claim7 := { stood := { row := fnThreeRoadsRow, standIns := [], harness := (true, "6339c1c16f402ab53fb6b76672e9eddb9c3082f0c234fcf8ee9fc8a0f75a1b04"), looks := true }, told := true, laidByText := true, laidKinds := [.data, .data, .data, .data, .widerDeep, .pinned, .pinned], laidTests := true, laidLooks := .later, goes := false }
def FnThreeRoadsToldSaid : Prop := Claim7.holds Tryz.pinned (.plain (OpenSpec.ofChange fnThreeRoadsSpec)) fnThreeRoadsCard
/-- ITS FALSE NEIGHBOUR. Refute it at one input. -/
def FnThreeRoadsToldWrongFalsely : Prop := Claim7.holds Tryz.pinned (.plain (OpenSpec.ofChange fnThreeRoadsWrong)) fnThreeRoadsCard
end Rows
end Go.Proofs.YtkaejhdncohgpaaGreatFmt
