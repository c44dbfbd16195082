/-
  DERIVED. GIVEN WITH THE SEED: THE CARDS: each row of Qxb6609199aFmtRows.lean that lists a variable, with what it lists TIED to the program's text (the seventh form; the later family's looks); each row that meets fmt, with fmt's text TOLD by the authors' own Lean function (tested against real Go, not proved from fmt's source: count such statements apart). THE CARD IS WHAT COUNTS. Prove the row's statement (the work); the ties are given (Qxb6609199aFmtTie.lean); close each card by the builder's one call (the guide's Derived/Test/ToyasCard.lean, 'card_holds'). Laid BY PROGRAM, IN A SANDBOX (cutbox-door.mjs). By AI agents, Wed Nov 11 2026. No macro, syntax, notation, axiom, sorry.
-/
import Derived.Test.Qxb6609199aFmtRows
import GoSem.ClaimSeven
namespace Go.Proofs.Qxb6609199aFmt
namespace Rows

/-- THE TOLD CARD OF 'zzlaws_internal_wire_b1.FnBytesFramesRoundTrip'. -/
def fnBytesFramesRoundTripCard : Claim7 := { stood := { row := fnBytesFramesRoundTripRow, standIns := [], harness := (true, "62e39d299f427c7ed077173a44d9bc97b857a7901afa8e12528005b882dd02e6"), looks := false }, told := true, goes := false }
def FnBytesFramesRoundTripToldSaid : Prop := Claim7.holds Tryf.pinned (.plain (OpenSpec.ofChange fnBytesFramesRoundTripSpec)) fnBytesFramesRoundTripCard
/-- ITS FALSE NEIGHBOUR. Refute it at one input. -/
def FnBytesFramesRoundTripToldWrongFalsely : Prop := Claim7.holds Tryf.pinned (.plain (OpenSpec.ofChange fnBytesFramesRoundTripWrong)) fnBytesFramesRoundTripCard

/-- THE TOLD CARD OF 'zzlaws_internal_wire_b1.FnCountExactLayout'. -/
def fnCountExactLayoutCard : Claim7 := { stood := { row := fnCountExactLayoutRow, standIns := [], harness := (true, "62e39d299f427c7ed077173a44d9bc97b857a7901afa8e12528005b882dd02e6"), looks := false }, told := true, goes := false }
def FnCountExactLayoutToldSaid : Prop := Claim7.holds Tryf.pinned (.plain (OpenSpec.ofChange fnCountExactLayoutSpec)) fnCountExactLayoutCard
/-- ITS FALSE NEIGHBOUR. Refute it at one input. -/
def FnCountExactLayoutToldWrongFalsely : Prop := Claim7.holds Tryf.pinned (.plain (OpenSpec.ofChange fnCountExactLayoutWrong)) fnCountExactLayoutCard

/-- THE TOLD CARD OF 'zzlaws_internal_wire_b1.FnCountThenBytesList'. -/
def fnCountThenBytesListCard : Claim7 := { stood := { row := fnCountThenBytesListRow, standIns := [], harness := (true, "62e39d299f427c7ed077173a44d9bc97b857a7901afa8e12528005b882dd02e6"), looks := false }, told := true, goes := false }
def FnCountThenBytesListToldSaid : Prop := Claim7.holds Tryf.pinned (.plain (OpenSpec.ofChange fnCountThenBytesListSpec)) fnCountThenBytesListCard
/-- ITS FALSE NEIGHBOUR. Refute it at one input. -/
def FnCountThenBytesListToldWrongFalsely : Prop := Claim7.holds Tryf.pinned (.plain (OpenSpec.ofChange fnCountThenBytesListWrong)) fnCountThenBytesListCard
end Rows
end Go.Proofs.Qxb6609199aFmt
