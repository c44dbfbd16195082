/-
  DERIVED. GIVEN WITH THE SEED: THE CARDS: each row of Qxb6609177aFmtRows.lean that lists a variable, with what it lists TIED to the program's text (the seventh form; the later family's looks); each row that meets fmt, with fmt's text TOLD by the authors' own Lean function (tested against real Go, not proved from fmt's source: count such statements apart). THE CARD IS WHAT COUNTS. Prove the row's statement (the work); the ties are given (Qxb6609177aFmtTie.lean); close each card by the builder's one call (the guide's Derived/Test/ToyasCard.lean, 'card_holds'). Laid BY PROGRAM, IN A SANDBOX (cutbox-door.mjs). By AI agents, Wed Nov 11 2026. No macro, syntax, notation, axiom, sorry.
-/
import Derived.Test.Qxb6609177aFmtRows
import GoSem.ClaimSeven
namespace Go.Proofs.Qxb6609177aFmt
namespace Rows

/-- THE TOLD CARD OF 'zzlaws_internal_input_b1.FnErrorTextLineOnlyInsertsTheNumber'. -/
def fnErrorTextLineOnlyInsertsTheNumberCard : Claim7 := { stood := { row := fnErrorTextLineOnlyInsertsTheNumberRow, standIns := [], harness := (true, "53a2953023b744e0a11c4010a5fbbceb9115ef1d06724be9299666816ade2958"), looks := false }, told := true, goes := false }
def FnErrorTextLineOnlyInsertsTheNumberToldSaid : Prop := Claim7.holds Tryf.pinned (.plain (OpenSpec.ofChange fnErrorTextLineOnlyInsertsTheNumberSpec)) fnErrorTextLineOnlyInsertsTheNumberCard
/-- ITS FALSE NEIGHBOUR. Refute it at one input. -/
def FnErrorTextLineOnlyInsertsTheNumberToldWrongFalsely : Prop := Claim7.holds Tryf.pinned (.plain (OpenSpec.ofChange fnErrorTextLineOnlyInsertsTheNumberWrong)) fnErrorTextLineOnlyInsertsTheNumberCard
end Rows
end Go.Proofs.Qxb6609177aFmt
