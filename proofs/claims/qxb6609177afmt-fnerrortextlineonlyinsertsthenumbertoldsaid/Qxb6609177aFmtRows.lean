/-
  No cell of these rows narrows 'for every input' (looked for: loops, veiled, ifaces, maps, wideKeys, modest, calm, conditions, laid).
  DERIVED. THE GIVEN ROWS OF THIS SEAT. 1 by the template 'for every input the law returns true; each argument reads behind the call as it read before'; 0 by the template 'total and deterministic' (their statements: Qxb6609177aFmtTotals.lean).
  GIVEN WITH THE SEED: the statements are not yours to turn. If you find one false, say at which input.
  Laid BY PROGRAM, IN A SANDBOX (cutbox-rows.mjs): the forced cells as the released guide's own fill.sh prints them over the translation 776224c26732cd5d… (all of the seat's roots in one cut). By AI agents, Wed Nov 11 2026. No macro, syntax, notation, axiom, sorry.
-/
import Derived.Test.Qxb6609177aFmtChecked
import GoSem.Claim
import GoSem.ClaimJoined
import GoSem.ClaimMapViews
import Derived.JoinedTies
import Derived.KernelRfl
namespace Go.Proofs.Qxb6609177aFmt
/- THE CELL 'sum', in the pinned program and in every row, IS THE sha256 OF THE DUMP (.gsa) THAT Qxb6609177aFmtProg.lean LOADS. Nothing in Lean hashes anything: it is a label: what it is worth is what the hold of that sum in a sandbox is worth. -/
noncomputable def Tryf.pinned : Pinned := { name := "qxb6609177afmt", sum := "776224c26732cd5d329a587a27480a8ca264145a61878ede8efb52afeffb7b87", checked := Tryf.checked }
namespace Rows
def none {H : Type} : Left H := { results := [], args := [] }

/-- 'zzlaws_internal_input_b1.FnErrorTextLineOnlyInsertsTheNumber': WHATEVER THE INPUT: true; the input reads as it did. -/
def fnErrorTextLineOnlyInsertsTheNumberSpec : ChangeSpec := { name := "fnErrorTextLineOnlyInsertsTheNumber", fn := fun _ => fun
  | [d1, d2, d3, d4] => { results := [.lit (.bool true)], args := [d1, d2, d3, d4] }
  | _ => none }
def fnErrorTextLineOnlyInsertsTheNumberRow : OpenClaim := { program := "qxb6609177afmt", sum := "776224c26732cd5d329a587a27480a8ca264145a61878ede8efb52afeffb7b87", func := "example.com/verdicta/verdicta/zzlaws_internal_input_b1.FnErrorTextLineOnlyInsertsTheNumber", spec := "fnErrorTextLineOnlyInsertsTheNumber", stops := ["fmt.Sprintf, its operands' methods called"], inPlace := ["fmt.Sprintf"], unfollowed := true, recurses := true, apart := false }
/-- NO THEOREM (fmt's text is open here; it may be false): for the released tool's asking of the row's closed facts alone. THE STATEMENT IS 'FnErrorTextLineOnlyInsertsTheNumberToldSaid' (Qxb6609177aFmtCards.lean). -/
def FnErrorTextLineOnlyInsertsTheNumberFormAsk : Prop := fnErrorTextLineOnlyInsertsTheNumberRow.holds Tryf.pinned (OpenSpec.ofChange fnErrorTextLineOnlyInsertsTheNumberSpec)

/-- ITS FALSE NEIGHBOUR: 'it returns false'. Refute it at one input. -/
def fnErrorTextLineOnlyInsertsTheNumberWrong : ChangeSpec := { name := "fnErrorTextLineOnlyInsertsTheNumber", fn := fun _ => fun
  | [d1, d2, d3, d4] => { results := [.lit (.bool false)], args := [d1, d2, d3, d4] }
  | _ => none }
def FnErrorTextLineOnlyInsertsTheNumberWrongFormAsk : Prop := fnErrorTextLineOnlyInsertsTheNumberRow.holds Tryf.pinned (OpenSpec.ofChange fnErrorTextLineOnlyInsertsTheNumberWrong)

end Rows
end Go.Proofs.Qxb6609177aFmt
