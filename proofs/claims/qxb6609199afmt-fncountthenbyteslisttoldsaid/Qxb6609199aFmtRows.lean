/-
  No cell of these rows narrows 'for every input' (looked for: loops, veiled, ifaces, maps, wideKeys, modest, calm, conditions, laid).
  DERIVED. THE GIVEN ROWS OF THIS SEAT. 3 by the template 'for every input the law returns true; each argument reads behind the call as it read before'; 0 by the template 'total and deterministic' (their statements: Qxb6609199aFmtTotals.lean).
  GIVEN WITH THE SEED: the statements are not yours to turn. If you find one false, say at which input.
  Laid BY PROGRAM, IN A SANDBOX (cutbox-rows.mjs): the forced cells as the released guide's own fill.sh prints them over the translation 4826d78c5026b6fa… (all of the seat's roots in one cut). By AI agents, Wed Nov 11 2026. No macro, syntax, notation, axiom, sorry.
-/
import Derived.Test.Qxb6609199aFmtChecked
import GoSem.Claim
import GoSem.ClaimJoined
import GoSem.ClaimMapViews
import Derived.JoinedTies
import Derived.KernelRfl
namespace Go.Proofs.Qxb6609199aFmt
/- THE CELL 'sum', in the pinned program and in every row, IS THE sha256 OF THE DUMP (.gsa) THAT Qxb6609199aFmtProg.lean LOADS. Nothing in Lean hashes anything: it is a label: what it is worth is what the hold of that sum in a sandbox is worth. -/
noncomputable def Tryf.pinned : Pinned := { name := "qxb6609199afmt", sum := "4826d78c5026b6faefc58cdbd101781454ff134740900317aa40aa9f411758de", checked := Tryf.checked }
namespace Rows
def none {H : Type} : Left H := { results := [], args := [] }

/-- 'zzlaws_internal_wire_b1.FnBytesFramesRoundTrip': WHATEVER THE INPUT: true; the input reads as it did. -/
def fnBytesFramesRoundTripSpec : ChangeSpec := { name := "fnBytesFramesRoundTrip", fn := fun _ => fun
  | [d1, d2, d3] => { results := [.lit (.bool true)], args := [d1, d2, d3] }
  | _ => none }
def fnBytesFramesRoundTripRow : OpenClaim := { program := "qxb6609199afmt", sum := "4826d78c5026b6faefc58cdbd101781454ff134740900317aa40aa9f411758de", func := "example.com/thriftcast/thriftcast/zzlaws_internal_wire_b1.FnBytesFramesRoundTrip", spec := "fnBytesFramesRoundTrip", stops := ["fmt.errorf"], inPlace := ["fmt.errorf"], named := ["encoding/binary.BigEndian"], apart := false }
/-- NO THEOREM (fmt's text is open here; it may be false): for the released tool's asking of the row's closed facts alone. THE STATEMENT IS 'FnBytesFramesRoundTripToldSaid' (Qxb6609199aFmtCards.lean). -/
def FnBytesFramesRoundTripFormAsk : Prop := fnBytesFramesRoundTripRow.holds Tryf.pinned (OpenSpec.ofChange fnBytesFramesRoundTripSpec)

/-- ITS FALSE NEIGHBOUR: 'it returns false'. Refute it at one input. -/
def fnBytesFramesRoundTripWrong : ChangeSpec := { name := "fnBytesFramesRoundTrip", fn := fun _ => fun
  | [d1, d2, d3] => { results := [.lit (.bool false)], args := [d1, d2, d3] }
  | _ => none }
def FnBytesFramesRoundTripWrongFormAsk : Prop := fnBytesFramesRoundTripRow.holds Tryf.pinned (OpenSpec.ofChange fnBytesFramesRoundTripWrong)

/-- 'zzlaws_internal_wire_b1.FnCountExactLayout': WHATEVER THE INPUT: true; the input reads as it did. -/
def fnCountExactLayoutSpec : ChangeSpec := { name := "fnCountExactLayout", fn := fun _ => fun
  | [d1, d2, d3] => { results := [.lit (.bool true)], args := [d1, d2, d3] }
  | _ => none }
def fnCountExactLayoutRow : OpenClaim := { program := "qxb6609199afmt", sum := "4826d78c5026b6faefc58cdbd101781454ff134740900317aa40aa9f411758de", func := "example.com/thriftcast/thriftcast/zzlaws_internal_wire_b1.FnCountExactLayout", spec := "fnCountExactLayout", stops := ["fmt.errorf"], inPlace := ["fmt.errorf"], named := ["encoding/binary.BigEndian"], apart := false }
/-- NO THEOREM (fmt's text is open here; it may be false): for the released tool's asking of the row's closed facts alone. THE STATEMENT IS 'FnCountExactLayoutToldSaid' (Qxb6609199aFmtCards.lean). -/
def FnCountExactLayoutFormAsk : Prop := fnCountExactLayoutRow.holds Tryf.pinned (OpenSpec.ofChange fnCountExactLayoutSpec)

/-- ITS FALSE NEIGHBOUR: 'it returns false'. Refute it at one input. -/
def fnCountExactLayoutWrong : ChangeSpec := { name := "fnCountExactLayout", fn := fun _ => fun
  | [d1, d2, d3] => { results := [.lit (.bool false)], args := [d1, d2, d3] }
  | _ => none }
def FnCountExactLayoutWrongFormAsk : Prop := fnCountExactLayoutRow.holds Tryf.pinned (OpenSpec.ofChange fnCountExactLayoutWrong)

/-- 'zzlaws_internal_wire_b1.FnCountThenBytesList': WHATEVER THE INPUT: true; the input reads as it did. -/
def fnCountThenBytesListSpec : ChangeSpec := { name := "fnCountThenBytesList", fn := fun _ => fun
  | [d1, d2] => { results := [.lit (.bool true)], args := [d1, d2] }
  | _ => none }
def fnCountThenBytesListRow : OpenClaim := { program := "qxb6609199afmt", sum := "4826d78c5026b6faefc58cdbd101781454ff134740900317aa40aa9f411758de", func := "example.com/thriftcast/thriftcast/zzlaws_internal_wire_b1.FnCountThenBytesList", spec := "fnCountThenBytesList", stops := ["fmt.errorf"], inPlace := ["fmt.errorf"], named := ["encoding/binary.BigEndian"], apart := false }
/-- NO THEOREM (fmt's text is open here; it may be false): for the released tool's asking of the row's closed facts alone. THE STATEMENT IS 'FnCountThenBytesListToldSaid' (Qxb6609199aFmtCards.lean). -/
def FnCountThenBytesListFormAsk : Prop := fnCountThenBytesListRow.holds Tryf.pinned (OpenSpec.ofChange fnCountThenBytesListSpec)

/-- ITS FALSE NEIGHBOUR: 'it returns false'. Refute it at one input. -/
def fnCountThenBytesListWrong : ChangeSpec := { name := "fnCountThenBytesList", fn := fun _ => fun
  | [d1, d2] => { results := [.lit (.bool false)], args := [d1, d2] }
  | _ => none }
def FnCountThenBytesListWrongFormAsk : Prop := fnCountThenBytesListRow.holds Tryf.pinned (OpenSpec.ofChange fnCountThenBytesListWrong)

end Rows
end Go.Proofs.Qxb6609199aFmt
