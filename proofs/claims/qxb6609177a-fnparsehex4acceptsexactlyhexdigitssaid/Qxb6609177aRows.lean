/-
  No cell of these rows narrows 'for every input' (looked for: loops, veiled, ifaces, maps, wideKeys, modest, calm, conditions, laid).
  DERIVED. THE GIVEN ROWS OF THIS SEAT. 2 by the template 'for every input the law returns true; each argument reads behind the call as it read before'; 0 by the template 'total and deterministic' (their statements: Qxb6609177aTotals.lean).
  GIVEN WITH THE SEED: the statements are not yours to turn. If you find one false, say at which input.
  Laid BY PROGRAM, IN A SANDBOX (cutbox-rows.mjs): the forced cells as the released guide's own fill.sh prints them over the translation f59e170e302bdda2… (all of the seat's roots in one cut). By AI agents, Wed Nov 11 2026. No macro, syntax, notation, axiom, sorry.
-/
import Derived.Test.Qxb6609177aChecked
import GoSem.Claim
import GoSem.ClaimJoined
import GoSem.ClaimMapViews
import Derived.JoinedTies
import Derived.KernelRfl
namespace Go.Proofs.Qxb6609177a
/- THE CELL 'sum', in the pinned program and in every row, IS THE sha256 OF THE DUMP (.gsa) THAT Qxb6609177aProg.lean LOADS. Nothing in Lean hashes anything: it is a label: what it is worth is what the hold of that sum in a sandbox is worth. -/
noncomputable def Try.pinned : Pinned := { name := "qxb6609177a", sum := "f59e170e302bdda2dd0a78e75335fb5e5686452fdbba61bb7526e9a4a92e3ce4", checked := Try.checked }
namespace Rows
def none {H : Type} : Left H := { results := [], args := [] }

/-- 'zzlaws_internal_input_b1.FnIsHexIsTheHexAlphabet': WHATEVER THE INPUT: true; the input reads as it did. -/
def fnIsHexIsTheHexAlphabetSpec : ChangeSpec := { name := "fnIsHexIsTheHexAlphabet", fn := fun _ => fun
  | [d] => { results := [.lit (.bool true)], args := [d] }
  | _ => none }
def fnIsHexIsTheHexAlphabetRow : OpenClaim := { program := "qxb6609177a", sum := "f59e170e302bdda2dd0a78e75335fb5e5686452fdbba61bb7526e9a4a92e3ce4", func := "example.com/verdicta/verdicta/zzlaws_internal_input_b1.FnIsHexIsTheHexAlphabet", spec := "fnIsHexIsTheHexAlphabet", apart := false }
def FnIsHexIsTheHexAlphabetSaid : Prop := fnIsHexIsTheHexAlphabetRow.holds Try.pinned (OpenSpec.ofChange fnIsHexIsTheHexAlphabetSpec)

/-- ITS FALSE NEIGHBOUR: 'it returns false'. Refute it at one input. -/
def fnIsHexIsTheHexAlphabetWrong : ChangeSpec := { name := "fnIsHexIsTheHexAlphabet", fn := fun _ => fun
  | [d] => { results := [.lit (.bool false)], args := [d] }
  | _ => none }
def FnIsHexIsTheHexAlphabetWrongFalsely : Prop := fnIsHexIsTheHexAlphabetRow.holds Try.pinned (OpenSpec.ofChange fnIsHexIsTheHexAlphabetWrong)

/-- 'zzlaws_internal_input_b1.FnParseHex4AcceptsExactlyHexDigits': WHATEVER THE INPUT: true; the input reads as it did. -/
def fnParseHex4AcceptsExactlyHexDigitsSpec : ChangeSpec := { name := "fnParseHex4AcceptsExactlyHexDigits", fn := fun _ => fun
  | [d1, d2, d3, d4] => { results := [.lit (.bool true)], args := [d1, d2, d3, d4] }
  | _ => none }
def fnParseHex4AcceptsExactlyHexDigitsRow : OpenClaim := { program := "qxb6609177a", sum := "f59e170e302bdda2dd0a78e75335fb5e5686452fdbba61bb7526e9a4a92e3ce4", func := "example.com/verdicta/verdicta/zzlaws_internal_input_b1.FnParseHex4AcceptsExactlyHexDigits", spec := "fnParseHex4AcceptsExactlyHexDigits", apart := false }
def FnParseHex4AcceptsExactlyHexDigitsSaid : Prop := fnParseHex4AcceptsExactlyHexDigitsRow.holds Try.pinned (OpenSpec.ofChange fnParseHex4AcceptsExactlyHexDigitsSpec)

/-- ITS FALSE NEIGHBOUR: 'it returns false'. Refute it at one input. -/
def fnParseHex4AcceptsExactlyHexDigitsWrong : ChangeSpec := { name := "fnParseHex4AcceptsExactlyHexDigits", fn := fun _ => fun
  | [d1, d2, d3, d4] => { results := [.lit (.bool false)], args := [d1, d2, d3, d4] }
  | _ => none }
def FnParseHex4AcceptsExactlyHexDigitsWrongFalsely : Prop := fnParseHex4AcceptsExactlyHexDigitsRow.holds Try.pinned (OpenSpec.ofChange fnParseHex4AcceptsExactlyHexDigitsWrong)

end Rows
end Go.Proofs.Qxb6609177a
