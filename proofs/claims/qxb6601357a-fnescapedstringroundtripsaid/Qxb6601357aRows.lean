/-
  No cell of these rows narrows 'for every input' (looked for: loops, veiled, ifaces, maps, wideKeys, modest, calm, conditions, laid).
  DERIVED. THE GIVEN ROWS OF THIS SEAT. 3 by the template 'for every input the law returns true; each argument reads behind the call as it read before'; 0 by the template 'total and deterministic' (their statements: Qxb6601357aTotals.lean).
  GIVEN WITH THE SEED: the statements are not yours to turn. If you find one false, say at which input.
  Laid BY PROGRAM, IN A SANDBOX (cutbox-rows.mjs): the forced cells as the released guide's own fill.sh prints them over the translation 6fbad164c7ed936b… (all of the seat's roots in one cut). By AI agents, Wed Nov 11 2026. No macro, syntax, notation, axiom, sorry.
-/
import Derived.Test.Qxb6601357aChecked
import GoSem.Claim
import GoSem.ClaimJoined
import GoSem.ClaimMapViews
import Derived.JoinedTies
import Derived.KernelRfl
namespace Go.Proofs.Qxb6601357a
/- THE CELL 'sum', in the pinned program and in every row, IS THE sha256 OF THE DUMP (.gsa) THAT Qxb6601357aProg.lean LOADS. Nothing in Lean hashes anything: it is a label: what it is worth is what the hold of that sum in a sandbox is worth. -/
noncomputable def Try.pinned : Pinned := { name := "qxb6601357a", sum := "6fbad164c7ed936b4d2a3bfb30e873bb80812ef7819149d599ee659882578ea6", checked := Try.checked }
namespace Rows
def none {H : Type} : Left H := { results := [], args := [] }

/-- 'zzlaws_internal_store_b1.FnEscapedStringRoundTrip': WHATEVER THE INPUT: true; the input reads as it did. -/
def fnEscapedStringRoundTripSpec : ChangeSpec := { name := "fnEscapedStringRoundTrip", fn := fun _ => fun
  | [d] => { results := [.lit (.bool true)], args := [d] }
  | _ => none }
def fnEscapedStringRoundTripRow : OpenClaim := { program := "qxb6601357a", sum := "6fbad164c7ed936b4d2a3bfb30e873bb80812ef7819149d599ee659882578ea6", func := "example.com/moorage/moorage/zzlaws_internal_store_b1.FnEscapedStringRoundTrip", spec := "fnEscapedStringRoundTrip", recurses := true, apart := false }
def FnEscapedStringRoundTripSaid : Prop := fnEscapedStringRoundTripRow.holds Try.pinned (OpenSpec.ofChange fnEscapedStringRoundTripSpec)

/-- ITS FALSE NEIGHBOUR: 'it returns false'. Refute it at one input. -/
def fnEscapedStringRoundTripWrong : ChangeSpec := { name := "fnEscapedStringRoundTrip", fn := fun _ => fun
  | [d] => { results := [.lit (.bool false)], args := [d] }
  | _ => none }
def FnEscapedStringRoundTripWrongFalsely : Prop := fnEscapedStringRoundTripRow.holds Try.pinned (OpenSpec.ofChange fnEscapedStringRoundTripWrong)

/-- 'zzlaws_internal_store_b1.FnValueEndMatchesGrammar': WHATEVER THE INPUT: true; the input reads as it did. -/
def fnValueEndMatchesGrammarSpec : ChangeSpec := { name := "fnValueEndMatchesGrammar", fn := fun _ => fun
  | [d1, d2] => { results := [.lit (.bool true)], args := [d1, d2] }
  | _ => none }
def fnValueEndMatchesGrammarRow : OpenClaim := { program := "qxb6601357a", sum := "6fbad164c7ed936b4d2a3bfb30e873bb80812ef7819149d599ee659882578ea6", func := "example.com/moorage/moorage/zzlaws_internal_store_b1.FnValueEndMatchesGrammar", spec := "fnValueEndMatchesGrammar", recurses := true, apart := false }
def FnValueEndMatchesGrammarSaid : Prop := fnValueEndMatchesGrammarRow.holds Try.pinned (OpenSpec.ofChange fnValueEndMatchesGrammarSpec)

/-- ITS FALSE NEIGHBOUR: 'it returns false'. Refute it at one input. -/
def fnValueEndMatchesGrammarWrong : ChangeSpec := { name := "fnValueEndMatchesGrammar", fn := fun _ => fun
  | [d1, d2] => { results := [.lit (.bool false)], args := [d1, d2] }
  | _ => none }
def FnValueEndMatchesGrammarWrongFalsely : Prop := fnValueEndMatchesGrammarRow.holds Try.pinned (OpenSpec.ofChange fnValueEndMatchesGrammarWrong)

/-- 'zzlaws_internal_store_b1.FnKindMatchesGrammar': WHATEVER THE INPUT: true; the input reads as it did. -/
def fnKindMatchesGrammarSpec : ChangeSpec := { name := "fnKindMatchesGrammar", fn := fun _ => fun
  | [d] => { results := [.lit (.bool true)], args := [d] }
  | _ => none }
def fnKindMatchesGrammarRow : OpenClaim := { program := "qxb6601357a", sum := "6fbad164c7ed936b4d2a3bfb30e873bb80812ef7819149d599ee659882578ea6", func := "example.com/moorage/moorage/zzlaws_internal_store_b1.FnKindMatchesGrammar", spec := "fnKindMatchesGrammar", recurses := true, apart := false }
def FnKindMatchesGrammarSaid : Prop := fnKindMatchesGrammarRow.holds Try.pinned (OpenSpec.ofChange fnKindMatchesGrammarSpec)

/-- ITS FALSE NEIGHBOUR: 'it returns false'. Refute it at one input. -/
def fnKindMatchesGrammarWrong : ChangeSpec := { name := "fnKindMatchesGrammar", fn := fun _ => fun
  | [d] => { results := [.lit (.bool false)], args := [d] }
  | _ => none }
def FnKindMatchesGrammarWrongFalsely : Prop := fnKindMatchesGrammarRow.holds Try.pinned (OpenSpec.ofChange fnKindMatchesGrammarWrong)

end Rows
end Go.Proofs.Qxb6601357a
