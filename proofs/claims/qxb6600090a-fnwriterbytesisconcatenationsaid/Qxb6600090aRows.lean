/-
  No cell of these rows narrows 'for every input' (looked for: loops, veiled, ifaces, maps, wideKeys, modest, calm, conditions, laid).
  DERIVED. THE GIVEN ROWS OF THIS SEAT. 7 by the template 'for every input the law returns true; each argument reads behind the call as it read before'; 0 by the template 'total and deterministic' (their statements: Qxb6600090aTotals.lean).
  GIVEN WITH THE SEED: the statements are not yours to turn. If you find one false, say at which input.
  Laid BY PROGRAM, IN A SANDBOX (cutbox-rows.mjs): the forced cells as the released guide's own fill.sh prints them over the translation b34f9f6bb5d0332e… (all of the seat's roots in one cut). By AI agents, Wed Nov 11 2026. No macro, syntax, notation, axiom, sorry.
-/
import Derived.Test.Qxb6600090aChecked
import GoSem.Claim
import GoSem.ClaimJoined
import GoSem.ClaimMapViews
import Derived.JoinedTies
import Derived.KernelRfl
namespace Go.Proofs.Qxb6600090a
/- THE CELL 'sum', in the pinned program and in every row, IS THE sha256 OF THE DUMP (.gsa) THAT Qxb6600090aProg.lean LOADS. Nothing in Lean hashes anything: it is a label: what it is worth is what the hold of that sum in a sandbox is worth. -/
noncomputable def Try.pinned : Pinned := { name := "qxb6600090a", sum := "b34f9f6bb5d0332e3605105713faff842dd0759abe72227bb8703105c8a0d5b3", checked := Try.checked }
namespace Rows
def none {H : Type} : Left H := { results := [], args := [] }

/-- 'zzlaws_manifest_b1.FnPlain8MatchesBytewise': WHATEVER THE INPUT: true; the input reads as it did. -/
def fnPlain8MatchesBytewiseSpec : ChangeSpec := { name := "fnPlain8MatchesBytewise", fn := fun _ => fun
  | [d] => { results := [.lit (.bool true)], args := [d] }
  | _ => none }
def fnPlain8MatchesBytewiseRow : OpenClaim := { program := "qxb6600090a", sum := "b34f9f6bb5d0332e3605105713faff842dd0759abe72227bb8703105c8a0d5b3", func := "example.com/notchline/notchline/zzlaws_manifest_b1.FnPlain8MatchesBytewise", spec := "fnPlain8MatchesBytewise", apart := false }
def FnPlain8MatchesBytewiseSaid : Prop := fnPlain8MatchesBytewiseRow.holds Try.pinned (OpenSpec.ofChange fnPlain8MatchesBytewiseSpec)

/-- ITS FALSE NEIGHBOUR: 'it returns false'. Refute it at one input. -/
def fnPlain8MatchesBytewiseWrong : ChangeSpec := { name := "fnPlain8MatchesBytewise", fn := fun _ => fun
  | [d] => { results := [.lit (.bool false)], args := [d] }
  | _ => none }
def FnPlain8MatchesBytewiseWrongFalsely : Prop := fnPlain8MatchesBytewiseRow.holds Try.pinned (OpenSpec.ofChange fnPlain8MatchesBytewiseWrong)

/-- 'zzlaws_manifest_b1.FnPlain8IgnoresByteOrder': WHATEVER THE INPUT: true; the input reads as it did. -/
def fnPlain8IgnoresByteOrderSpec : ChangeSpec := { name := "fnPlain8IgnoresByteOrder", fn := fun _ => fun
  | [d] => { results := [.lit (.bool true)], args := [d] }
  | _ => none }
def fnPlain8IgnoresByteOrderRow : OpenClaim := { program := "qxb6600090a", sum := "b34f9f6bb5d0332e3605105713faff842dd0759abe72227bb8703105c8a0d5b3", func := "example.com/notchline/notchline/zzlaws_manifest_b1.FnPlain8IgnoresByteOrder", spec := "fnPlain8IgnoresByteOrder", apart := false }
def FnPlain8IgnoresByteOrderSaid : Prop := fnPlain8IgnoresByteOrderRow.holds Try.pinned (OpenSpec.ofChange fnPlain8IgnoresByteOrderSpec)

/-- ITS FALSE NEIGHBOUR: 'it returns false'. Refute it at one input. -/
def fnPlain8IgnoresByteOrderWrong : ChangeSpec := { name := "fnPlain8IgnoresByteOrder", fn := fun _ => fun
  | [d] => { results := [.lit (.bool false)], args := [d] }
  | _ => none }
def FnPlain8IgnoresByteOrderWrongFalsely : Prop := fnPlain8IgnoresByteOrderRow.holds Try.pinned (OpenSpec.ofChange fnPlain8IgnoresByteOrderWrong)

/-- 'zzlaws_manifest_b1.FnWriterBytesIsConcatenation': WHATEVER THE INPUT: true; the input reads as it did. -/
def fnWriterBytesIsConcatenationSpec : ChangeSpec := { name := "fnWriterBytesIsConcatenation", fn := fun _ => fun
  | [d1, d2] => { results := [.lit (.bool true)], args := [d1, d2] }
  | _ => none }
def fnWriterBytesIsConcatenationRow : OpenClaim := { program := "qxb6600090a", sum := "b34f9f6bb5d0332e3605105713faff842dd0759abe72227bb8703105c8a0d5b3", func := "example.com/notchline/notchline/zzlaws_manifest_b1.FnWriterBytesIsConcatenation", spec := "fnWriterBytesIsConcatenation", apart := false }
def FnWriterBytesIsConcatenationSaid : Prop := fnWriterBytesIsConcatenationRow.holds Try.pinned (OpenSpec.ofChange fnWriterBytesIsConcatenationSpec)

/-- ITS FALSE NEIGHBOUR: 'it returns false'. Refute it at one input. -/
def fnWriterBytesIsConcatenationWrong : ChangeSpec := { name := "fnWriterBytesIsConcatenation", fn := fun _ => fun
  | [d1, d2] => { results := [.lit (.bool false)], args := [d1, d2] }
  | _ => none }
def FnWriterBytesIsConcatenationWrongFalsely : Prop := fnWriterBytesIsConcatenationRow.holds Try.pinned (OpenSpec.ofChange fnWriterBytesIsConcatenationWrong)

/-- 'zzlaws_manifest_b1.FnWriterBytesIgnoresPieceBoundaries': WHATEVER THE INPUT: true; the input reads as it did. -/
def fnWriterBytesIgnoresPieceBoundariesSpec : ChangeSpec := { name := "fnWriterBytesIgnoresPieceBoundaries", fn := fun _ => fun
  | [d1, d2] => { results := [.lit (.bool true)], args := [d1, d2] }
  | _ => none }
def fnWriterBytesIgnoresPieceBoundariesRow : OpenClaim := { program := "qxb6600090a", sum := "b34f9f6bb5d0332e3605105713faff842dd0759abe72227bb8703105c8a0d5b3", func := "example.com/notchline/notchline/zzlaws_manifest_b1.FnWriterBytesIgnoresPieceBoundaries", spec := "fnWriterBytesIgnoresPieceBoundaries", apart := false }
def FnWriterBytesIgnoresPieceBoundariesSaid : Prop := fnWriterBytesIgnoresPieceBoundariesRow.holds Try.pinned (OpenSpec.ofChange fnWriterBytesIgnoresPieceBoundariesSpec)

/-- ITS FALSE NEIGHBOUR: 'it returns false'. Refute it at one input. -/
def fnWriterBytesIgnoresPieceBoundariesWrong : ChangeSpec := { name := "fnWriterBytesIgnoresPieceBoundaries", fn := fun _ => fun
  | [d1, d2] => { results := [.lit (.bool false)], args := [d1, d2] }
  | _ => none }
def FnWriterBytesIgnoresPieceBoundariesWrongFalsely : Prop := fnWriterBytesIgnoresPieceBoundariesRow.holds Try.pinned (OpenSpec.ofChange fnWriterBytesIgnoresPieceBoundariesWrong)

/-- 'zzlaws_manifest_b1.FnWriterBytesIsIdempotent': WHATEVER THE INPUT: true; the input reads as it did. -/
def fnWriterBytesIsIdempotentSpec : ChangeSpec := { name := "fnWriterBytesIsIdempotent", fn := fun _ => fun
  | [d1, d2] => { results := [.lit (.bool true)], args := [d1, d2] }
  | _ => none }
def fnWriterBytesIsIdempotentRow : OpenClaim := { program := "qxb6600090a", sum := "b34f9f6bb5d0332e3605105713faff842dd0759abe72227bb8703105c8a0d5b3", func := "example.com/notchline/notchline/zzlaws_manifest_b1.FnWriterBytesIsIdempotent", spec := "fnWriterBytesIsIdempotent", apart := false }
def FnWriterBytesIsIdempotentSaid : Prop := fnWriterBytesIsIdempotentRow.holds Try.pinned (OpenSpec.ofChange fnWriterBytesIsIdempotentSpec)

/-- ITS FALSE NEIGHBOUR: 'it returns false'. Refute it at one input. -/
def fnWriterBytesIsIdempotentWrong : ChangeSpec := { name := "fnWriterBytesIsIdempotent", fn := fun _ => fun
  | [d1, d2] => { results := [.lit (.bool false)], args := [d1, d2] }
  | _ => none }
def FnWriterBytesIsIdempotentWrongFalsely : Prop := fnWriterBytesIsIdempotentRow.holds Try.pinned (OpenSpec.ofChange fnWriterBytesIsIdempotentWrong)

/-- 'zzlaws_manifest_b1.FnEscapeLengthAcceptsEveryUnicodeEscape': WHATEVER THE INPUT: true; the input reads as it did. -/
def fnEscapeLengthAcceptsEveryUnicodeEscapeSpec : ChangeSpec := { name := "fnEscapeLengthAcceptsEveryUnicodeEscape", fn := fun _ => fun
  | [d1, d2, d3] => { results := [.lit (.bool true)], args := [d1, d2, d3] }
  | _ => none }
def fnEscapeLengthAcceptsEveryUnicodeEscapeRow : OpenClaim := { program := "qxb6600090a", sum := "b34f9f6bb5d0332e3605105713faff842dd0759abe72227bb8703105c8a0d5b3", func := "example.com/notchline/notchline/zzlaws_manifest_b1.FnEscapeLengthAcceptsEveryUnicodeEscape", spec := "fnEscapeLengthAcceptsEveryUnicodeEscape", apart := false }
def FnEscapeLengthAcceptsEveryUnicodeEscapeSaid : Prop := fnEscapeLengthAcceptsEveryUnicodeEscapeRow.holds Try.pinned (OpenSpec.ofChange fnEscapeLengthAcceptsEveryUnicodeEscapeSpec)

/-- ITS FALSE NEIGHBOUR: 'it returns false'. Refute it at one input. -/
def fnEscapeLengthAcceptsEveryUnicodeEscapeWrong : ChangeSpec := { name := "fnEscapeLengthAcceptsEveryUnicodeEscape", fn := fun _ => fun
  | [d1, d2, d3] => { results := [.lit (.bool false)], args := [d1, d2, d3] }
  | _ => none }
def FnEscapeLengthAcceptsEveryUnicodeEscapeWrongFalsely : Prop := fnEscapeLengthAcceptsEveryUnicodeEscapeRow.holds Try.pinned (OpenSpec.ofChange fnEscapeLengthAcceptsEveryUnicodeEscapeWrong)

/-- 'zzlaws_manifest_b1.FnEscapeLengthIsDecidedByItsOwnBytes': WHATEVER THE INPUT: true; the input reads as it did. -/
def fnEscapeLengthIsDecidedByItsOwnBytesSpec : ChangeSpec := { name := "fnEscapeLengthIsDecidedByItsOwnBytes", fn := fun _ => fun
  | [d1, d2] => { results := [.lit (.bool true)], args := [d1, d2] }
  | _ => none }
def fnEscapeLengthIsDecidedByItsOwnBytesRow : OpenClaim := { program := "qxb6600090a", sum := "b34f9f6bb5d0332e3605105713faff842dd0759abe72227bb8703105c8a0d5b3", func := "example.com/notchline/notchline/zzlaws_manifest_b1.FnEscapeLengthIsDecidedByItsOwnBytes", spec := "fnEscapeLengthIsDecidedByItsOwnBytes", apart := false }
def FnEscapeLengthIsDecidedByItsOwnBytesSaid : Prop := fnEscapeLengthIsDecidedByItsOwnBytesRow.holds Try.pinned (OpenSpec.ofChange fnEscapeLengthIsDecidedByItsOwnBytesSpec)

/-- ITS FALSE NEIGHBOUR: 'it returns false'. Refute it at one input. -/
def fnEscapeLengthIsDecidedByItsOwnBytesWrong : ChangeSpec := { name := "fnEscapeLengthIsDecidedByItsOwnBytes", fn := fun _ => fun
  | [d1, d2] => { results := [.lit (.bool false)], args := [d1, d2] }
  | _ => none }
def FnEscapeLengthIsDecidedByItsOwnBytesWrongFalsely : Prop := fnEscapeLengthIsDecidedByItsOwnBytesRow.holds Try.pinned (OpenSpec.ofChange fnEscapeLengthIsDecidedByItsOwnBytesWrong)

end Rows
end Go.Proofs.Qxb6600090a
