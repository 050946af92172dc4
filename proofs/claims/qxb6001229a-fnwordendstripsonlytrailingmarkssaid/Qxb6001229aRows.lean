/-
  No cell of these rows narrows 'for every input' (looked for: loops, veiled, ifaces, maps, wideKeys, modest, calm, conditions, laid).
  DERIVED. THE GIVEN ROWS OF THIS SEAT. 7 by the template 'for every input the law returns true; each argument reads behind the call as it read before'; 0 by the template 'total and deterministic' (their statements: Qxb6001229aTotals.lean).
  GIVEN WITH THE SEED: the statements are not yours to turn. If you find one false, say at which input.
  Laid BY PROGRAM, IN A SANDBOX (cutbox-rows.mjs): the forced cells as the released guide's own fill.sh prints them over the translation 4136b5e437634c32… (all of the seat's roots in one cut). By AI agents, Wed Nov 11 2026. No macro, syntax, notation, axiom, sorry.
-/
import Derived.Test.Qxb6001229aChecked
import GoSem.Claim
import GoSem.ClaimJoined
import GoSem.ClaimMapViews
import Derived.JoinedTies
import Derived.KernelRfl
namespace Go.Proofs.Qxb6001229a
/- THE CELL 'sum', in the pinned program and in every row, IS THE sha256 OF THE DUMP (.gsa) THAT Qxb6001229aProg.lean LOADS. Nothing in Lean hashes anything: it is a label: what it is worth is what the hold of that sum in a sandbox is worth. -/
noncomputable def Try.pinned : Pinned := { name := "qxb6001229a", sum := "4136b5e437634c32bbad401fb54bcdf9f4a7ad538755af251cbfa7497eb89aef", checked := Try.checked }
namespace Rows
def none {H : Type} : Left H := { results := [], args := [] }

/-- 'zzlaws_pkg_document_b1.FnFigureOrdinalReadsEveryOrdinal': WHATEVER THE INPUT: true; the input reads as it did. -/
def fnFigureOrdinalReadsEveryOrdinalSpec : ChangeSpec := { name := "fnFigureOrdinalReadsEveryOrdinal", fn := fun _ => fun
  | [d] => { results := [.lit (.bool true)], args := [d] }
  | _ => none }
def fnFigureOrdinalReadsEveryOrdinalRow : OpenClaim := { program := "qxb6001229a", sum := "4136b5e437634c32bbad401fb54bcdf9f4a7ad538755af251cbfa7497eb89aef", func := "example.com/recital/recital/zzlaws_pkg_document_b1.FnFigureOrdinalReadsEveryOrdinal", spec := "fnFigureOrdinalReadsEveryOrdinal", apart := false }
def FnFigureOrdinalReadsEveryOrdinalSaid : Prop := fnFigureOrdinalReadsEveryOrdinalRow.holds Try.pinned (OpenSpec.ofChange fnFigureOrdinalReadsEveryOrdinalSpec)

/-- ITS FALSE NEIGHBOUR: 'it returns false'. Refute it at one input. -/
def fnFigureOrdinalReadsEveryOrdinalWrong : ChangeSpec := { name := "fnFigureOrdinalReadsEveryOrdinal", fn := fun _ => fun
  | [d] => { results := [.lit (.bool false)], args := [d] }
  | _ => none }
def FnFigureOrdinalReadsEveryOrdinalWrongFalsely : Prop := fnFigureOrdinalReadsEveryOrdinalRow.holds Try.pinned (OpenSpec.ofChange fnFigureOrdinalReadsEveryOrdinalWrong)

/-- 'zzlaws_pkg_document_b1.FnFigureOrdinalNonzeroOnlyCanonical': WHATEVER THE INPUT: true; the input reads as it did. -/
def fnFigureOrdinalNonzeroOnlyCanonicalSpec : ChangeSpec := { name := "fnFigureOrdinalNonzeroOnlyCanonical", fn := fun _ => fun
  | [d] => { results := [.lit (.bool true)], args := [d] }
  | _ => none }
def fnFigureOrdinalNonzeroOnlyCanonicalRow : OpenClaim := { program := "qxb6001229a", sum := "4136b5e437634c32bbad401fb54bcdf9f4a7ad538755af251cbfa7497eb89aef", func := "example.com/recital/recital/zzlaws_pkg_document_b1.FnFigureOrdinalNonzeroOnlyCanonical", spec := "fnFigureOrdinalNonzeroOnlyCanonical", apart := false }
def FnFigureOrdinalNonzeroOnlyCanonicalSaid : Prop := fnFigureOrdinalNonzeroOnlyCanonicalRow.holds Try.pinned (OpenSpec.ofChange fnFigureOrdinalNonzeroOnlyCanonicalSpec)

/-- ITS FALSE NEIGHBOUR: 'it returns false'. Refute it at one input. -/
def fnFigureOrdinalNonzeroOnlyCanonicalWrong : ChangeSpec := { name := "fnFigureOrdinalNonzeroOnlyCanonical", fn := fun _ => fun
  | [d] => { results := [.lit (.bool false)], args := [d] }
  | _ => none }
def FnFigureOrdinalNonzeroOnlyCanonicalWrongFalsely : Prop := fnFigureOrdinalNonzeroOnlyCanonicalRow.holds Try.pinned (OpenSpec.ofChange fnFigureOrdinalNonzeroOnlyCanonicalWrong)

/-- 'zzlaws_pkg_document_b1.FnFigureOrdinalLeadingZeroIgnored': WHATEVER THE INPUT: true; the input reads as it did. -/
def fnFigureOrdinalLeadingZeroIgnoredSpec : ChangeSpec := { name := "fnFigureOrdinalLeadingZeroIgnored", fn := fun _ => fun
  | [d] => { results := [.lit (.bool true)], args := [d] }
  | _ => none }
def fnFigureOrdinalLeadingZeroIgnoredRow : OpenClaim := { program := "qxb6001229a", sum := "4136b5e437634c32bbad401fb54bcdf9f4a7ad538755af251cbfa7497eb89aef", func := "example.com/recital/recital/zzlaws_pkg_document_b1.FnFigureOrdinalLeadingZeroIgnored", spec := "fnFigureOrdinalLeadingZeroIgnored", apart := false }
def FnFigureOrdinalLeadingZeroIgnoredSaid : Prop := fnFigureOrdinalLeadingZeroIgnoredRow.holds Try.pinned (OpenSpec.ofChange fnFigureOrdinalLeadingZeroIgnoredSpec)

/-- ITS FALSE NEIGHBOUR: 'it returns false'. Refute it at one input. -/
def fnFigureOrdinalLeadingZeroIgnoredWrong : ChangeSpec := { name := "fnFigureOrdinalLeadingZeroIgnored", fn := fun _ => fun
  | [d] => { results := [.lit (.bool false)], args := [d] }
  | _ => none }
def FnFigureOrdinalLeadingZeroIgnoredWrongFalsely : Prop := fnFigureOrdinalLeadingZeroIgnoredRow.holds Try.pinned (OpenSpec.ofChange fnFigureOrdinalLeadingZeroIgnoredWrong)

/-- 'zzlaws_pkg_document_b1.FnNestingCurlyMarksFollowBalance': WHATEVER THE INPUT: true; the input reads as it did. -/
def fnNestingCurlyMarksFollowBalanceSpec : ChangeSpec := { name := "fnNestingCurlyMarksFollowBalance", fn := fun _ => fun
  | [d1, d2] => { results := [.lit (.bool true)], args := [d1, d2] }
  | _ => none }
def fnNestingCurlyMarksFollowBalanceRow : OpenClaim := { program := "qxb6001229a", sum := "4136b5e437634c32bbad401fb54bcdf9f4a7ad538755af251cbfa7497eb89aef", func := "example.com/recital/recital/zzlaws_pkg_document_b1.FnNestingCurlyMarksFollowBalance", spec := "fnNestingCurlyMarksFollowBalance", apart := false }
def FnNestingCurlyMarksFollowBalanceSaid : Prop := fnNestingCurlyMarksFollowBalanceRow.holds Try.pinned (OpenSpec.ofChange fnNestingCurlyMarksFollowBalanceSpec)

/-- ITS FALSE NEIGHBOUR: 'it returns false'. Refute it at one input. -/
def fnNestingCurlyMarksFollowBalanceWrong : ChangeSpec := { name := "fnNestingCurlyMarksFollowBalance", fn := fun _ => fun
  | [d1, d2] => { results := [.lit (.bool false)], args := [d1, d2] }
  | _ => none }
def FnNestingCurlyMarksFollowBalanceWrongFalsely : Prop := fnNestingCurlyMarksFollowBalanceRow.holds Try.pinned (OpenSpec.ofChange fnNestingCurlyMarksFollowBalanceWrong)

/-- 'zzlaws_pkg_document_b1.FnWordEndConcat': WHATEVER THE INPUT: true; the input reads as it did. -/
def fnWordEndConcatSpec : ChangeSpec := { name := "fnWordEndConcat", fn := fun _ => fun
  | [d1, d2, d3] => { results := [.lit (.bool true)], args := [d1, d2, d3] }
  | _ => none }
def fnWordEndConcatRow : OpenClaim := { program := "qxb6001229a", sum := "4136b5e437634c32bbad401fb54bcdf9f4a7ad538755af251cbfa7497eb89aef", func := "example.com/recital/recital/zzlaws_pkg_document_b1.FnWordEndConcat", spec := "fnWordEndConcat", inPlace := ["internal/bytealg.IndexByteString"], apart := false }
def FnWordEndConcatSaid : Prop := fnWordEndConcatRow.holds Try.pinned (OpenSpec.ofChange fnWordEndConcatSpec)

/-- ITS FALSE NEIGHBOUR: 'it returns false'. Refute it at one input. -/
def fnWordEndConcatWrong : ChangeSpec := { name := "fnWordEndConcat", fn := fun _ => fun
  | [d1, d2, d3] => { results := [.lit (.bool false)], args := [d1, d2, d3] }
  | _ => none }
def FnWordEndConcatWrongFalsely : Prop := fnWordEndConcatRow.holds Try.pinned (OpenSpec.ofChange fnWordEndConcatWrong)

/-- 'zzlaws_pkg_document_b1.FnWordEndStripsOnlyTrailingMarks': WHATEVER THE INPUT: true; the input reads as it did. -/
def fnWordEndStripsOnlyTrailingMarksSpec : ChangeSpec := { name := "fnWordEndStripsOnlyTrailingMarks", fn := fun _ => fun
  | [d1, d2] => { results := [.lit (.bool true)], args := [d1, d2] }
  | _ => none }
def fnWordEndStripsOnlyTrailingMarksRow : OpenClaim := { program := "qxb6001229a", sum := "4136b5e437634c32bbad401fb54bcdf9f4a7ad538755af251cbfa7497eb89aef", func := "example.com/recital/recital/zzlaws_pkg_document_b1.FnWordEndStripsOnlyTrailingMarks", spec := "fnWordEndStripsOnlyTrailingMarks", inPlace := ["internal/bytealg.IndexByteString"], apart := false }
def FnWordEndStripsOnlyTrailingMarksSaid : Prop := fnWordEndStripsOnlyTrailingMarksRow.holds Try.pinned (OpenSpec.ofChange fnWordEndStripsOnlyTrailingMarksSpec)

/-- ITS FALSE NEIGHBOUR: 'it returns false'. Refute it at one input. -/
def fnWordEndStripsOnlyTrailingMarksWrong : ChangeSpec := { name := "fnWordEndStripsOnlyTrailingMarks", fn := fun _ => fun
  | [d1, d2] => { results := [.lit (.bool false)], args := [d1, d2] }
  | _ => none }
def FnWordEndStripsOnlyTrailingMarksWrongFalsely : Prop := fnWordEndStripsOnlyTrailingMarksRow.holds Try.pinned (OpenSpec.ofChange fnWordEndStripsOnlyTrailingMarksWrong)

/-- 'zzlaws_pkg_document_b1.FnWordEndLeftBounds': WHATEVER THE INPUT: true; the input reads as it did. -/
def fnWordEndLeftBoundsSpec : ChangeSpec := { name := "fnWordEndLeftBounds", fn := fun _ => fun
  | [d1, d2] => { results := [.lit (.bool true)], args := [d1, d2] }
  | _ => none }
def fnWordEndLeftBoundsRow : OpenClaim := { program := "qxb6001229a", sum := "4136b5e437634c32bbad401fb54bcdf9f4a7ad538755af251cbfa7497eb89aef", func := "example.com/recital/recital/zzlaws_pkg_document_b1.FnWordEndLeftBounds", spec := "fnWordEndLeftBounds", inPlace := ["internal/bytealg.IndexByteString"], apart := false }
def FnWordEndLeftBoundsSaid : Prop := fnWordEndLeftBoundsRow.holds Try.pinned (OpenSpec.ofChange fnWordEndLeftBoundsSpec)

/-- ITS FALSE NEIGHBOUR: 'it returns false'. Refute it at one input. -/
def fnWordEndLeftBoundsWrong : ChangeSpec := { name := "fnWordEndLeftBounds", fn := fun _ => fun
  | [d1, d2] => { results := [.lit (.bool false)], args := [d1, d2] }
  | _ => none }
def FnWordEndLeftBoundsWrongFalsely : Prop := fnWordEndLeftBoundsRow.holds Try.pinned (OpenSpec.ofChange fnWordEndLeftBoundsWrong)

end Rows
end Go.Proofs.Qxb6001229a
