/-
  No cell of these rows narrows 'for every input' (looked for: loops, veiled, ifaces, maps, wideKeys, modest, calm, conditions, laid).
  DERIVED. THE GIVEN ROWS OF THIS SEAT. 9 by the template 'for every input the law returns true; each argument reads behind the call as it read before'; 0 by the template 'total and deterministic' (their statements: Qxb6600062aTotals.lean).
  GIVEN WITH THE SEED: the statements are not yours to turn. If you find one false, say at which input.
  Laid BY PROGRAM, IN A SANDBOX (cutbox-rows.mjs): the forced cells as the released guide's own fill.sh prints them over the translation 5fa80dbed39aa8ff… (all of the seat's roots in one cut). By AI agents, Wed Nov 11 2026. No macro, syntax, notation, axiom, sorry.
-/
import Derived.Test.Qxb6600062aChecked
import GoSem.Claim
import GoSem.ClaimJoined
import GoSem.ClaimMapViews
import Derived.JoinedTies
import Derived.KernelRfl
namespace Go.Proofs.Qxb6600062a
/- THE CELL 'sum', in the pinned program and in every row, IS THE sha256 OF THE DUMP (.gsa) THAT Qxb6600062aProg.lean LOADS. Nothing in Lean hashes anything: it is a label: what it is worth is what the hold of that sum in a sandbox is worth. -/
noncomputable def Try.pinned : Pinned := { name := "qxb6600062a", sum := "5fa80dbed39aa8ffd1e6d48e0b0d24eb73a61fa9f2b63a10e7333e0d7d83ab98", checked := Try.checked }
namespace Rows
def none {H : Type} : Left H := { results := [], args := [] }

/-- 'zzlaws_internal_sql_b1.FnComparatorOfMeaning': WHATEVER THE INPUT: true; the input reads as it did. -/
def fnComparatorOfMeaningSpec : ChangeSpec := { name := "fnComparatorOfMeaning", fn := fun _ => fun
  | [d] => { results := [.lit (.bool true)], args := [d] }
  | _ => none }
def fnComparatorOfMeaningRow : OpenClaim := { program := "qxb6600062a", sum := "5fa80dbed39aa8ffd1e6d48e0b0d24eb73a61fa9f2b63a10e7333e0d7d83ab98", func := "example.com/pentimento/pentimento/zzlaws_internal_sql_b1.FnComparatorOfMeaning", spec := "fnComparatorOfMeaning", apart := false }
def FnComparatorOfMeaningSaid : Prop := fnComparatorOfMeaningRow.holds Try.pinned (OpenSpec.ofChange fnComparatorOfMeaningSpec)

/-- ITS FALSE NEIGHBOUR: 'it returns false'. Refute it at one input. -/
def fnComparatorOfMeaningWrong : ChangeSpec := { name := "fnComparatorOfMeaning", fn := fun _ => fun
  | [d] => { results := [.lit (.bool false)], args := [d] }
  | _ => none }
def FnComparatorOfMeaningWrongFalsely : Prop := fnComparatorOfMeaningRow.holds Try.pinned (OpenSpec.ofChange fnComparatorOfMeaningWrong)

/-- 'zzlaws_internal_sql_b1.FnComparatorOfMirror': WHATEVER THE INPUT: true; the input reads as it did. -/
def fnComparatorOfMirrorSpec : ChangeSpec := { name := "fnComparatorOfMirror", fn := fun _ => fun
  | [d] => { results := [.lit (.bool true)], args := [d] }
  | _ => none }
def fnComparatorOfMirrorRow : OpenClaim := { program := "qxb6600062a", sum := "5fa80dbed39aa8ffd1e6d48e0b0d24eb73a61fa9f2b63a10e7333e0d7d83ab98", func := "example.com/pentimento/pentimento/zzlaws_internal_sql_b1.FnComparatorOfMirror", spec := "fnComparatorOfMirror", apart := false }
def FnComparatorOfMirrorSaid : Prop := fnComparatorOfMirrorRow.holds Try.pinned (OpenSpec.ofChange fnComparatorOfMirrorSpec)

/-- ITS FALSE NEIGHBOUR: 'it returns false'. Refute it at one input. -/
def fnComparatorOfMirrorWrong : ChangeSpec := { name := "fnComparatorOfMirror", fn := fun _ => fun
  | [d] => { results := [.lit (.bool false)], args := [d] }
  | _ => none }
def FnComparatorOfMirrorWrongFalsely : Prop := fnComparatorOfMirrorRow.holds Try.pinned (OpenSpec.ofChange fnComparatorOfMirrorWrong)

/-- 'zzlaws_internal_sql_b1.FnComparatorOfSpelling': WHATEVER THE INPUT: true; the input reads as it did. -/
def fnComparatorOfSpellingSpec : ChangeSpec := { name := "fnComparatorOfSpelling", fn := fun _ => fun
  | [d1, d2] => { results := [.lit (.bool true)], args := [d1, d2] }
  | _ => none }
def fnComparatorOfSpellingRow : OpenClaim := { program := "qxb6600062a", sum := "5fa80dbed39aa8ffd1e6d48e0b0d24eb73a61fa9f2b63a10e7333e0d7d83ab98", func := "example.com/pentimento/pentimento/zzlaws_internal_sql_b1.FnComparatorOfSpelling", spec := "fnComparatorOfSpelling", apart := false }
def FnComparatorOfSpellingSaid : Prop := fnComparatorOfSpellingRow.holds Try.pinned (OpenSpec.ofChange fnComparatorOfSpellingSpec)

/-- ITS FALSE NEIGHBOUR: 'it returns false'. Refute it at one input. -/
def fnComparatorOfSpellingWrong : ChangeSpec := { name := "fnComparatorOfSpelling", fn := fun _ => fun
  | [d1, d2] => { results := [.lit (.bool false)], args := [d1, d2] }
  | _ => none }
def FnComparatorOfSpellingWrongFalsely : Prop := fnComparatorOfSpellingRow.holds Try.pinned (OpenSpec.ofChange fnComparatorOfSpellingWrong)

/-- 'zzlaws_internal_sql_b1.FnReachKeepsTheStatement': WHATEVER THE INPUT: true; the input reads as it did. -/
def fnReachKeepsTheStatementSpec : ChangeSpec := { name := "fnReachKeepsTheStatement", fn := fun _ => fun
  | [d1, d2, d3, d4, d5, d6, d7] => { results := [.lit (.bool true)], args := [d1, d2, d3, d4, d5, d6, d7] }
  | _ => none }
def fnReachKeepsTheStatementRow : OpenClaim := { program := "qxb6600062a", sum := "5fa80dbed39aa8ffd1e6d48e0b0d24eb73a61fa9f2b63a10e7333e0d7d83ab98", func := "example.com/pentimento/pentimento/zzlaws_internal_sql_b1.FnReachKeepsTheStatement", spec := "fnReachKeepsTheStatement", inPlace := ["internal/abi.NoEscape", "internal/bytealg.MakeNoZero"], apart := false }
def FnReachKeepsTheStatementSaid : Prop := fnReachKeepsTheStatementRow.holds Try.pinned (OpenSpec.ofChange fnReachKeepsTheStatementSpec)

/-- ITS FALSE NEIGHBOUR: 'it returns false'. Refute it at one input. -/
def fnReachKeepsTheStatementWrong : ChangeSpec := { name := "fnReachKeepsTheStatement", fn := fun _ => fun
  | [d1, d2, d3, d4, d5, d6, d7] => { results := [.lit (.bool false)], args := [d1, d2, d3, d4, d5, d6, d7] }
  | _ => none }
def FnReachKeepsTheStatementWrongFalsely : Prop := fnReachKeepsTheStatementRow.holds Try.pinned (OpenSpec.ofChange fnReachKeepsTheStatementWrong)

/-- 'zzlaws_internal_sql_b1.FnReachHoldsExactlyWhatWasAsked': WHATEVER THE INPUT: true; the input reads as it did. -/
def fnReachHoldsExactlyWhatWasAskedSpec : ChangeSpec := { name := "fnReachHoldsExactlyWhatWasAsked", fn := fun _ => fun
  | [d1, d2, d3, d4, d5, d6, d7] => { results := [.lit (.bool true)], args := [d1, d2, d3, d4, d5, d6, d7] }
  | _ => none }
def fnReachHoldsExactlyWhatWasAskedRow : OpenClaim := { program := "qxb6600062a", sum := "5fa80dbed39aa8ffd1e6d48e0b0d24eb73a61fa9f2b63a10e7333e0d7d83ab98", func := "example.com/pentimento/pentimento/zzlaws_internal_sql_b1.FnReachHoldsExactlyWhatWasAsked", spec := "fnReachHoldsExactlyWhatWasAsked", inPlace := ["internal/abi.NoEscape", "internal/bytealg.MakeNoZero"], apart := false }
def FnReachHoldsExactlyWhatWasAskedSaid : Prop := fnReachHoldsExactlyWhatWasAskedRow.holds Try.pinned (OpenSpec.ofChange fnReachHoldsExactlyWhatWasAskedSpec)

/-- ITS FALSE NEIGHBOUR: 'it returns false'. Refute it at one input. -/
def fnReachHoldsExactlyWhatWasAskedWrong : ChangeSpec := { name := "fnReachHoldsExactlyWhatWasAsked", fn := fun _ => fun
  | [d1, d2, d3, d4, d5, d6, d7] => { results := [.lit (.bool false)], args := [d1, d2, d3, d4, d5, d6, d7] }
  | _ => none }
def FnReachHoldsExactlyWhatWasAskedWrongFalsely : Prop := fnReachHoldsExactlyWhatWasAskedRow.holds Try.pinned (OpenSpec.ofChange fnReachHoldsExactlyWhatWasAskedWrong)

/-- 'zzlaws_internal_sql_b1.FnReachIsIdempotent': WHATEVER THE INPUT: true; the input reads as it did. -/
def fnReachIsIdempotentSpec : ChangeSpec := { name := "fnReachIsIdempotent", fn := fun _ => fun
  | [d1, d2, d3, d4, d5, d6, d7, d8] => { results := [.lit (.bool true)], args := [d1, d2, d3, d4, d5, d6, d7, d8] }
  | _ => none }
def fnReachIsIdempotentRow : OpenClaim := { program := "qxb6600062a", sum := "5fa80dbed39aa8ffd1e6d48e0b0d24eb73a61fa9f2b63a10e7333e0d7d83ab98", func := "example.com/pentimento/pentimento/zzlaws_internal_sql_b1.FnReachIsIdempotent", spec := "fnReachIsIdempotent", inPlace := ["internal/abi.NoEscape", "internal/bytealg.MakeNoZero"], apart := false }
def FnReachIsIdempotentSaid : Prop := fnReachIsIdempotentRow.holds Try.pinned (OpenSpec.ofChange fnReachIsIdempotentSpec)

/-- ITS FALSE NEIGHBOUR: 'it returns false'. Refute it at one input. -/
def fnReachIsIdempotentWrong : ChangeSpec := { name := "fnReachIsIdempotent", fn := fun _ => fun
  | [d1, d2, d3, d4, d5, d6, d7, d8] => { results := [.lit (.bool false)], args := [d1, d2, d3, d4, d5, d6, d7, d8] }
  | _ => none }
def FnReachIsIdempotentWrongFalsely : Prop := fnReachIsIdempotentRow.holds Try.pinned (OpenSpec.ofChange fnReachIsIdempotentWrong)

/-- 'zzlaws_internal_sql_b1.FnQuotedSizeIgnoresPieceBoundaries': WHATEVER THE INPUT: true; the input reads as it did. -/
def fnQuotedSizeIgnoresPieceBoundariesSpec : ChangeSpec := { name := "fnQuotedSizeIgnoresPieceBoundaries", fn := fun _ => fun
  | [d1, d2, d3, d4, d5] => { results := [.lit (.bool true)], args := [d1, d2, d3, d4, d5] }
  | _ => none }
def fnQuotedSizeIgnoresPieceBoundariesRow : OpenClaim := { program := "qxb6600062a", sum := "5fa80dbed39aa8ffd1e6d48e0b0d24eb73a61fa9f2b63a10e7333e0d7d83ab98", func := "example.com/pentimento/pentimento/zzlaws_internal_sql_b1.FnQuotedSizeIgnoresPieceBoundaries", spec := "fnQuotedSizeIgnoresPieceBoundaries", inPlace := ["internal/bytealg.IndexByteString"], apart := false }
def FnQuotedSizeIgnoresPieceBoundariesSaid : Prop := fnQuotedSizeIgnoresPieceBoundariesRow.holds Try.pinned (OpenSpec.ofChange fnQuotedSizeIgnoresPieceBoundariesSpec)

/-- ITS FALSE NEIGHBOUR: 'it returns false'. Refute it at one input. -/
def fnQuotedSizeIgnoresPieceBoundariesWrong : ChangeSpec := { name := "fnQuotedSizeIgnoresPieceBoundaries", fn := fun _ => fun
  | [d1, d2, d3, d4, d5] => { results := [.lit (.bool false)], args := [d1, d2, d3, d4, d5] }
  | _ => none }
def FnQuotedSizeIgnoresPieceBoundariesWrongFalsely : Prop := fnQuotedSizeIgnoresPieceBoundariesRow.holds Try.pinned (OpenSpec.ofChange fnQuotedSizeIgnoresPieceBoundariesWrong)

/-- 'zzlaws_internal_sql_b1.FnQuotedSizeEndsAtFirstOddRun': WHATEVER THE INPUT: true; the input reads as it did. -/
def fnQuotedSizeEndsAtFirstOddRunSpec : ChangeSpec := { name := "fnQuotedSizeEndsAtFirstOddRun", fn := fun _ => fun
  | [d1, d2, d3, d4, d5] => { results := [.lit (.bool true)], args := [d1, d2, d3, d4, d5] }
  | _ => none }
def fnQuotedSizeEndsAtFirstOddRunRow : OpenClaim := { program := "qxb6600062a", sum := "5fa80dbed39aa8ffd1e6d48e0b0d24eb73a61fa9f2b63a10e7333e0d7d83ab98", func := "example.com/pentimento/pentimento/zzlaws_internal_sql_b1.FnQuotedSizeEndsAtFirstOddRun", spec := "fnQuotedSizeEndsAtFirstOddRun", inPlace := ["internal/bytealg.IndexByteString"], apart := false }
def FnQuotedSizeEndsAtFirstOddRunSaid : Prop := fnQuotedSizeEndsAtFirstOddRunRow.holds Try.pinned (OpenSpec.ofChange fnQuotedSizeEndsAtFirstOddRunSpec)

/-- ITS FALSE NEIGHBOUR: 'it returns false'. Refute it at one input. -/
def fnQuotedSizeEndsAtFirstOddRunWrong : ChangeSpec := { name := "fnQuotedSizeEndsAtFirstOddRun", fn := fun _ => fun
  | [d1, d2, d3, d4, d5] => { results := [.lit (.bool false)], args := [d1, d2, d3, d4, d5] }
  | _ => none }
def FnQuotedSizeEndsAtFirstOddRunWrongFalsely : Prop := fnQuotedSizeEndsAtFirstOddRunRow.holds Try.pinned (OpenSpec.ofChange fnQuotedSizeEndsAtFirstOddRunWrong)

/-- 'zzlaws_internal_sql_b1.FnQuotedSizeIsTheShortestClosedPrefix': WHATEVER THE INPUT: true; the input reads as it did. -/
def fnQuotedSizeIsTheShortestClosedPrefixSpec : ChangeSpec := { name := "fnQuotedSizeIsTheShortestClosedPrefix", fn := fun _ => fun
  | [d1, d2, d3, d4, d5] => { results := [.lit (.bool true)], args := [d1, d2, d3, d4, d5] }
  | _ => none }
def fnQuotedSizeIsTheShortestClosedPrefixRow : OpenClaim := { program := "qxb6600062a", sum := "5fa80dbed39aa8ffd1e6d48e0b0d24eb73a61fa9f2b63a10e7333e0d7d83ab98", func := "example.com/pentimento/pentimento/zzlaws_internal_sql_b1.FnQuotedSizeIsTheShortestClosedPrefix", spec := "fnQuotedSizeIsTheShortestClosedPrefix", inPlace := ["internal/bytealg.IndexByteString"], apart := false }
def FnQuotedSizeIsTheShortestClosedPrefixSaid : Prop := fnQuotedSizeIsTheShortestClosedPrefixRow.holds Try.pinned (OpenSpec.ofChange fnQuotedSizeIsTheShortestClosedPrefixSpec)

/-- ITS FALSE NEIGHBOUR: 'it returns false'. Refute it at one input. -/
def fnQuotedSizeIsTheShortestClosedPrefixWrong : ChangeSpec := { name := "fnQuotedSizeIsTheShortestClosedPrefix", fn := fun _ => fun
  | [d1, d2, d3, d4, d5] => { results := [.lit (.bool false)], args := [d1, d2, d3, d4, d5] }
  | _ => none }
def FnQuotedSizeIsTheShortestClosedPrefixWrongFalsely : Prop := fnQuotedSizeIsTheShortestClosedPrefixRow.holds Try.pinned (OpenSpec.ofChange fnQuotedSizeIsTheShortestClosedPrefixWrong)

end Rows
end Go.Proofs.Qxb6600062a
