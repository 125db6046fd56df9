/-
  No cell of these rows narrows 'for every input' (looked for: loops, veiled, ifaces, maps, wideKeys, modest, calm, conditions, laid).
  DERIVED. THE GIVEN ROWS OF THIS SEAT. 8 by the template 'for every input the law returns true; each argument reads behind the call as it read before'; 0 by the template 'total and deterministic' (their statements: Qxb6002696aTotals.lean).
  GIVEN WITH THE SEED: the statements are not yours to turn. If you find one false, say at which input.
  Laid BY PROGRAM, IN A SANDBOX (cutbox-rows.mjs): the forced cells as the released guide's own fill.sh prints them over the translation 1faea433beb67558… (all of the seat's roots in one cut). By AI agents, Wed Nov 11 2026. No macro, syntax, notation, axiom, sorry.
-/
import Derived.Test.Qxb6002696aChecked
import GoSem.Claim
import GoSem.ClaimJoined
import GoSem.ClaimMapViews
import Derived.JoinedTies
import Derived.KernelRfl
namespace Go.Proofs.Qxb6002696a
/- THE CELL 'sum', in the pinned program and in every row, IS THE sha256 OF THE DUMP (.gsa) THAT Qxb6002696aProg.lean LOADS. Nothing in Lean hashes anything: it is a label: what it is worth is what the hold of that sum in a sandbox is worth. -/
noncomputable def Try.pinned : Pinned := { name := "qxb6002696a", sum := "1faea433beb67558e4607cc1ed87808d2be14d8a488d3bef63260898a92b0c60", checked := Try.checked }
namespace Rows
def none {H : Type} : Left H := { results := [], args := [] }

/-- 'zzlaws_internal_capture_b1.FnTsnLogSeenIsEarlierOccurrence': WHATEVER THE INPUT: true; the input reads as it did. -/
def fnTsnLogSeenIsEarlierOccurrenceSpec : ChangeSpec := { name := "fnTsnLogSeenIsEarlierOccurrence", fn := fun _ => fun
  | [d] => { results := [.lit (.bool true)], args := [d] }
  | _ => none }
def fnTsnLogSeenIsEarlierOccurrenceRow : OpenClaim := { program := "qxb6002696a", sum := "1faea433beb67558e4607cc1ed87808d2be14d8a488d3bef63260898a92b0c60", func := "example.com/hushline/hushline/zzlaws_internal_capture_b1.FnTsnLogSeenIsEarlierOccurrence", spec := "fnTsnLogSeenIsEarlierOccurrence", apart := false }
def FnTsnLogSeenIsEarlierOccurrenceSaid : Prop := fnTsnLogSeenIsEarlierOccurrenceRow.holds Try.pinned (OpenSpec.ofChange fnTsnLogSeenIsEarlierOccurrenceSpec)

/-- ITS FALSE NEIGHBOUR: 'it returns false'. Refute it at one input. -/
def fnTsnLogSeenIsEarlierOccurrenceWrong : ChangeSpec := { name := "fnTsnLogSeenIsEarlierOccurrence", fn := fun _ => fun
  | [d] => { results := [.lit (.bool false)], args := [d] }
  | _ => none }
def FnTsnLogSeenIsEarlierOccurrenceWrongFalsely : Prop := fnTsnLogSeenIsEarlierOccurrenceRow.holds Try.pinned (OpenSpec.ofChange fnTsnLogSeenIsEarlierOccurrenceWrong)

/-- 'zzlaws_internal_capture_b1.FnTsnLogRemembersEverySeenAndNoOther': WHATEVER THE INPUT: true; the input reads as it did. -/
def fnTsnLogRemembersEverySeenAndNoOtherSpec : ChangeSpec := { name := "fnTsnLogRemembersEverySeenAndNoOther", fn := fun _ => fun
  | [d1, d2] => { results := [.lit (.bool true)], args := [d1, d2] }
  | _ => none }
def fnTsnLogRemembersEverySeenAndNoOtherRow : OpenClaim := { program := "qxb6002696a", sum := "1faea433beb67558e4607cc1ed87808d2be14d8a488d3bef63260898a92b0c60", func := "example.com/hushline/hushline/zzlaws_internal_capture_b1.FnTsnLogRemembersEverySeenAndNoOther", spec := "fnTsnLogRemembersEverySeenAndNoOther", apart := false }
def FnTsnLogRemembersEverySeenAndNoOtherSaid : Prop := fnTsnLogRemembersEverySeenAndNoOtherRow.holds Try.pinned (OpenSpec.ofChange fnTsnLogRemembersEverySeenAndNoOtherSpec)

/-- ITS FALSE NEIGHBOUR: 'it returns false'. Refute it at one input. -/
def fnTsnLogRemembersEverySeenAndNoOtherWrong : ChangeSpec := { name := "fnTsnLogRemembersEverySeenAndNoOther", fn := fun _ => fun
  | [d1, d2] => { results := [.lit (.bool false)], args := [d1, d2] }
  | _ => none }
def FnTsnLogRemembersEverySeenAndNoOtherWrongFalsely : Prop := fnTsnLogRemembersEverySeenAndNoOtherRow.holds Try.pinned (OpenSpec.ofChange fnTsnLogRemembersEverySeenAndNoOtherWrong)

/-- 'zzlaws_internal_capture_b1.FnSkipExtensionsEndsAtItsEncoding': WHATEVER THE INPUT: true; the input reads as it did. -/
def fnSkipExtensionsEndsAtItsEncodingSpec : ChangeSpec := { name := "fnSkipExtensionsEndsAtItsEncoding", fn := fun _ => fun
  | [d1, d2, d3, d4, d5, d6] => { results := [.lit (.bool true)], args := [d1, d2, d3, d4, d5, d6] }
  | _ => none }
def fnSkipExtensionsEndsAtItsEncodingRow : OpenClaim := { program := "qxb6002696a", sum := "1faea433beb67558e4607cc1ed87808d2be14d8a488d3bef63260898a92b0c60", func := "example.com/hushline/hushline/zzlaws_internal_capture_b1.FnSkipExtensionsEndsAtItsEncoding", spec := "fnSkipExtensionsEndsAtItsEncoding", apart := false }
def FnSkipExtensionsEndsAtItsEncodingSaid : Prop := fnSkipExtensionsEndsAtItsEncodingRow.holds Try.pinned (OpenSpec.ofChange fnSkipExtensionsEndsAtItsEncodingSpec)

/-- ITS FALSE NEIGHBOUR: 'it returns false'. Refute it at one input. -/
def fnSkipExtensionsEndsAtItsEncodingWrong : ChangeSpec := { name := "fnSkipExtensionsEndsAtItsEncoding", fn := fun _ => fun
  | [d1, d2, d3, d4, d5, d6] => { results := [.lit (.bool false)], args := [d1, d2, d3, d4, d5, d6] }
  | _ => none }
def FnSkipExtensionsEndsAtItsEncodingWrongFalsely : Prop := fnSkipExtensionsEndsAtItsEncodingRow.holds Try.pinned (OpenSpec.ofChange fnSkipExtensionsEndsAtItsEncodingWrong)

/-- 'zzlaws_internal_capture_b1.FnSkipExtensionsRefusesACutEncoding': WHATEVER THE INPUT: true; the input reads as it did. -/
def fnSkipExtensionsRefusesACutEncodingSpec : ChangeSpec := { name := "fnSkipExtensionsRefusesACutEncoding", fn := fun _ => fun
  | [d1, d2, d3, d4, d5, d6] => { results := [.lit (.bool true)], args := [d1, d2, d3, d4, d5, d6] }
  | _ => none }
def fnSkipExtensionsRefusesACutEncodingRow : OpenClaim := { program := "qxb6002696a", sum := "1faea433beb67558e4607cc1ed87808d2be14d8a488d3bef63260898a92b0c60", func := "example.com/hushline/hushline/zzlaws_internal_capture_b1.FnSkipExtensionsRefusesACutEncoding", spec := "fnSkipExtensionsRefusesACutEncoding", apart := false }
def FnSkipExtensionsRefusesACutEncodingSaid : Prop := fnSkipExtensionsRefusesACutEncodingRow.holds Try.pinned (OpenSpec.ofChange fnSkipExtensionsRefusesACutEncodingSpec)

/-- ITS FALSE NEIGHBOUR: 'it returns false'. Refute it at one input. -/
def fnSkipExtensionsRefusesACutEncodingWrong : ChangeSpec := { name := "fnSkipExtensionsRefusesACutEncoding", fn := fun _ => fun
  | [d1, d2, d3, d4, d5, d6] => { results := [.lit (.bool false)], args := [d1, d2, d3, d4, d5, d6] }
  | _ => none }
def FnSkipExtensionsRefusesACutEncodingWrongFalsely : Prop := fnSkipExtensionsRefusesACutEncodingRow.holds Try.pinned (OpenSpec.ofChange fnSkipExtensionsRefusesACutEncodingWrong)

/-- 'zzlaws_internal_capture_b1.FnSkipExtensionsStaysInBounds': WHATEVER THE INPUT: true; the input reads as it did. -/
def fnSkipExtensionsStaysInBoundsSpec : ChangeSpec := { name := "fnSkipExtensionsStaysInBounds", fn := fun _ => fun
  | [d1, d2, d3] => { results := [.lit (.bool true)], args := [d1, d2, d3] }
  | _ => none }
def fnSkipExtensionsStaysInBoundsRow : OpenClaim := { program := "qxb6002696a", sum := "1faea433beb67558e4607cc1ed87808d2be14d8a488d3bef63260898a92b0c60", func := "example.com/hushline/hushline/zzlaws_internal_capture_b1.FnSkipExtensionsStaysInBounds", spec := "fnSkipExtensionsStaysInBounds", apart := false }
def FnSkipExtensionsStaysInBoundsSaid : Prop := fnSkipExtensionsStaysInBoundsRow.holds Try.pinned (OpenSpec.ofChange fnSkipExtensionsStaysInBoundsSpec)

/-- ITS FALSE NEIGHBOUR: 'it returns false'. Refute it at one input. -/
def fnSkipExtensionsStaysInBoundsWrong : ChangeSpec := { name := "fnSkipExtensionsStaysInBounds", fn := fun _ => fun
  | [d1, d2, d3] => { results := [.lit (.bool false)], args := [d1, d2, d3] }
  | _ => none }
def FnSkipExtensionsStaysInBoundsWrongFalsely : Prop := fnSkipExtensionsStaysInBoundsRow.holds Try.pinned (OpenSpec.ofChange fnSkipExtensionsStaysInBoundsWrong)

/-- 'zzlaws_internal_capture_b1.FnSkipSNSSAIEndsAtItsEncoding': WHATEVER THE INPUT: true; the input reads as it did. -/
def fnSkipSNSSAIEndsAtItsEncodingSpec : ChangeSpec := { name := "fnSkipSNSSAIEndsAtItsEncoding", fn := fun _ => fun
  | [d1, d2, d3, d4, d5, d6, d7, d8, d9, d10] => { results := [.lit (.bool true)], args := [d1, d2, d3, d4, d5, d6, d7, d8, d9, d10] }
  | _ => none }
def fnSkipSNSSAIEndsAtItsEncodingRow : OpenClaim := { program := "qxb6002696a", sum := "1faea433beb67558e4607cc1ed87808d2be14d8a488d3bef63260898a92b0c60", func := "example.com/hushline/hushline/zzlaws_internal_capture_b1.FnSkipSNSSAIEndsAtItsEncoding", spec := "fnSkipSNSSAIEndsAtItsEncoding", apart := false }
def FnSkipSNSSAIEndsAtItsEncodingSaid : Prop := fnSkipSNSSAIEndsAtItsEncodingRow.holds Try.pinned (OpenSpec.ofChange fnSkipSNSSAIEndsAtItsEncodingSpec)

/-- ITS FALSE NEIGHBOUR: 'it returns false'. Refute it at one input. -/
def fnSkipSNSSAIEndsAtItsEncodingWrong : ChangeSpec := { name := "fnSkipSNSSAIEndsAtItsEncoding", fn := fun _ => fun
  | [d1, d2, d3, d4, d5, d6, d7, d8, d9, d10] => { results := [.lit (.bool false)], args := [d1, d2, d3, d4, d5, d6, d7, d8, d9, d10] }
  | _ => none }
def FnSkipSNSSAIEndsAtItsEncodingWrongFalsely : Prop := fnSkipSNSSAIEndsAtItsEncodingRow.holds Try.pinned (OpenSpec.ofChange fnSkipSNSSAIEndsAtItsEncodingWrong)

/-- 'zzlaws_internal_capture_b1.FnSkipSNSSAIRefusesACutEncoding': WHATEVER THE INPUT: true; the input reads as it did. -/
def fnSkipSNSSAIRefusesACutEncodingSpec : ChangeSpec := { name := "fnSkipSNSSAIRefusesACutEncoding", fn := fun _ => fun
  | [d1, d2, d3, d4, d5, d6, d7, d8, d9, d10] => { results := [.lit (.bool true)], args := [d1, d2, d3, d4, d5, d6, d7, d8, d9, d10] }
  | _ => none }
def fnSkipSNSSAIRefusesACutEncodingRow : OpenClaim := { program := "qxb6002696a", sum := "1faea433beb67558e4607cc1ed87808d2be14d8a488d3bef63260898a92b0c60", func := "example.com/hushline/hushline/zzlaws_internal_capture_b1.FnSkipSNSSAIRefusesACutEncoding", spec := "fnSkipSNSSAIRefusesACutEncoding", apart := false }
def FnSkipSNSSAIRefusesACutEncodingSaid : Prop := fnSkipSNSSAIRefusesACutEncodingRow.holds Try.pinned (OpenSpec.ofChange fnSkipSNSSAIRefusesACutEncodingSpec)

/-- ITS FALSE NEIGHBOUR: 'it returns false'. Refute it at one input. -/
def fnSkipSNSSAIRefusesACutEncodingWrong : ChangeSpec := { name := "fnSkipSNSSAIRefusesACutEncoding", fn := fun _ => fun
  | [d1, d2, d3, d4, d5, d6, d7, d8, d9, d10] => { results := [.lit (.bool false)], args := [d1, d2, d3, d4, d5, d6, d7, d8, d9, d10] }
  | _ => none }
def FnSkipSNSSAIRefusesACutEncodingWrongFalsely : Prop := fnSkipSNSSAIRefusesACutEncodingRow.holds Try.pinned (OpenSpec.ofChange fnSkipSNSSAIRefusesACutEncodingWrong)

/-- 'zzlaws_internal_capture_b1.FnSkipSNSSAIStaysInBounds': WHATEVER THE INPUT: true; the input reads as it did. -/
def fnSkipSNSSAIStaysInBoundsSpec : ChangeSpec := { name := "fnSkipSNSSAIStaysInBounds", fn := fun _ => fun
  | [d1, d2, d3] => { results := [.lit (.bool true)], args := [d1, d2, d3] }
  | _ => none }
def fnSkipSNSSAIStaysInBoundsRow : OpenClaim := { program := "qxb6002696a", sum := "1faea433beb67558e4607cc1ed87808d2be14d8a488d3bef63260898a92b0c60", func := "example.com/hushline/hushline/zzlaws_internal_capture_b1.FnSkipSNSSAIStaysInBounds", spec := "fnSkipSNSSAIStaysInBounds", apart := false }
def FnSkipSNSSAIStaysInBoundsSaid : Prop := fnSkipSNSSAIStaysInBoundsRow.holds Try.pinned (OpenSpec.ofChange fnSkipSNSSAIStaysInBoundsSpec)

/-- ITS FALSE NEIGHBOUR: 'it returns false'. Refute it at one input. -/
def fnSkipSNSSAIStaysInBoundsWrong : ChangeSpec := { name := "fnSkipSNSSAIStaysInBounds", fn := fun _ => fun
  | [d1, d2, d3] => { results := [.lit (.bool false)], args := [d1, d2, d3] }
  | _ => none }
def FnSkipSNSSAIStaysInBoundsWrongFalsely : Prop := fnSkipSNSSAIStaysInBoundsRow.holds Try.pinned (OpenSpec.ofChange fnSkipSNSSAIStaysInBoundsWrong)

end Rows
end Go.Proofs.Qxb6002696a
