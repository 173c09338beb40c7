/-
  No cell of these rows narrows 'for every input' (looked for: loops, veiled, ifaces, maps, wideKeys, modest, calm, conditions, laid).
  DERIVED. THE GIVEN ROWS OF THIS SEAT. 6 by the template 'for every input the law returns true; each argument reads behind the call as it read before'; 0 by the template 'total and deterministic' (their statements: Qxb6600074aTotals.lean).
  GIVEN WITH THE SEED: the statements are not yours to turn. If you find one false, say at which input.
  Laid BY PROGRAM, IN A SANDBOX (cutbox-rows.mjs): the forced cells as the released guide's own fill.sh prints them over the translation e00ef1466d45dcd6… (all of the seat's roots in one cut). By AI agents, Wed Nov 11 2026. No macro, syntax, notation, axiom, sorry.
-/
import Derived.Test.Qxb6600074aChecked
import GoSem.Claim
import GoSem.ClaimJoined
import GoSem.ClaimMapViews
import Derived.JoinedTies
import Derived.KernelRfl
namespace Go.Proofs.Qxb6600074a
/- THE CELL 'sum', in the pinned program and in every row, IS THE sha256 OF THE DUMP (.gsa) THAT Qxb6600074aProg.lean LOADS. Nothing in Lean hashes anything: it is a label: what it is worth is what the hold of that sum in a sandbox is worth. -/
noncomputable def Try.pinned : Pinned := { name := "qxb6600074a", sum := "e00ef1466d45dcd6d0de61d32ef1d9688aae4a30ed0bd4378bdac8ab32249cd4", checked := Try.checked }
namespace Rows
def none {H : Type} : Left H := { results := [], args := [] }

/-- 'zzlaws_textdiff_b1.FnSharedKeepsExactlyTheLinesTheOtherHas': WHATEVER THE INPUT: true; the input reads as it did. -/
def fnSharedKeepsExactlyTheLinesTheOtherHasSpec : ChangeSpec := { name := "fnSharedKeepsExactlyTheLinesTheOtherHas", fn := fun _ => fun
  | [d1, d2, d3] => { results := [.lit (.bool true)], args := [d1, d2, d3] }
  | _ => none }
def fnSharedKeepsExactlyTheLinesTheOtherHasRow : OpenClaim := { program := "qxb6600074a", sum := "e00ef1466d45dcd6d0de61d32ef1d9688aae4a30ed0bd4378bdac8ab32249cd4", func := "example.com/tributary/tributary/zzlaws_textdiff_b1.FnSharedKeepsExactlyTheLinesTheOtherHas", spec := "fnSharedKeepsExactlyTheLinesTheOtherHas", apart := false }
def FnSharedKeepsExactlyTheLinesTheOtherHasSaid : Prop := fnSharedKeepsExactlyTheLinesTheOtherHasRow.holds Try.pinned (OpenSpec.ofChange fnSharedKeepsExactlyTheLinesTheOtherHasSpec)

/-- ITS FALSE NEIGHBOUR: 'it returns false'. Refute it at one input. -/
def fnSharedKeepsExactlyTheLinesTheOtherHasWrong : ChangeSpec := { name := "fnSharedKeepsExactlyTheLinesTheOtherHas", fn := fun _ => fun
  | [d1, d2, d3] => { results := [.lit (.bool false)], args := [d1, d2, d3] }
  | _ => none }
def FnSharedKeepsExactlyTheLinesTheOtherHasWrongFalsely : Prop := fnSharedKeepsExactlyTheLinesTheOtherHasRow.holds Try.pinned (OpenSpec.ofChange fnSharedKeepsExactlyTheLinesTheOtherHasWrong)

/-- 'zzlaws_textdiff_b1.FnSharedIsStableOnItsOwnAnswer': WHATEVER THE INPUT: true; the input reads as it did. -/
def fnSharedIsStableOnItsOwnAnswerSpec : ChangeSpec := { name := "fnSharedIsStableOnItsOwnAnswer", fn := fun _ => fun
  | [d1, d2, d3] => { results := [.lit (.bool true)], args := [d1, d2, d3] }
  | _ => none }
def fnSharedIsStableOnItsOwnAnswerRow : OpenClaim := { program := "qxb6600074a", sum := "e00ef1466d45dcd6d0de61d32ef1d9688aae4a30ed0bd4378bdac8ab32249cd4", func := "example.com/tributary/tributary/zzlaws_textdiff_b1.FnSharedIsStableOnItsOwnAnswer", spec := "fnSharedIsStableOnItsOwnAnswer", apart := false }
def FnSharedIsStableOnItsOwnAnswerSaid : Prop := fnSharedIsStableOnItsOwnAnswerRow.holds Try.pinned (OpenSpec.ofChange fnSharedIsStableOnItsOwnAnswerSpec)

/-- ITS FALSE NEIGHBOUR: 'it returns false'. Refute it at one input. -/
def fnSharedIsStableOnItsOwnAnswerWrong : ChangeSpec := { name := "fnSharedIsStableOnItsOwnAnswer", fn := fun _ => fun
  | [d1, d2, d3] => { results := [.lit (.bool false)], args := [d1, d2, d3] }
  | _ => none }
def FnSharedIsStableOnItsOwnAnswerWrongFalsely : Prop := fnSharedIsStableOnItsOwnAnswerRow.holds Try.pinned (OpenSpec.ofChange fnSharedIsStableOnItsOwnAnswerWrong)

/-- 'zzlaws_textdiff_b1.FnSlideKeepsTheCommonSubsequence': WHATEVER THE INPUT: true; the input reads as it did. -/
def fnSlideKeepsTheCommonSubsequenceSpec : ChangeSpec := { name := "fnSlideKeepsTheCommonSubsequence", fn := fun _ => fun
  | [d1, d2, d3] => { results := [.lit (.bool true)], args := [d1, d2, d3] }
  | _ => none }
def fnSlideKeepsTheCommonSubsequenceRow : OpenClaim := { program := "qxb6600074a", sum := "e00ef1466d45dcd6d0de61d32ef1d9688aae4a30ed0bd4378bdac8ab32249cd4", func := "example.com/tributary/tributary/zzlaws_textdiff_b1.FnSlideKeepsTheCommonSubsequence", spec := "fnSlideKeepsTheCommonSubsequence", unfollowed := true, recurses := true, apart := false }
def FnSlideKeepsTheCommonSubsequenceSaid : Prop := fnSlideKeepsTheCommonSubsequenceRow.holds Try.pinned (OpenSpec.ofChange fnSlideKeepsTheCommonSubsequenceSpec)

/-- ITS FALSE NEIGHBOUR: 'it returns false'. Refute it at one input. -/
def fnSlideKeepsTheCommonSubsequenceWrong : ChangeSpec := { name := "fnSlideKeepsTheCommonSubsequence", fn := fun _ => fun
  | [d1, d2, d3] => { results := [.lit (.bool false)], args := [d1, d2, d3] }
  | _ => none }
def FnSlideKeepsTheCommonSubsequenceWrongFalsely : Prop := fnSlideKeepsTheCommonSubsequenceRow.holds Try.pinned (OpenSpec.ofChange fnSlideKeepsTheCommonSubsequenceWrong)

/-- 'zzlaws_textdiff_b1.FnSlideIsIdempotentWithoutOtherChanges': WHATEVER THE INPUT: true; the input reads as it did. -/
def fnSlideIsIdempotentWithoutOtherChangesSpec : ChangeSpec := { name := "fnSlideIsIdempotentWithoutOtherChanges", fn := fun _ => fun
  | [d1, d2] => { results := [.lit (.bool true)], args := [d1, d2] }
  | _ => none }
def fnSlideIsIdempotentWithoutOtherChangesRow : OpenClaim := { program := "qxb6600074a", sum := "e00ef1466d45dcd6d0de61d32ef1d9688aae4a30ed0bd4378bdac8ab32249cd4", func := "example.com/tributary/tributary/zzlaws_textdiff_b1.FnSlideIsIdempotentWithoutOtherChanges", spec := "fnSlideIsIdempotentWithoutOtherChanges", unfollowed := true, recurses := true, apart := false }
def FnSlideIsIdempotentWithoutOtherChangesSaid : Prop := fnSlideIsIdempotentWithoutOtherChangesRow.holds Try.pinned (OpenSpec.ofChange fnSlideIsIdempotentWithoutOtherChangesSpec)

/-- ITS FALSE NEIGHBOUR: 'it returns false'. Refute it at one input. -/
def fnSlideIsIdempotentWithoutOtherChangesWrong : ChangeSpec := { name := "fnSlideIsIdempotentWithoutOtherChanges", fn := fun _ => fun
  | [d1, d2] => { results := [.lit (.bool false)], args := [d1, d2] }
  | _ => none }
def FnSlideIsIdempotentWithoutOtherChangesWrongFalsely : Prop := fnSlideIsIdempotentWithoutOtherChangesRow.holds Try.pinned (OpenSpec.ofChange fnSlideIsIdempotentWithoutOtherChangesWrong)

/-- 'zzlaws_textdiff_b1.FnPlacesAreOrderedAndCoverTheMarks': WHATEVER THE INPUT: true; the input reads as it did. -/
def fnPlacesAreOrderedAndCoverTheMarksSpec : ChangeSpec := { name := "fnPlacesAreOrderedAndCoverTheMarks", fn := fun _ => fun
  | [d1, d2, d3, d4] => { results := [.lit (.bool true)], args := [d1, d2, d3, d4] }
  | _ => none }
def fnPlacesAreOrderedAndCoverTheMarksRow : OpenClaim := { program := "qxb6600074a", sum := "e00ef1466d45dcd6d0de61d32ef1d9688aae4a30ed0bd4378bdac8ab32249cd4", func := "example.com/tributary/tributary/zzlaws_textdiff_b1.FnPlacesAreOrderedAndCoverTheMarks", spec := "fnPlacesAreOrderedAndCoverTheMarks", unfollowed := true, recurses := true, apart := false }
def FnPlacesAreOrderedAndCoverTheMarksSaid : Prop := fnPlacesAreOrderedAndCoverTheMarksRow.holds Try.pinned (OpenSpec.ofChange fnPlacesAreOrderedAndCoverTheMarksSpec)

/-- ITS FALSE NEIGHBOUR: 'it returns false'. Refute it at one input. -/
def fnPlacesAreOrderedAndCoverTheMarksWrong : ChangeSpec := { name := "fnPlacesAreOrderedAndCoverTheMarks", fn := fun _ => fun
  | [d1, d2, d3, d4] => { results := [.lit (.bool false)], args := [d1, d2, d3, d4] }
  | _ => none }
def FnPlacesAreOrderedAndCoverTheMarksWrongFalsely : Prop := fnPlacesAreOrderedAndCoverTheMarksRow.holds Try.pinned (OpenSpec.ofChange fnPlacesAreOrderedAndCoverTheMarksWrong)

/-- 'zzlaws_textdiff_b1.FnPlacesPatchRebuildsBothTexts': WHATEVER THE INPUT: true; the input reads as it did. -/
def fnPlacesPatchRebuildsBothTextsSpec : ChangeSpec := { name := "fnPlacesPatchRebuildsBothTexts", fn := fun _ => fun
  | [d1, d2, d3, d4] => { results := [.lit (.bool true)], args := [d1, d2, d3, d4] }
  | _ => none }
def fnPlacesPatchRebuildsBothTextsRow : OpenClaim := { program := "qxb6600074a", sum := "e00ef1466d45dcd6d0de61d32ef1d9688aae4a30ed0bd4378bdac8ab32249cd4", func := "example.com/tributary/tributary/zzlaws_textdiff_b1.FnPlacesPatchRebuildsBothTexts", spec := "fnPlacesPatchRebuildsBothTexts", unfollowed := true, recurses := true, apart := false }
def FnPlacesPatchRebuildsBothTextsSaid : Prop := fnPlacesPatchRebuildsBothTextsRow.holds Try.pinned (OpenSpec.ofChange fnPlacesPatchRebuildsBothTextsSpec)

/-- ITS FALSE NEIGHBOUR: 'it returns false'. Refute it at one input. -/
def fnPlacesPatchRebuildsBothTextsWrong : ChangeSpec := { name := "fnPlacesPatchRebuildsBothTexts", fn := fun _ => fun
  | [d1, d2, d3, d4] => { results := [.lit (.bool false)], args := [d1, d2, d3, d4] }
  | _ => none }
def FnPlacesPatchRebuildsBothTextsWrongFalsely : Prop := fnPlacesPatchRebuildsBothTextsRow.holds Try.pinned (OpenSpec.ofChange fnPlacesPatchRebuildsBothTextsWrong)

end Rows
end Go.Proofs.Qxb6600074a
