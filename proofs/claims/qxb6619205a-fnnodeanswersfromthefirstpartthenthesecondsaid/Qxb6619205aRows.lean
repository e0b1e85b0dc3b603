/-
  No cell of these rows narrows 'for every input' (looked for: loops, veiled, ifaces, maps, wideKeys, modest, calm, conditions, laid).
  DERIVED. THE GIVEN ROWS OF THIS SEAT. 5 by the template 'for every input the law returns true; each argument reads behind the call as it read before'; 0 by the template 'total and deterministic' (their statements: Qxb6619205aTotals.lean).
  GIVEN WITH THE SEED: the statements are not yours to turn. If you find one false, say at which input.
  Laid BY PROGRAM, IN A SANDBOX (cutbox-rows.mjs): the forced cells as the released guide's own fill.sh prints them over the translation 15c115e2ee77a59f… (all of the seat's roots in one cut). By AI agents, Wed Nov 11 2026. No macro, syntax, notation, axiom, sorry.
-/
import Derived.Test.Qxb6619205aChecked
import GoSem.Claim
import GoSem.ClaimJoined
import GoSem.ClaimMapViews
import Derived.JoinedTies
import Derived.KernelRfl
namespace Go.Proofs.Qxb6619205a
/- THE CELL 'sum', in the pinned program and in every row, IS THE sha256 OF THE DUMP (.gsa) THAT Qxb6619205aProg.lean LOADS. Nothing in Lean hashes anything: it is a label: what it is worth is what the hold of that sum in a sandbox is worth. -/
noncomputable def Try.pinned : Pinned := { name := "qxb6619205a", sum := "15c115e2ee77a59fb2b698ea00ec3b269228fead738d30ba03cd34bad9ed492c", checked := Try.checked }
namespace Rows
def none {H : Type} : Left H := { results := [], args := [] }

/-- 'zzlaws_internal_cluster_b1.FnNodeInsertedAtAnyPlaceIsFound': WHATEVER THE INPUT: true; the input reads as it did. -/
def fnNodeInsertedAtAnyPlaceIsFoundSpec : ChangeSpec := { name := "fnNodeInsertedAtAnyPlaceIsFound", fn := fun _ => fun
  | [d1, d2, d3, d4] => { results := [.lit (.bool true)], args := [d1, d2, d3, d4] }
  | _ => none }
def fnNodeInsertedAtAnyPlaceIsFoundRow : OpenClaim := { program := "qxb6619205a", sum := "15c115e2ee77a59fb2b698ea00ec3b269228fead738d30ba03cd34bad9ed492c", func := "example.com/cohort/cohort/zzlaws_internal_cluster_b1.FnNodeInsertedAtAnyPlaceIsFound", spec := "fnNodeInsertedAtAnyPlaceIsFound", apart := false }
def FnNodeInsertedAtAnyPlaceIsFoundSaid : Prop := fnNodeInsertedAtAnyPlaceIsFoundRow.holds Try.pinned (OpenSpec.ofChange fnNodeInsertedAtAnyPlaceIsFoundSpec)

/-- ITS FALSE NEIGHBOUR: 'it returns false'. Refute it at one input. -/
def fnNodeInsertedAtAnyPlaceIsFoundWrong : ChangeSpec := { name := "fnNodeInsertedAtAnyPlaceIsFound", fn := fun _ => fun
  | [d1, d2, d3, d4] => { results := [.lit (.bool false)], args := [d1, d2, d3, d4] }
  | _ => none }
def FnNodeInsertedAtAnyPlaceIsFoundWrongFalsely : Prop := fnNodeInsertedAtAnyPlaceIsFoundRow.holds Try.pinned (OpenSpec.ofChange fnNodeInsertedAtAnyPlaceIsFoundWrong)

/-- 'zzlaws_internal_cluster_b1.FnNodeAnswersFromTheFirstPartThenTheSecond': WHATEVER THE INPUT: true; the input reads as it did. -/
def fnNodeAnswersFromTheFirstPartThenTheSecondSpec : ChangeSpec := { name := "fnNodeAnswersFromTheFirstPartThenTheSecond", fn := fun _ => fun
  | [d1, d2, d3] => { results := [.lit (.bool true)], args := [d1, d2, d3] }
  | _ => none }
def fnNodeAnswersFromTheFirstPartThenTheSecondRow : OpenClaim := { program := "qxb6619205a", sum := "15c115e2ee77a59fb2b698ea00ec3b269228fead738d30ba03cd34bad9ed492c", func := "example.com/cohort/cohort/zzlaws_internal_cluster_b1.FnNodeAnswersFromTheFirstPartThenTheSecond", spec := "fnNodeAnswersFromTheFirstPartThenTheSecond", apart := false }
def FnNodeAnswersFromTheFirstPartThenTheSecondSaid : Prop := fnNodeAnswersFromTheFirstPartThenTheSecondRow.holds Try.pinned (OpenSpec.ofChange fnNodeAnswersFromTheFirstPartThenTheSecondSpec)

/-- ITS FALSE NEIGHBOUR: 'it returns false'. Refute it at one input. -/
def fnNodeAnswersFromTheFirstPartThenTheSecondWrong : ChangeSpec := { name := "fnNodeAnswersFromTheFirstPartThenTheSecond", fn := fun _ => fun
  | [d1, d2, d3] => { results := [.lit (.bool false)], args := [d1, d2, d3] }
  | _ => none }
def FnNodeAnswersFromTheFirstPartThenTheSecondWrongFalsely : Prop := fnNodeAnswersFromTheFirstPartThenTheSecondRow.holds Try.pinned (OpenSpec.ofChange fnNodeAnswersFromTheFirstPartThenTheSecondWrong)

/-- 'zzlaws_internal_cluster_b1.FnLowerEndIsTheLesserEnd': WHATEVER THE INPUT: true; the input reads as it did. -/
def fnLowerEndIsTheLesserEndSpec : ChangeSpec := { name := "fnLowerEndIsTheLesserEnd", fn := fun _ => fun
  | [d1, d2, d3] => { results := [.lit (.bool true)], args := [d1, d2, d3] }
  | _ => none }
def fnLowerEndIsTheLesserEndRow : OpenClaim := { program := "qxb6619205a", sum := "15c115e2ee77a59fb2b698ea00ec3b269228fead738d30ba03cd34bad9ed492c", func := "example.com/cohort/cohort/zzlaws_internal_cluster_b1.FnLowerEndIsTheLesserEnd", spec := "fnLowerEndIsTheLesserEnd", apart := false }
def FnLowerEndIsTheLesserEndSaid : Prop := fnLowerEndIsTheLesserEndRow.holds Try.pinned (OpenSpec.ofChange fnLowerEndIsTheLesserEndSpec)

/-- ITS FALSE NEIGHBOUR: 'it returns false'. Refute it at one input. -/
def fnLowerEndIsTheLesserEndWrong : ChangeSpec := { name := "fnLowerEndIsTheLesserEnd", fn := fun _ => fun
  | [d1, d2, d3] => { results := [.lit (.bool false)], args := [d1, d2, d3] }
  | _ => none }
def FnLowerEndIsTheLesserEndWrongFalsely : Prop := fnLowerEndIsTheLesserEndRow.holds Try.pinned (OpenSpec.ofChange fnLowerEndIsTheLesserEndWrong)

/-- 'zzlaws_internal_cluster_b1.FnLowerEndHoldsJustTheKeysBelowBoth': WHATEVER THE INPUT: true; the input reads as it did. -/
def fnLowerEndHoldsJustTheKeysBelowBothSpec : ChangeSpec := { name := "fnLowerEndHoldsJustTheKeysBelowBoth", fn := fun _ => fun
  | [d1, d2, d3] => { results := [.lit (.bool true)], args := [d1, d2, d3] }
  | _ => none }
def fnLowerEndHoldsJustTheKeysBelowBothRow : OpenClaim := { program := "qxb6619205a", sum := "15c115e2ee77a59fb2b698ea00ec3b269228fead738d30ba03cd34bad9ed492c", func := "example.com/cohort/cohort/zzlaws_internal_cluster_b1.FnLowerEndHoldsJustTheKeysBelowBoth", spec := "fnLowerEndHoldsJustTheKeysBelowBoth", apart := false }
def FnLowerEndHoldsJustTheKeysBelowBothSaid : Prop := fnLowerEndHoldsJustTheKeysBelowBothRow.holds Try.pinned (OpenSpec.ofChange fnLowerEndHoldsJustTheKeysBelowBothSpec)

/-- ITS FALSE NEIGHBOUR: 'it returns false'. Refute it at one input. -/
def fnLowerEndHoldsJustTheKeysBelowBothWrong : ChangeSpec := { name := "fnLowerEndHoldsJustTheKeysBelowBoth", fn := fun _ => fun
  | [d1, d2, d3] => { results := [.lit (.bool false)], args := [d1, d2, d3] }
  | _ => none }
def FnLowerEndHoldsJustTheKeysBelowBothWrongFalsely : Prop := fnLowerEndHoldsJustTheKeysBelowBothRow.holds Try.pinned (OpenSpec.ofChange fnLowerEndHoldsJustTheKeysBelowBothWrong)

/-- 'zzlaws_internal_cluster_b1.FnLowerASCIIFoldsCaseAlone': WHATEVER THE INPUT: true; the input reads as it did. -/
def fnLowerASCIIFoldsCaseAloneSpec : ChangeSpec := { name := "fnLowerASCIIFoldsCaseAlone", fn := fun _ => fun
  | [d1, d2] => { results := [.lit (.bool true)], args := [d1, d2] }
  | _ => none }
def fnLowerASCIIFoldsCaseAloneRow : OpenClaim := { program := "qxb6619205a", sum := "15c115e2ee77a59fb2b698ea00ec3b269228fead738d30ba03cd34bad9ed492c", func := "example.com/cohort/cohort/zzlaws_internal_cluster_b1.FnLowerASCIIFoldsCaseAlone", spec := "fnLowerASCIIFoldsCaseAlone", apart := false }
def FnLowerASCIIFoldsCaseAloneSaid : Prop := fnLowerASCIIFoldsCaseAloneRow.holds Try.pinned (OpenSpec.ofChange fnLowerASCIIFoldsCaseAloneSpec)

/-- ITS FALSE NEIGHBOUR: 'it returns false'. Refute it at one input. -/
def fnLowerASCIIFoldsCaseAloneWrong : ChangeSpec := { name := "fnLowerASCIIFoldsCaseAlone", fn := fun _ => fun
  | [d1, d2] => { results := [.lit (.bool false)], args := [d1, d2] }
  | _ => none }
def FnLowerASCIIFoldsCaseAloneWrongFalsely : Prop := fnLowerASCIIFoldsCaseAloneRow.holds Try.pinned (OpenSpec.ofChange fnLowerASCIIFoldsCaseAloneWrong)

end Rows
end Go.Proofs.Qxb6619205a
