/-
  No cell of these rows narrows 'for every input' (looked for: loops, veiled, ifaces, maps, wideKeys, modest, calm, conditions, laid).
  DERIVED. THE GIVEN ROWS OF THIS SEAT. 4 by the template 'for every input the law returns true; each argument reads behind the call as it read before'; 0 by the template 'total and deterministic' (their statements: Qxb6619198aTotals.lean).
  GIVEN WITH THE SEED: the statements are not yours to turn. If you find one false, say at which input.
  Laid BY PROGRAM, IN A SANDBOX (cutbox-rows.mjs): the forced cells as the released guide's own fill.sh prints them over the translation 01936a39b8514769… (all of the seat's roots in one cut). By AI agents, Wed Nov 11 2026. No macro, syntax, notation, axiom, sorry.
-/
import Derived.Test.Qxb6619198aChecked
import GoSem.Claim
import GoSem.ClaimJoined
import GoSem.ClaimMapViews
import Derived.JoinedTies
import Derived.KernelRfl
namespace Go.Proofs.Qxb6619198a
/- THE CELL 'sum', in the pinned program and in every row, IS THE sha256 OF THE DUMP (.gsa) THAT Qxb6619198aProg.lean LOADS. Nothing in Lean hashes anything: it is a label: what it is worth is what the hold of that sum in a sandbox is worth. -/
noncomputable def Try.pinned : Pinned := { name := "qxb6619198a", sum := "01936a39b85147694475fa31a65b6e5278b5631bec2e10b06780d5d085e24fcb", checked := Try.checked }
namespace Rows
def none {H : Type} : Left H := { results := [], args := [] }

/-- 'zzlaws_internal_fact_b1.FnClosingQuoteFindsFirstUnescapedQuote': WHATEVER THE INPUT: true; the input reads as it did. -/
def fnClosingQuoteFindsFirstUnescapedQuoteSpec : ChangeSpec := { name := "fnClosingQuoteFindsFirstUnescapedQuote", fn := fun _ => fun
  | [d1, d2, d3, d4] => { results := [.lit (.bool true)], args := [d1, d2, d3, d4] }
  | _ => none }
def fnClosingQuoteFindsFirstUnescapedQuoteRow : OpenClaim := { program := "qxb6619198a", sum := "01936a39b85147694475fa31a65b6e5278b5631bec2e10b06780d5d085e24fcb", func := "example.com/ostraca/ostraca/zzlaws_internal_fact_b1.FnClosingQuoteFindsFirstUnescapedQuote", spec := "fnClosingQuoteFindsFirstUnescapedQuote", apart := false }
def FnClosingQuoteFindsFirstUnescapedQuoteSaid : Prop := fnClosingQuoteFindsFirstUnescapedQuoteRow.holds Try.pinned (OpenSpec.ofChange fnClosingQuoteFindsFirstUnescapedQuoteSpec)

/-- ITS FALSE NEIGHBOUR: 'it returns false'. Refute it at one input. -/
def fnClosingQuoteFindsFirstUnescapedQuoteWrong : ChangeSpec := { name := "fnClosingQuoteFindsFirstUnescapedQuote", fn := fun _ => fun
  | [d1, d2, d3, d4] => { results := [.lit (.bool false)], args := [d1, d2, d3, d4] }
  | _ => none }
def FnClosingQuoteFindsFirstUnescapedQuoteWrongFalsely : Prop := fnClosingQuoteFindsFirstUnescapedQuoteRow.holds Try.pinned (OpenSpec.ofChange fnClosingQuoteFindsFirstUnescapedQuoteWrong)

/-- 'zzlaws_internal_fact_b1.FnClosingQuoteSkipsAnInsertedEscape': WHATEVER THE INPUT: true; the input reads as it did. -/
def fnClosingQuoteSkipsAnInsertedEscapeSpec : ChangeSpec := { name := "fnClosingQuoteSkipsAnInsertedEscape", fn := fun _ => fun
  | [d1, d2, d3, d4] => { results := [.lit (.bool true)], args := [d1, d2, d3, d4] }
  | _ => none }
def fnClosingQuoteSkipsAnInsertedEscapeRow : OpenClaim := { program := "qxb6619198a", sum := "01936a39b85147694475fa31a65b6e5278b5631bec2e10b06780d5d085e24fcb", func := "example.com/ostraca/ostraca/zzlaws_internal_fact_b1.FnClosingQuoteSkipsAnInsertedEscape", spec := "fnClosingQuoteSkipsAnInsertedEscape", apart := false }
def FnClosingQuoteSkipsAnInsertedEscapeSaid : Prop := fnClosingQuoteSkipsAnInsertedEscapeRow.holds Try.pinned (OpenSpec.ofChange fnClosingQuoteSkipsAnInsertedEscapeSpec)

/-- ITS FALSE NEIGHBOUR: 'it returns false'. Refute it at one input. -/
def fnClosingQuoteSkipsAnInsertedEscapeWrong : ChangeSpec := { name := "fnClosingQuoteSkipsAnInsertedEscape", fn := fun _ => fun
  | [d1, d2, d3, d4] => { results := [.lit (.bool false)], args := [d1, d2, d3, d4] }
  | _ => none }
def FnClosingQuoteSkipsAnInsertedEscapeWrongFalsely : Prop := fnClosingQuoteSkipsAnInsertedEscapeRow.holds Try.pinned (OpenSpec.ofChange fnClosingQuoteSkipsAnInsertedEscapeWrong)

/-- 'zzlaws_internal_fact_b1.FnFollowedByColonCutAndModel': WHATEVER THE INPUT: true; the input reads as it did. -/
def fnFollowedByColonCutAndModelSpec : ChangeSpec := { name := "fnFollowedByColonCutAndModel", fn := fun _ => fun
  | [d1, d2, d3] => { results := [.lit (.bool true)], args := [d1, d2, d3] }
  | _ => none }
def fnFollowedByColonCutAndModelRow : OpenClaim := { program := "qxb6619198a", sum := "01936a39b85147694475fa31a65b6e5278b5631bec2e10b06780d5d085e24fcb", func := "example.com/ostraca/ostraca/zzlaws_internal_fact_b1.FnFollowedByColonCutAndModel", spec := "fnFollowedByColonCutAndModel", apart := false }
def FnFollowedByColonCutAndModelSaid : Prop := fnFollowedByColonCutAndModelRow.holds Try.pinned (OpenSpec.ofChange fnFollowedByColonCutAndModelSpec)

/-- ITS FALSE NEIGHBOUR: 'it returns false'. Refute it at one input. -/
def fnFollowedByColonCutAndModelWrong : ChangeSpec := { name := "fnFollowedByColonCutAndModel", fn := fun _ => fun
  | [d1, d2, d3] => { results := [.lit (.bool false)], args := [d1, d2, d3] }
  | _ => none }
def FnFollowedByColonCutAndModelWrongFalsely : Prop := fnFollowedByColonCutAndModelRow.holds Try.pinned (OpenSpec.ofChange fnFollowedByColonCutAndModelWrong)

/-- 'zzlaws_internal_fact_b1.FnFollowedByColonInsertedByte': WHATEVER THE INPUT: true; the input reads as it did. -/
def fnFollowedByColonInsertedByteSpec : ChangeSpec := { name := "fnFollowedByColonInsertedByte", fn := fun _ => fun
  | [d1, d2, d3] => { results := [.lit (.bool true)], args := [d1, d2, d3] }
  | _ => none }
def fnFollowedByColonInsertedByteRow : OpenClaim := { program := "qxb6619198a", sum := "01936a39b85147694475fa31a65b6e5278b5631bec2e10b06780d5d085e24fcb", func := "example.com/ostraca/ostraca/zzlaws_internal_fact_b1.FnFollowedByColonInsertedByte", spec := "fnFollowedByColonInsertedByte", apart := false }
def FnFollowedByColonInsertedByteSaid : Prop := fnFollowedByColonInsertedByteRow.holds Try.pinned (OpenSpec.ofChange fnFollowedByColonInsertedByteSpec)

/-- ITS FALSE NEIGHBOUR: 'it returns false'. Refute it at one input. -/
def fnFollowedByColonInsertedByteWrong : ChangeSpec := { name := "fnFollowedByColonInsertedByte", fn := fun _ => fun
  | [d1, d2, d3] => { results := [.lit (.bool false)], args := [d1, d2, d3] }
  | _ => none }
def FnFollowedByColonInsertedByteWrongFalsely : Prop := fnFollowedByColonInsertedByteRow.holds Try.pinned (OpenSpec.ofChange fnFollowedByColonInsertedByteWrong)

end Rows
end Go.Proofs.Qxb6619198a
