/-
  No cell of these rows narrows 'for every input' (looked for: loops, veiled, ifaces, maps, wideKeys, modest, calm, conditions, laid).
  DERIVED. THE GIVEN ROWS OF THIS SEAT. 5 by the template 'for every input the law returns true; each argument reads behind the call as it read before'; 0 by the template 'total and deterministic' (their statements: Qxb6603692aTotals.lean).
  GIVEN WITH THE SEED: the statements are not yours to turn. If you find one false, say at which input.
  Laid BY PROGRAM, IN A SANDBOX (cutbox-rows.mjs): the forced cells as the released guide's own fill.sh prints them over the translation ae86f85901b7b7d0… (all of the seat's roots in one cut). By AI agents, Wed Nov 11 2026. No macro, syntax, notation, axiom, sorry.
-/
import Derived.Test.Qxb6603692aChecked
import GoSem.Claim
import GoSem.ClaimJoined
import GoSem.ClaimMapViews
import Derived.JoinedTies
import Derived.KernelRfl
namespace Go.Proofs.Qxb6603692a
/- THE CELL 'sum', in the pinned program and in every row, IS THE sha256 OF THE DUMP (.gsa) THAT Qxb6603692aProg.lean LOADS. Nothing in Lean hashes anything: it is a label: what it is worth is what the hold of that sum in a sandbox is worth. -/
noncomputable def Try.pinned : Pinned := { name := "qxb6603692a", sum := "ae86f85901b7b7d0a08ffaa63741b7c4451d45edf82a37d59274dddc43108d21", checked := Try.checked }
namespace Rows
def none {H : Type} : Left H := { results := [], args := [] }

/-- 'zzlaws_internal_web_b1.FnUnquoteMatchesRunModel': WHATEVER THE INPUT: true; the input reads as it did. -/
def fnUnquoteMatchesRunModelSpec : ChangeSpec := { name := "fnUnquoteMatchesRunModel", fn := fun _ => fun
  | [d] => { results := [.lit (.bool true)], args := [d] }
  | _ => none }
def fnUnquoteMatchesRunModelRow : OpenClaim := { program := "qxb6603692a", sum := "ae86f85901b7b7d0a08ffaa63741b7c4451d45edf82a37d59274dddc43108d21", func := "example.com/fareledger/fareledger/zzlaws_internal_web_b1.FnUnquoteMatchesRunModel", spec := "fnUnquoteMatchesRunModel", inPlace := ["internal/abi.NoEscape"], apart := false }
def FnUnquoteMatchesRunModelSaid : Prop := fnUnquoteMatchesRunModelRow.holds Try.pinned (OpenSpec.ofChange fnUnquoteMatchesRunModelSpec)

/-- ITS FALSE NEIGHBOUR: 'it returns false'. Refute it at one input. -/
def fnUnquoteMatchesRunModelWrong : ChangeSpec := { name := "fnUnquoteMatchesRunModel", fn := fun _ => fun
  | [d] => { results := [.lit (.bool false)], args := [d] }
  | _ => none }
def FnUnquoteMatchesRunModelWrongFalsely : Prop := fnUnquoteMatchesRunModelRow.holds Try.pinned (OpenSpec.ofChange fnUnquoteMatchesRunModelWrong)

/-- 'zzlaws_internal_web_b1.FnUnquoteInvertsQuote': WHATEVER THE INPUT: true; the input reads as it did. -/
def fnUnquoteInvertsQuoteSpec : ChangeSpec := { name := "fnUnquoteInvertsQuote", fn := fun _ => fun
  | [d] => { results := [.lit (.bool true)], args := [d] }
  | _ => none }
def fnUnquoteInvertsQuoteRow : OpenClaim := { program := "qxb6603692a", sum := "ae86f85901b7b7d0a08ffaa63741b7c4451d45edf82a37d59274dddc43108d21", func := "example.com/fareledger/fareledger/zzlaws_internal_web_b1.FnUnquoteInvertsQuote", spec := "fnUnquoteInvertsQuote", inPlace := ["internal/abi.NoEscape"], apart := false }
def FnUnquoteInvertsQuoteSaid : Prop := fnUnquoteInvertsQuoteRow.holds Try.pinned (OpenSpec.ofChange fnUnquoteInvertsQuoteSpec)

/-- ITS FALSE NEIGHBOUR: 'it returns false'. Refute it at one input. -/
def fnUnquoteInvertsQuoteWrong : ChangeSpec := { name := "fnUnquoteInvertsQuote", fn := fun _ => fun
  | [d] => { results := [.lit (.bool false)], args := [d] }
  | _ => none }
def FnUnquoteInvertsQuoteWrongFalsely : Prop := fnUnquoteInvertsQuoteRow.holds Try.pinned (OpenSpec.ofChange fnUnquoteInvertsQuoteWrong)

/-- 'zzlaws_internal_web_b1.FnNextReadsTheValueThere': WHATEVER THE INPUT: true; the input reads as it did. -/
def fnNextReadsTheValueThereSpec : ChangeSpec := { name := "fnNextReadsTheValueThere", fn := fun _ => fun
  | [d1, d2] => { results := [.lit (.bool true)], args := [d1, d2] }
  | _ => none }
def fnNextReadsTheValueThereRow : OpenClaim := { program := "qxb6603692a", sum := "ae86f85901b7b7d0a08ffaa63741b7c4451d45edf82a37d59274dddc43108d21", func := "example.com/fareledger/fareledger/zzlaws_internal_web_b1.FnNextReadsTheValueThere", spec := "fnNextReadsTheValueThere", unfollowed := true, recurses := true, apart := false }
def FnNextReadsTheValueThereSaid : Prop := fnNextReadsTheValueThereRow.holds Try.pinned (OpenSpec.ofChange fnNextReadsTheValueThereSpec)

/-- ITS FALSE NEIGHBOUR: 'it returns false'. Refute it at one input. -/
def fnNextReadsTheValueThereWrong : ChangeSpec := { name := "fnNextReadsTheValueThere", fn := fun _ => fun
  | [d1, d2] => { results := [.lit (.bool false)], args := [d1, d2] }
  | _ => none }
def FnNextReadsTheValueThereWrongFalsely : Prop := fnNextReadsTheValueThereRow.holds Try.pinned (OpenSpec.ofChange fnNextReadsTheValueThereWrong)

/-- 'zzlaws_internal_web_b1.FnNextOnItsOwnAnswerTakesItWhole': WHATEVER THE INPUT: true; the input reads as it did. -/
def fnNextOnItsOwnAnswerTakesItWholeSpec : ChangeSpec := { name := "fnNextOnItsOwnAnswerTakesItWhole", fn := fun _ => fun
  | [d1, d2] => { results := [.lit (.bool true)], args := [d1, d2] }
  | _ => none }
def fnNextOnItsOwnAnswerTakesItWholeRow : OpenClaim := { program := "qxb6603692a", sum := "ae86f85901b7b7d0a08ffaa63741b7c4451d45edf82a37d59274dddc43108d21", func := "example.com/fareledger/fareledger/zzlaws_internal_web_b1.FnNextOnItsOwnAnswerTakesItWhole", spec := "fnNextOnItsOwnAnswerTakesItWhole", unfollowed := true, recurses := true, apart := false }
def FnNextOnItsOwnAnswerTakesItWholeSaid : Prop := fnNextOnItsOwnAnswerTakesItWholeRow.holds Try.pinned (OpenSpec.ofChange fnNextOnItsOwnAnswerTakesItWholeSpec)

/-- ITS FALSE NEIGHBOUR: 'it returns false'. Refute it at one input. -/
def fnNextOnItsOwnAnswerTakesItWholeWrong : ChangeSpec := { name := "fnNextOnItsOwnAnswerTakesItWhole", fn := fun _ => fun
  | [d1, d2] => { results := [.lit (.bool false)], args := [d1, d2] }
  | _ => none }
def FnNextOnItsOwnAnswerTakesItWholeWrongFalsely : Prop := fnNextOnItsOwnAnswerTakesItWholeRow.holds Try.pinned (OpenSpec.ofChange fnNextOnItsOwnAnswerTakesItWholeWrong)

/-- 'zzlaws_internal_web_b1.FnArrayElementsListsTheElements': WHATEVER THE INPUT: true; the input reads as it did. -/
def fnArrayElementsListsTheElementsSpec : ChangeSpec := { name := "fnArrayElementsListsTheElements", fn := fun _ => fun
  | [d] => { results := [.lit (.bool true)], args := [d] }
  | _ => none }
def fnArrayElementsListsTheElementsRow : OpenClaim := { program := "qxb6603692a", sum := "ae86f85901b7b7d0a08ffaa63741b7c4451d45edf82a37d59274dddc43108d21", func := "example.com/fareledger/fareledger/zzlaws_internal_web_b1.FnArrayElementsListsTheElements", spec := "fnArrayElementsListsTheElements", unfollowed := true, recurses := true, apart := false }
def FnArrayElementsListsTheElementsSaid : Prop := fnArrayElementsListsTheElementsRow.holds Try.pinned (OpenSpec.ofChange fnArrayElementsListsTheElementsSpec)

/-- ITS FALSE NEIGHBOUR: 'it returns false'. Refute it at one input. -/
def fnArrayElementsListsTheElementsWrong : ChangeSpec := { name := "fnArrayElementsListsTheElements", fn := fun _ => fun
  | [d] => { results := [.lit (.bool false)], args := [d] }
  | _ => none }
def FnArrayElementsListsTheElementsWrongFalsely : Prop := fnArrayElementsListsTheElementsRow.holds Try.pinned (OpenSpec.ofChange fnArrayElementsListsTheElementsWrong)

end Rows
end Go.Proofs.Qxb6603692a
