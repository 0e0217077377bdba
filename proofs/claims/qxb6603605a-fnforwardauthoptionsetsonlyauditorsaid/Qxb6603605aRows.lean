/-
  No cell of these rows narrows 'for every input' (looked for: loops, veiled, ifaces, maps, wideKeys, modest, calm, conditions, laid).
  DERIVED. THE GIVEN ROWS OF THIS SEAT. 6 by the template 'for every input the law returns true; each argument reads behind the call as it read before'; 0 by the template 'total and deterministic' (their statements: Qxb6603605aTotals.lean).
  GIVEN WITH THE SEED: the statements are not yours to turn. If you find one false, say at which input.
  Laid BY PROGRAM, IN A SANDBOX (cutbox-rows.mjs): the forced cells as the released guide's own fill.sh prints them over the translation 59b9a487c4ede1ff… (all of the seat's roots in one cut). By AI agents, Wed Nov 11 2026. No macro, syntax, notation, axiom, sorry.
-/
import Derived.Test.Qxb6603605aChecked
import GoSem.Claim
import GoSem.ClaimJoined
import GoSem.ClaimMapViews
import Derived.JoinedTies
import Derived.KernelRfl
namespace Go.Proofs.Qxb6603605a
/- THE CELL 'sum', in the pinned program and in every row, IS THE sha256 OF THE DUMP (.gsa) THAT Qxb6603605aProg.lean LOADS. Nothing in Lean hashes anything: it is a label: what it is worth is what the hold of that sum in a sandbox is worth. -/
noncomputable def Try.pinned : Pinned := { name := "qxb6603605a", sum := "59b9a487c4ede1ffb9a0b228e29aae8ec77ed13f3b97cebba29f3cc773975aeb", checked := Try.checked }
namespace Rows
def none {H : Type} : Left H := { results := [], args := [] }

/-- 'zzlaws_root_b1.FnFirstTakingSpec': WHATEVER THE INPUT: true; the input reads as it did. -/
def fnFirstTakingSpecSpec : ChangeSpec := { name := "fnFirstTakingSpec", fn := fun _ => fun
  | [d1, d2, d3, d4, d5, d6, d7, d8] => { results := [.lit (.bool true)], args := [d1, d2, d3, d4, d5, d6, d7, d8] }
  | _ => none }
def fnFirstTakingSpecRow : OpenClaim := { program := "qxb6603605a", sum := "59b9a487c4ede1ffb9a0b228e29aae8ec77ed13f3b97cebba29f3cc773975aeb", func := "example.com/token-roles/token-roles/zzlaws_root_b1.FnFirstTakingSpec", spec := "fnFirstTakingSpec", apart := false }
def FnFirstTakingSpecSaid : Prop := fnFirstTakingSpecRow.holds Try.pinned (OpenSpec.ofChange fnFirstTakingSpecSpec)

/-- ITS FALSE NEIGHBOUR: 'it returns false'. Refute it at one input. -/
def fnFirstTakingSpecWrong : ChangeSpec := { name := "fnFirstTakingSpec", fn := fun _ => fun
  | [d1, d2, d3, d4, d5, d6, d7, d8] => { results := [.lit (.bool false)], args := [d1, d2, d3, d4, d5, d6, d7, d8] }
  | _ => none }
def FnFirstTakingSpecWrongFalsely : Prop := fnFirstTakingSpecRow.holds Try.pinned (OpenSpec.ofChange fnFirstTakingSpecWrong)

/-- 'zzlaws_root_b1.FnFirstTakingAfterTheFirst': WHATEVER THE INPUT: true; the input reads as it did. -/
def fnFirstTakingAfterTheFirstSpec : ChangeSpec := { name := "fnFirstTakingAfterTheFirst", fn := fun _ => fun
  | [d1, d2, d3, d4, d5, d6] => { results := [.lit (.bool true)], args := [d1, d2, d3, d4, d5, d6] }
  | _ => none }
def fnFirstTakingAfterTheFirstRow : OpenClaim := { program := "qxb6603605a", sum := "59b9a487c4ede1ffb9a0b228e29aae8ec77ed13f3b97cebba29f3cc773975aeb", func := "example.com/token-roles/token-roles/zzlaws_root_b1.FnFirstTakingAfterTheFirst", spec := "fnFirstTakingAfterTheFirst", apart := false }
def FnFirstTakingAfterTheFirstSaid : Prop := fnFirstTakingAfterTheFirstRow.holds Try.pinned (OpenSpec.ofChange fnFirstTakingAfterTheFirstSpec)

/-- ITS FALSE NEIGHBOUR: 'it returns false'. Refute it at one input. -/
def fnFirstTakingAfterTheFirstWrong : ChangeSpec := { name := "fnFirstTakingAfterTheFirst", fn := fun _ => fun
  | [d1, d2, d3, d4, d5, d6] => { results := [.lit (.bool false)], args := [d1, d2, d3, d4, d5, d6] }
  | _ => none }
def FnFirstTakingAfterTheFirstWrongFalsely : Prop := fnFirstTakingAfterTheFirstRow.holds Try.pinned (OpenSpec.ofChange fnFirstTakingAfterTheFirstWrong)

/-- 'zzlaws_root_b1.FnSignedIsHeaderDotPayload': WHATEVER THE INPUT: true; the input reads as it did. -/
def fnSignedIsHeaderDotPayloadSpec : ChangeSpec := { name := "fnSignedIsHeaderDotPayload", fn := fun _ => fun
  | [d1, d2, d3, d4] => { results := [.lit (.bool true)], args := [d1, d2, d3, d4] }
  | _ => none }
def fnSignedIsHeaderDotPayloadRow : OpenClaim := { program := "qxb6603605a", sum := "59b9a487c4ede1ffb9a0b228e29aae8ec77ed13f3b97cebba29f3cc773975aeb", func := "example.com/token-roles/token-roles/zzlaws_root_b1.FnSignedIsHeaderDotPayload", spec := "fnSignedIsHeaderDotPayload", apart := false }
def FnSignedIsHeaderDotPayloadSaid : Prop := fnSignedIsHeaderDotPayloadRow.holds Try.pinned (OpenSpec.ofChange fnSignedIsHeaderDotPayloadSpec)

/-- ITS FALSE NEIGHBOUR: 'it returns false'. Refute it at one input. -/
def fnSignedIsHeaderDotPayloadWrong : ChangeSpec := { name := "fnSignedIsHeaderDotPayload", fn := fun _ => fun
  | [d1, d2, d3, d4] => { results := [.lit (.bool false)], args := [d1, d2, d3, d4] }
  | _ => none }
def FnSignedIsHeaderDotPayloadWrongFalsely : Prop := fnSignedIsHeaderDotPayloadRow.holds Try.pinned (OpenSpec.ofChange fnSignedIsHeaderDotPayloadWrong)

/-- 'zzlaws_root_b1.FnSignedReassemblesIgnoringSignature': WHATEVER THE INPUT: true; the input reads as it did. -/
def fnSignedReassemblesIgnoringSignatureSpec : ChangeSpec := { name := "fnSignedReassemblesIgnoringSignature", fn := fun _ => fun
  | [d1, d2, d3, d4, d5] => { results := [.lit (.bool true)], args := [d1, d2, d3, d4, d5] }
  | _ => none }
def fnSignedReassemblesIgnoringSignatureRow : OpenClaim := { program := "qxb6603605a", sum := "59b9a487c4ede1ffb9a0b228e29aae8ec77ed13f3b97cebba29f3cc773975aeb", func := "example.com/token-roles/token-roles/zzlaws_root_b1.FnSignedReassemblesIgnoringSignature", spec := "fnSignedReassemblesIgnoringSignature", apart := false }
def FnSignedReassemblesIgnoringSignatureSaid : Prop := fnSignedReassemblesIgnoringSignatureRow.holds Try.pinned (OpenSpec.ofChange fnSignedReassemblesIgnoringSignatureSpec)

/-- ITS FALSE NEIGHBOUR: 'it returns false'. Refute it at one input. -/
def fnSignedReassemblesIgnoringSignatureWrong : ChangeSpec := { name := "fnSignedReassemblesIgnoringSignature", fn := fun _ => fun
  | [d1, d2, d3, d4, d5] => { results := [.lit (.bool false)], args := [d1, d2, d3, d4, d5] }
  | _ => none }
def FnSignedReassemblesIgnoringSignatureWrongFalsely : Prop := fnSignedReassemblesIgnoringSignatureRow.holds Try.pinned (OpenSpec.ofChange fnSignedReassemblesIgnoringSignatureWrong)

/-- 'zzlaws_root_b1.FnForwardAuthOptionSetsOnlyAuditor': WHATEVER THE INPUT: true; the input reads as it did. -/
def fnForwardAuthOptionSetsOnlyAuditorSpec : ChangeSpec := { name := "fnForwardAuthOptionSetsOnlyAuditor", fn := fun _ => fun
  | [d1, d2, d3, d4, d5] => { results := [.lit (.bool true)], args := [d1, d2, d3, d4, d5] }
  | _ => none }
def fnForwardAuthOptionSetsOnlyAuditorRow : OpenClaim := { program := "qxb6603605a", sum := "59b9a487c4ede1ffb9a0b228e29aae8ec77ed13f3b97cebba29f3cc773975aeb", func := "example.com/token-roles/token-roles/zzlaws_root_b1.FnForwardAuthOptionSetsOnlyAuditor", spec := "fnForwardAuthOptionSetsOnlyAuditor", apart := false }
def FnForwardAuthOptionSetsOnlyAuditorSaid : Prop := fnForwardAuthOptionSetsOnlyAuditorRow.holds Try.pinned (OpenSpec.ofChange fnForwardAuthOptionSetsOnlyAuditorSpec)

/-- ITS FALSE NEIGHBOUR: 'it returns false'. Refute it at one input. -/
def fnForwardAuthOptionSetsOnlyAuditorWrong : ChangeSpec := { name := "fnForwardAuthOptionSetsOnlyAuditor", fn := fun _ => fun
  | [d1, d2, d3, d4, d5] => { results := [.lit (.bool false)], args := [d1, d2, d3, d4, d5] }
  | _ => none }
def FnForwardAuthOptionSetsOnlyAuditorWrongFalsely : Prop := fnForwardAuthOptionSetsOnlyAuditorRow.holds Try.pinned (OpenSpec.ofChange fnForwardAuthOptionSetsOnlyAuditorWrong)

/-- 'zzlaws_root_b1.FnForwardAuthOptionLastAuditorWins': WHATEVER THE INPUT: true; the input reads as it did. -/
def fnForwardAuthOptionLastAuditorWinsSpec : ChangeSpec := { name := "fnForwardAuthOptionLastAuditorWins", fn := fun _ => fun
  | [d1, d2, d3, d4] => { results := [.lit (.bool true)], args := [d1, d2, d3, d4] }
  | _ => none }
def fnForwardAuthOptionLastAuditorWinsRow : OpenClaim := { program := "qxb6603605a", sum := "59b9a487c4ede1ffb9a0b228e29aae8ec77ed13f3b97cebba29f3cc773975aeb", func := "example.com/token-roles/token-roles/zzlaws_root_b1.FnForwardAuthOptionLastAuditorWins", spec := "fnForwardAuthOptionLastAuditorWins", apart := false }
def FnForwardAuthOptionLastAuditorWinsSaid : Prop := fnForwardAuthOptionLastAuditorWinsRow.holds Try.pinned (OpenSpec.ofChange fnForwardAuthOptionLastAuditorWinsSpec)

/-- ITS FALSE NEIGHBOUR: 'it returns false'. Refute it at one input. -/
def fnForwardAuthOptionLastAuditorWinsWrong : ChangeSpec := { name := "fnForwardAuthOptionLastAuditorWins", fn := fun _ => fun
  | [d1, d2, d3, d4] => { results := [.lit (.bool false)], args := [d1, d2, d3, d4] }
  | _ => none }
def FnForwardAuthOptionLastAuditorWinsWrongFalsely : Prop := fnForwardAuthOptionLastAuditorWinsRow.holds Try.pinned (OpenSpec.ofChange fnForwardAuthOptionLastAuditorWinsWrong)

end Rows
end Go.Proofs.Qxb6603605a
