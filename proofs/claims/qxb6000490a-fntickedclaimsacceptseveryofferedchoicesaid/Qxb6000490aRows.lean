/-
  No cell of these rows narrows 'for every input' (looked for: loops, veiled, ifaces, maps, wideKeys, modest, calm, conditions, laid).
  DERIVED. THE GIVEN ROWS OF THIS SEAT. 3 by the template 'for every input the law returns true; each argument reads behind the call as it read before'; 0 by the template 'total and deterministic' (their statements: Qxb6000490aTotals.lean).
  GIVEN WITH THE SEED: the statements are not yours to turn. If you find one false, say at which input.
  Laid BY PROGRAM, IN A SANDBOX (cutbox-rows.mjs): the forced cells as the released guide's own fill.sh prints them over the translation 811d5fa0ea8f49c7… (all of the seat's roots in one cut). By AI agents, Wed Nov 11 2026. No macro, syntax, notation, axiom, sorry.
-/
import Derived.Test.Qxb6000490aChecked
import GoSem.Claim
import GoSem.ClaimJoined
import GoSem.ClaimMapViews
import Derived.JoinedTies
import Derived.KernelRfl
namespace Go.Proofs.Qxb6000490a
/- THE CELL 'sum', in the pinned program and in every row, IS THE sha256 OF THE DUMP (.gsa) THAT Qxb6000490aProg.lean LOADS. Nothing in Lean hashes anything: it is a label: what it is worth is what the hold of that sum in a sandbox is worth. -/
noncomputable def Try.pinned : Pinned := { name := "qxb6000490a", sum := "811d5fa0ea8f49c72e49fa031c900bcc7b6012de312b015513118989ffec0863", checked := Try.checked }
namespace Rows
def none {H : Type} : Left H := { results := [], args := [] }

/-- 'zzlaws_provider_b1.FnTickedClaimsAcceptsEveryOfferedChoice': WHATEVER THE INPUT: true; the input reads as it did. -/
def fnTickedClaimsAcceptsEveryOfferedChoiceSpec : ChangeSpec := { name := "fnTickedClaimsAcceptsEveryOfferedChoice", fn := fun _ => fun
  | [d1, d2] => { results := [.lit (.bool true)], args := [d1, d2] }
  | _ => none }
def fnTickedClaimsAcceptsEveryOfferedChoiceRow : OpenClaim := { program := "qxb6000490a", sum := "811d5fa0ea8f49c72e49fa031c900bcc7b6012de312b015513118989ffec0863", func := "example.com/claimsmith/claimsmith/zzlaws_provider_b1.FnTickedClaimsAcceptsEveryOfferedChoice", spec := "fnTickedClaimsAcceptsEveryOfferedChoice", apart := false }
def FnTickedClaimsAcceptsEveryOfferedChoiceSaid : Prop := fnTickedClaimsAcceptsEveryOfferedChoiceRow.holds Try.pinned (OpenSpec.ofChange fnTickedClaimsAcceptsEveryOfferedChoiceSpec)

/-- ITS FALSE NEIGHBOUR: 'it returns false'. Refute it at one input. -/
def fnTickedClaimsAcceptsEveryOfferedChoiceWrong : ChangeSpec := { name := "fnTickedClaimsAcceptsEveryOfferedChoice", fn := fun _ => fun
  | [d1, d2] => { results := [.lit (.bool false)], args := [d1, d2] }
  | _ => none }
def FnTickedClaimsAcceptsEveryOfferedChoiceWrongFalsely : Prop := fnTickedClaimsAcceptsEveryOfferedChoiceRow.holds Try.pinned (OpenSpec.ofChange fnTickedClaimsAcceptsEveryOfferedChoiceWrong)

/-- 'zzlaws_provider_b1.FnTickedClaimsAcceptsExactlyTheOfferedValues': WHATEVER THE INPUT: true; the input reads as it did. -/
def fnTickedClaimsAcceptsExactlyTheOfferedValuesSpec : ChangeSpec := { name := "fnTickedClaimsAcceptsExactlyTheOfferedValues", fn := fun _ => fun
  | [d1, d2] => { results := [.lit (.bool true)], args := [d1, d2] }
  | _ => none }
def fnTickedClaimsAcceptsExactlyTheOfferedValuesRow : OpenClaim := { program := "qxb6000490a", sum := "811d5fa0ea8f49c72e49fa031c900bcc7b6012de312b015513118989ffec0863", func := "example.com/claimsmith/claimsmith/zzlaws_provider_b1.FnTickedClaimsAcceptsExactlyTheOfferedValues", spec := "fnTickedClaimsAcceptsExactlyTheOfferedValues", apart := false }
def FnTickedClaimsAcceptsExactlyTheOfferedValuesSaid : Prop := fnTickedClaimsAcceptsExactlyTheOfferedValuesRow.holds Try.pinned (OpenSpec.ofChange fnTickedClaimsAcceptsExactlyTheOfferedValuesSpec)

/-- ITS FALSE NEIGHBOUR: 'it returns false'. Refute it at one input. -/
def fnTickedClaimsAcceptsExactlyTheOfferedValuesWrong : ChangeSpec := { name := "fnTickedClaimsAcceptsExactlyTheOfferedValues", fn := fun _ => fun
  | [d1, d2] => { results := [.lit (.bool false)], args := [d1, d2] }
  | _ => none }
def FnTickedClaimsAcceptsExactlyTheOfferedValuesWrongFalsely : Prop := fnTickedClaimsAcceptsExactlyTheOfferedValuesRow.holds Try.pinned (OpenSpec.ofChange fnTickedClaimsAcceptsExactlyTheOfferedValuesWrong)

/-- 'zzlaws_provider_b1.FnTickedClaimsWideningThePageKeepsTheAnswer': WHATEVER THE INPUT: true; the input reads as it did. -/
def fnTickedClaimsWideningThePageKeepsTheAnswerSpec : ChangeSpec := { name := "fnTickedClaimsWideningThePageKeepsTheAnswer", fn := fun _ => fun
  | [d1, d2, d3] => { results := [.lit (.bool true)], args := [d1, d2, d3] }
  | _ => none }
def fnTickedClaimsWideningThePageKeepsTheAnswerRow : OpenClaim := { program := "qxb6000490a", sum := "811d5fa0ea8f49c72e49fa031c900bcc7b6012de312b015513118989ffec0863", func := "example.com/claimsmith/claimsmith/zzlaws_provider_b1.FnTickedClaimsWideningThePageKeepsTheAnswer", spec := "fnTickedClaimsWideningThePageKeepsTheAnswer", apart := false }
def FnTickedClaimsWideningThePageKeepsTheAnswerSaid : Prop := fnTickedClaimsWideningThePageKeepsTheAnswerRow.holds Try.pinned (OpenSpec.ofChange fnTickedClaimsWideningThePageKeepsTheAnswerSpec)

/-- ITS FALSE NEIGHBOUR: 'it returns false'. Refute it at one input. -/
def fnTickedClaimsWideningThePageKeepsTheAnswerWrong : ChangeSpec := { name := "fnTickedClaimsWideningThePageKeepsTheAnswer", fn := fun _ => fun
  | [d1, d2, d3] => { results := [.lit (.bool false)], args := [d1, d2, d3] }
  | _ => none }
def FnTickedClaimsWideningThePageKeepsTheAnswerWrongFalsely : Prop := fnTickedClaimsWideningThePageKeepsTheAnswerRow.holds Try.pinned (OpenSpec.ofChange fnTickedClaimsWideningThePageKeepsTheAnswerWrong)

end Rows
end Go.Proofs.Qxb6000490a
