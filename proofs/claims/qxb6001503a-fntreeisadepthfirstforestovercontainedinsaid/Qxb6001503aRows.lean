/-
  No cell of these rows narrows 'for every input' (looked for: loops, veiled, ifaces, maps, wideKeys, modest, calm, conditions, laid).
  DERIVED. THE GIVEN ROWS OF THIS SEAT. 3 by the template 'for every input the law returns true; each argument reads behind the call as it read before'; 0 by the template 'total and deterministic' (their statements: Qxb6001503aTotals.lean).
  GIVEN WITH THE SEED: the statements are not yours to turn. If you find one false, say at which input.
  Laid BY PROGRAM, IN A SANDBOX (cutbox-rows.mjs): the forced cells as the released guide's own fill.sh prints them over the translation a59a6b8fc1fdb508… (all of the seat's roots in one cut). By AI agents, Wed Nov 11 2026. No macro, syntax, notation, axiom, sorry.
-/
import Derived.Test.Qxb6001503aChecked
import GoSem.Claim
import GoSem.ClaimJoined
import GoSem.ClaimMapViews
import Derived.JoinedTies
import Derived.KernelRfl
namespace Go.Proofs.Qxb6001503a
/- THE CELL 'sum', in the pinned program and in every row, IS THE sha256 OF THE DUMP (.gsa) THAT Qxb6001503aProg.lean LOADS. Nothing in Lean hashes anything: it is a label: what it is worth is what the hold of that sum in a sandbox is worth. -/
noncomputable def Try.pinned : Pinned := { name := "qxb6001503a", sum := "a59a6b8fc1fdb508a94ae41808d22069eca1c7ddf5a66ea38d2cbe3402c96b7a", checked := Try.checked }
namespace Rows
def none {H : Type} : Left H := { results := [], args := [] }

/-- 'zzlaws_internal_entity_b1.FnTreePlacesEachIndexOnceLastRowWins': WHATEVER THE INPUT: true; the input reads as it did. -/
def fnTreePlacesEachIndexOnceLastRowWinsSpec : ChangeSpec := { name := "fnTreePlacesEachIndexOnceLastRowWins", fn := fun _ => fun
  | [d1, d2] => { results := [.lit (.bool true)], args := [d1, d2] }
  | _ => none }
def fnTreePlacesEachIndexOnceLastRowWinsRow : OpenClaim := { program := "qxb6001503a", sum := "a59a6b8fc1fdb508a94ae41808d22069eca1c7ddf5a66ea38d2cbe3402c96b7a", func := "example.com/chassiscope/chassiscope/zzlaws_internal_entity_b1.FnTreePlacesEachIndexOnceLastRowWins", spec := "fnTreePlacesEachIndexOnceLastRowWins", unfollowed := true, recurses := true, apart := false }
def FnTreePlacesEachIndexOnceLastRowWinsSaid : Prop := fnTreePlacesEachIndexOnceLastRowWinsRow.holds Try.pinned (OpenSpec.ofChange fnTreePlacesEachIndexOnceLastRowWinsSpec)

/-- ITS FALSE NEIGHBOUR: 'it returns false'. Refute it at one input. -/
def fnTreePlacesEachIndexOnceLastRowWinsWrong : ChangeSpec := { name := "fnTreePlacesEachIndexOnceLastRowWins", fn := fun _ => fun
  | [d1, d2] => { results := [.lit (.bool false)], args := [d1, d2] }
  | _ => none }
def FnTreePlacesEachIndexOnceLastRowWinsWrongFalsely : Prop := fnTreePlacesEachIndexOnceLastRowWinsRow.holds Try.pinned (OpenSpec.ofChange fnTreePlacesEachIndexOnceLastRowWinsWrong)

/-- 'zzlaws_internal_entity_b1.FnTreeIsADepthFirstForestOverContainedIn': WHATEVER THE INPUT: true; the input reads as it did. -/
def fnTreeIsADepthFirstForestOverContainedInSpec : ChangeSpec := { name := "fnTreeIsADepthFirstForestOverContainedIn", fn := fun _ => fun
  | [d1, d2] => { results := [.lit (.bool true)], args := [d1, d2] }
  | _ => none }
def fnTreeIsADepthFirstForestOverContainedInRow : OpenClaim := { program := "qxb6001503a", sum := "a59a6b8fc1fdb508a94ae41808d22069eca1c7ddf5a66ea38d2cbe3402c96b7a", func := "example.com/chassiscope/chassiscope/zzlaws_internal_entity_b1.FnTreeIsADepthFirstForestOverContainedIn", spec := "fnTreeIsADepthFirstForestOverContainedIn", unfollowed := true, recurses := true, apart := false }
def FnTreeIsADepthFirstForestOverContainedInSaid : Prop := fnTreeIsADepthFirstForestOverContainedInRow.holds Try.pinned (OpenSpec.ofChange fnTreeIsADepthFirstForestOverContainedInSpec)

/-- ITS FALSE NEIGHBOUR: 'it returns false'. Refute it at one input. -/
def fnTreeIsADepthFirstForestOverContainedInWrong : ChangeSpec := { name := "fnTreeIsADepthFirstForestOverContainedIn", fn := fun _ => fun
  | [d1, d2] => { results := [.lit (.bool false)], args := [d1, d2] }
  | _ => none }
def FnTreeIsADepthFirstForestOverContainedInWrongFalsely : Prop := fnTreeIsADepthFirstForestOverContainedInRow.holds Try.pinned (OpenSpec.ofChange fnTreeIsADepthFirstForestOverContainedInWrong)

/-- 'zzlaws_internal_entity_b1.FnTreeIsIdempotent': WHATEVER THE INPUT: true; the input reads as it did. -/
def fnTreeIsIdempotentSpec : ChangeSpec := { name := "fnTreeIsIdempotent", fn := fun _ => fun
  | [d1, d2] => { results := [.lit (.bool true)], args := [d1, d2] }
  | _ => none }
def fnTreeIsIdempotentRow : OpenClaim := { program := "qxb6001503a", sum := "a59a6b8fc1fdb508a94ae41808d22069eca1c7ddf5a66ea38d2cbe3402c96b7a", func := "example.com/chassiscope/chassiscope/zzlaws_internal_entity_b1.FnTreeIsIdempotent", spec := "fnTreeIsIdempotent", unfollowed := true, recurses := true, apart := false }
def FnTreeIsIdempotentSaid : Prop := fnTreeIsIdempotentRow.holds Try.pinned (OpenSpec.ofChange fnTreeIsIdempotentSpec)

/-- ITS FALSE NEIGHBOUR: 'it returns false'. Refute it at one input. -/
def fnTreeIsIdempotentWrong : ChangeSpec := { name := "fnTreeIsIdempotent", fn := fun _ => fun
  | [d1, d2] => { results := [.lit (.bool false)], args := [d1, d2] }
  | _ => none }
def FnTreeIsIdempotentWrongFalsely : Prop := fnTreeIsIdempotentRow.holds Try.pinned (OpenSpec.ofChange fnTreeIsIdempotentWrong)

end Rows
end Go.Proofs.Qxb6001503a
