/-
  No cell of these rows narrows 'for every input' (looked for: loops, veiled, ifaces, maps, wideKeys, modest, calm, conditions, laid).
  DERIVED. THE GIVEN ROWS OF THIS SEAT. 1 by the template 'for every input the law returns true; each argument reads behind the call as it read before'; 0 by the template 'total and deterministic' (their statements: Qxb6623505aTotals.lean).
  GIVEN WITH THE SEED: the statements are not yours to turn. If you find one false, say at which input.
  Laid BY PROGRAM, IN A SANDBOX (cutbox-rows.mjs): the forced cells as the released guide's own fill.sh prints them over the translation dd174df9ded6388c… (all of the seat's roots in one cut). By AI agents, Wed Nov 11 2026. No macro, syntax, notation, axiom, sorry.
-/
import Derived.Test.Qxb6623505aChecked
import GoSem.Claim
import GoSem.ClaimJoined
import GoSem.ClaimMapViews
import Derived.JoinedTies
import Derived.KernelRfl
namespace Go.Proofs.Qxb6623505a
/- THE CELL 'sum', in the pinned program and in every row, IS THE sha256 OF THE DUMP (.gsa) THAT Qxb6623505aProg.lean LOADS. Nothing in Lean hashes anything: it is a label: what it is worth is what the hold of that sum in a sandbox is worth. -/
noncomputable def Try.pinned : Pinned := { name := "qxb6623505a", sum := "dd174df9ded6388c851f9ea885c6f241a87540f2672c5704f5af7002870bf466", checked := Try.checked }
namespace Rows
def none {H : Type} : Left H := { results := [], args := [] }

/-- 'zzlaws_store_b1.FnRunInJoinAndCharacterize': WHATEVER THE INPUT: true; the input reads as it did. -/
def fnRunInJoinAndCharacterizeSpec : ChangeSpec := { name := "fnRunInJoinAndCharacterize", fn := fun _ => fun
  | [d1, d2, d3] => { results := [.lit (.bool true)], args := [d1, d2, d3] }
  | _ => none }
def fnRunInJoinAndCharacterizeRow : OpenClaim := { program := "qxb6623505a", sum := "dd174df9ded6388c851f9ea885c6f241a87540f2672c5704f5af7002870bf466", func := "example.com/stateward/stateward/zzlaws_store_b1.FnRunInJoinAndCharacterize", spec := "fnRunInJoinAndCharacterize", apart := false }
def FnRunInJoinAndCharacterizeSaid : Prop := fnRunInJoinAndCharacterizeRow.holds Try.pinned (OpenSpec.ofChange fnRunInJoinAndCharacterizeSpec)

/-- ITS FALSE NEIGHBOUR: 'it returns false'. Refute it at one input. -/
def fnRunInJoinAndCharacterizeWrong : ChangeSpec := { name := "fnRunInJoinAndCharacterize", fn := fun _ => fun
  | [d1, d2, d3] => { results := [.lit (.bool false)], args := [d1, d2, d3] }
  | _ => none }
def FnRunInJoinAndCharacterizeWrongFalsely : Prop := fnRunInJoinAndCharacterizeRow.holds Try.pinned (OpenSpec.ofChange fnRunInJoinAndCharacterizeWrong)

end Rows
end Go.Proofs.Qxb6623505a
