/-
  No cell of these rows narrows 'for every input' (looked for: loops, veiled, ifaces, maps, wideKeys, modest, calm, conditions, laid).
  DERIVED. THE GIVEN ROWS OF THIS SEAT. 5 by the template 'for every input the law returns true; each argument reads behind the call as it read before'; 0 by the template 'total and deterministic' (their statements: Qxb6621640aTotals.lean).
  GIVEN WITH THE SEED: the statements are not yours to turn. If you find one false, say at which input.
  Laid BY PROGRAM, IN A SANDBOX (cutbox-rows.mjs): the forced cells as the released guide's own fill.sh prints them over the translation 23a7a0f5e40c8a0c… (all of the seat's roots in one cut). By AI agents, Wed Nov 11 2026. No macro, syntax, notation, axiom, sorry.
-/
import Derived.Test.Qxb6621640aChecked
import GoSem.Claim
import GoSem.ClaimJoined
import GoSem.ClaimMapViews
import Derived.JoinedTies
import Derived.KernelRfl
namespace Go.Proofs.Qxb6621640a
/- THE CELL 'sum', in the pinned program and in every row, IS THE sha256 OF THE DUMP (.gsa) THAT Qxb6621640aProg.lean LOADS. Nothing in Lean hashes anything: it is a label: what it is worth is what the hold of that sum in a sandbox is worth. -/
noncomputable def Try.pinned : Pinned := { name := "qxb6621640a", sum := "23a7a0f5e40c8a0cef0a33a9512c50f32a838c2d6d91d17f7ccffb73c4ce1493", checked := Try.checked }
namespace Rows
def none {H : Type} : Left H := { results := [], args := [] }

/-- 'zzlaws_pkg_decimal_b1.FnAppendPaddedSplitsAndReadsBack': WHATEVER THE INPUT: true; the input reads as it did. -/
def fnAppendPaddedSplitsAndReadsBackSpec : ChangeSpec := { name := "fnAppendPaddedSplitsAndReadsBack", fn := fun _ => fun
  | [d1, d2, d3, d4] => { results := [.lit (.bool true)], args := [d1, d2, d3, d4] }
  | _ => none }
def fnAppendPaddedSplitsAndReadsBackRow : OpenClaim := { program := "qxb6621640a", sum := "23a7a0f5e40c8a0cef0a33a9512c50f32a838c2d6d91d17f7ccffb73c4ce1493", func := "example.com/skewline/skewline/zzlaws_pkg_decimal_b1.FnAppendPaddedSplitsAndReadsBack", spec := "fnAppendPaddedSplitsAndReadsBack", apart := false }
def FnAppendPaddedSplitsAndReadsBackSaid : Prop := fnAppendPaddedSplitsAndReadsBackRow.holds Try.pinned (OpenSpec.ofChange fnAppendPaddedSplitsAndReadsBackSpec)

/-- ITS FALSE NEIGHBOUR: 'it returns false'. Refute it at one input. -/
def fnAppendPaddedSplitsAndReadsBackWrong : ChangeSpec := { name := "fnAppendPaddedSplitsAndReadsBack", fn := fun _ => fun
  | [d1, d2, d3, d4] => { results := [.lit (.bool false)], args := [d1, d2, d3, d4] }
  | _ => none }
def FnAppendPaddedSplitsAndReadsBackWrongFalsely : Prop := fnAppendPaddedSplitsAndReadsBackRow.holds Try.pinned (OpenSpec.ofChange fnAppendPaddedSplitsAndReadsBackWrong)

/-- 'zzlaws_pkg_decimal_b1.FnAppendPaddedKeepsOrder': WHATEVER THE INPUT: true; the input reads as it did. -/
def fnAppendPaddedKeepsOrderSpec : ChangeSpec := { name := "fnAppendPaddedKeepsOrder", fn := fun _ => fun
  | [d1, d2, d3, d4] => { results := [.lit (.bool true)], args := [d1, d2, d3, d4] }
  | _ => none }
def fnAppendPaddedKeepsOrderRow : OpenClaim := { program := "qxb6621640a", sum := "23a7a0f5e40c8a0cef0a33a9512c50f32a838c2d6d91d17f7ccffb73c4ce1493", func := "example.com/skewline/skewline/zzlaws_pkg_decimal_b1.FnAppendPaddedKeepsOrder", spec := "fnAppendPaddedKeepsOrder", apart := false }
def FnAppendPaddedKeepsOrderSaid : Prop := fnAppendPaddedKeepsOrderRow.holds Try.pinned (OpenSpec.ofChange fnAppendPaddedKeepsOrderSpec)

/-- ITS FALSE NEIGHBOUR: 'it returns false'. Refute it at one input. -/
def fnAppendPaddedKeepsOrderWrong : ChangeSpec := { name := "fnAppendPaddedKeepsOrder", fn := fun _ => fun
  | [d1, d2, d3, d4] => { results := [.lit (.bool false)], args := [d1, d2, d3, d4] }
  | _ => none }
def FnAppendPaddedKeepsOrderWrongFalsely : Prop := fnAppendPaddedKeepsOrderRow.holds Try.pinned (OpenSpec.ofChange fnAppendPaddedKeepsOrderWrong)

/-- 'zzlaws_pkg_decimal_b1.FnIsDigitsJoinAndPadded': WHATEVER THE INPUT: true; the input reads as it did. -/
def fnIsDigitsJoinAndPaddedSpec : ChangeSpec := { name := "fnIsDigitsJoinAndPadded", fn := fun _ => fun
  | [d1, d2, d3, d4] => { results := [.lit (.bool true)], args := [d1, d2, d3, d4] }
  | _ => none }
def fnIsDigitsJoinAndPaddedRow : OpenClaim := { program := "qxb6621640a", sum := "23a7a0f5e40c8a0cef0a33a9512c50f32a838c2d6d91d17f7ccffb73c4ce1493", func := "example.com/skewline/skewline/zzlaws_pkg_decimal_b1.FnIsDigitsJoinAndPadded", spec := "fnIsDigitsJoinAndPadded", apart := false }
def FnIsDigitsJoinAndPaddedSaid : Prop := fnIsDigitsJoinAndPaddedRow.holds Try.pinned (OpenSpec.ofChange fnIsDigitsJoinAndPaddedSpec)

/-- ITS FALSE NEIGHBOUR: 'it returns false'. Refute it at one input. -/
def fnIsDigitsJoinAndPaddedWrong : ChangeSpec := { name := "fnIsDigitsJoinAndPadded", fn := fun _ => fun
  | [d1, d2, d3, d4] => { results := [.lit (.bool false)], args := [d1, d2, d3, d4] }
  | _ => none }
def FnIsDigitsJoinAndPaddedWrongFalsely : Prop := fnIsDigitsJoinAndPaddedRow.holds Try.pinned (OpenSpec.ofChange fnIsDigitsJoinAndPaddedWrong)

/-- 'zzlaws_pkg_decimal_b1.FnIsDigitsInsertOne': WHATEVER THE INPUT: true; the input reads as it did. -/
def fnIsDigitsInsertOneSpec : ChangeSpec := { name := "fnIsDigitsInsertOne", fn := fun _ => fun
  | [d1, d2, d3] => { results := [.lit (.bool true)], args := [d1, d2, d3] }
  | _ => none }
def fnIsDigitsInsertOneRow : OpenClaim := { program := "qxb6621640a", sum := "23a7a0f5e40c8a0cef0a33a9512c50f32a838c2d6d91d17f7ccffb73c4ce1493", func := "example.com/skewline/skewline/zzlaws_pkg_decimal_b1.FnIsDigitsInsertOne", spec := "fnIsDigitsInsertOne", apart := false }
def FnIsDigitsInsertOneSaid : Prop := fnIsDigitsInsertOneRow.holds Try.pinned (OpenSpec.ofChange fnIsDigitsInsertOneSpec)

/-- ITS FALSE NEIGHBOUR: 'it returns false'. Refute it at one input. -/
def fnIsDigitsInsertOneWrong : ChangeSpec := { name := "fnIsDigitsInsertOne", fn := fun _ => fun
  | [d1, d2, d3] => { results := [.lit (.bool false)], args := [d1, d2, d3] }
  | _ => none }
def FnIsDigitsInsertOneWrongFalsely : Prop := fnIsDigitsInsertOneRow.holds Try.pinned (OpenSpec.ofChange fnIsDigitsInsertOneWrong)

/-- 'zzlaws_pkg_decimal_b1.FnU128CmpShiftInvariant': WHATEVER THE INPUT: true; the input reads as it did. -/
def fnU128CmpShiftInvariantSpec : ChangeSpec := { name := "fnU128CmpShiftInvariant", fn := fun _ => fun
  | [d1, d2, d3, d4, d5, d6] => { results := [.lit (.bool true)], args := [d1, d2, d3, d4, d5, d6] }
  | _ => none }
def fnU128CmpShiftInvariantRow : OpenClaim := { program := "qxb6621640a", sum := "23a7a0f5e40c8a0cef0a33a9512c50f32a838c2d6d91d17f7ccffb73c4ce1493", func := "example.com/skewline/skewline/zzlaws_pkg_decimal_b1.FnU128CmpShiftInvariant", spec := "fnU128CmpShiftInvariant", apart := false }
def FnU128CmpShiftInvariantSaid : Prop := fnU128CmpShiftInvariantRow.holds Try.pinned (OpenSpec.ofChange fnU128CmpShiftInvariantSpec)

/-- ITS FALSE NEIGHBOUR: 'it returns false'. Refute it at one input. -/
def fnU128CmpShiftInvariantWrong : ChangeSpec := { name := "fnU128CmpShiftInvariant", fn := fun _ => fun
  | [d1, d2, d3, d4, d5, d6] => { results := [.lit (.bool false)], args := [d1, d2, d3, d4, d5, d6] }
  | _ => none }
def FnU128CmpShiftInvariantWrongFalsely : Prop := fnU128CmpShiftInvariantRow.holds Try.pinned (OpenSpec.ofChange fnU128CmpShiftInvariantWrong)

end Rows
end Go.Proofs.Qxb6621640a
