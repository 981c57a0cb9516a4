/-
  No cell of these rows narrows 'for every input' (looked for: loops, veiled, ifaces, maps, wideKeys, modest, calm, conditions, laid).
  DERIVED. THE GIVEN ROWS OF THIS SEAT. 2 by the template 'for every input the law returns true; each argument reads behind the call as it read before'; 0 by the template 'total and deterministic' (their statements: Qxb6623457aTotals.lean).
  GIVEN WITH THE SEED: the statements are not yours to turn. If you find one false, say at which input.
  Laid BY PROGRAM, IN A SANDBOX (cutbox-rows.mjs): the forced cells as the released guide's own fill.sh prints them over the translation d421cf51d5bf3398… (all of the seat's roots in one cut). By AI agents, Wed Nov 11 2026. No macro, syntax, notation, axiom, sorry.
-/
import Derived.Test.Qxb6623457aChecked
import GoSem.Claim
import GoSem.ClaimJoined
import GoSem.ClaimMapViews
import Derived.JoinedTies
import Derived.KernelRfl
namespace Go.Proofs.Qxb6623457a
/- THE CELL 'sum', in the pinned program and in every row, IS THE sha256 OF THE DUMP (.gsa) THAT Qxb6623457aProg.lean LOADS. Nothing in Lean hashes anything: it is a label: what it is worth is what the hold of that sum in a sandbox is worth. -/
noncomputable def Try.pinned : Pinned := { name := "qxb6623457a", sum := "d421cf51d5bf3398b96c71ba731d1569432e6dbd05ed3c6f87c189fbe9b2aff1", checked := Try.checked }
namespace Rows
def none {H : Type} : Left H := { results := [], args := [] }

/-- 'zzlaws_internal_journal_b1.FnExpiredTakesLongestDuePrefix': WHATEVER THE INPUT: true; the input reads as it did. -/
def fnExpiredTakesLongestDuePrefixSpec : ChangeSpec := { name := "fnExpiredTakesLongestDuePrefix", fn := fun _ => fun
  | [d1, d2, d3, d4] => { results := [.lit (.bool true)], args := [d1, d2, d3, d4] }
  | _ => none }
def fnExpiredTakesLongestDuePrefixRow : OpenClaim := { program := "qxb6623457a", sum := "d421cf51d5bf3398b96c71ba731d1569432e6dbd05ed3c6f87c189fbe9b2aff1", func := "example.com/tripact/tripact/zzlaws_internal_journal_b1.FnExpiredTakesLongestDuePrefix", spec := "fnExpiredTakesLongestDuePrefix", apart := false }
def FnExpiredTakesLongestDuePrefixSaid : Prop := fnExpiredTakesLongestDuePrefixRow.holds Try.pinned (OpenSpec.ofChange fnExpiredTakesLongestDuePrefixSpec)

/-- ITS FALSE NEIGHBOUR: 'it returns false'. Refute it at one input. -/
def fnExpiredTakesLongestDuePrefixWrong : ChangeSpec := { name := "fnExpiredTakesLongestDuePrefix", fn := fun _ => fun
  | [d1, d2, d3, d4] => { results := [.lit (.bool false)], args := [d1, d2, d3, d4] }
  | _ => none }
def FnExpiredTakesLongestDuePrefixWrongFalsely : Prop := fnExpiredTakesLongestDuePrefixRow.holds Try.pinned (OpenSpec.ofChange fnExpiredTakesLongestDuePrefixWrong)

/-- 'zzlaws_internal_journal_b1.FnExpiredTwoCutoffsDrainAsTheGreater': WHATEVER THE INPUT: true; the input reads as it did. -/
def fnExpiredTwoCutoffsDrainAsTheGreaterSpec : ChangeSpec := { name := "fnExpiredTwoCutoffsDrainAsTheGreater", fn := fun _ => fun
  | [d1, d2, d3, d4, d5] => { results := [.lit (.bool true)], args := [d1, d2, d3, d4, d5] }
  | _ => none }
def fnExpiredTwoCutoffsDrainAsTheGreaterRow : OpenClaim := { program := "qxb6623457a", sum := "d421cf51d5bf3398b96c71ba731d1569432e6dbd05ed3c6f87c189fbe9b2aff1", func := "example.com/tripact/tripact/zzlaws_internal_journal_b1.FnExpiredTwoCutoffsDrainAsTheGreater", spec := "fnExpiredTwoCutoffsDrainAsTheGreater", apart := false }
def FnExpiredTwoCutoffsDrainAsTheGreaterSaid : Prop := fnExpiredTwoCutoffsDrainAsTheGreaterRow.holds Try.pinned (OpenSpec.ofChange fnExpiredTwoCutoffsDrainAsTheGreaterSpec)

/-- ITS FALSE NEIGHBOUR: 'it returns false'. Refute it at one input. -/
def fnExpiredTwoCutoffsDrainAsTheGreaterWrong : ChangeSpec := { name := "fnExpiredTwoCutoffsDrainAsTheGreater", fn := fun _ => fun
  | [d1, d2, d3, d4, d5] => { results := [.lit (.bool false)], args := [d1, d2, d3, d4, d5] }
  | _ => none }
def FnExpiredTwoCutoffsDrainAsTheGreaterWrongFalsely : Prop := fnExpiredTwoCutoffsDrainAsTheGreaterRow.holds Try.pinned (OpenSpec.ofChange fnExpiredTwoCutoffsDrainAsTheGreaterWrong)

end Rows
end Go.Proofs.Qxb6623457a
