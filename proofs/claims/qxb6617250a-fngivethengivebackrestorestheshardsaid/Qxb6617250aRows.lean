/-
  No cell of these rows narrows 'for every input' (looked for: loops, veiled, ifaces, maps, wideKeys, modest, calm, conditions, laid).
  DERIVED. THE GIVEN ROWS OF THIS SEAT. 3 by the template 'for every input the law returns true; each argument reads behind the call as it read before'; 0 by the template 'total and deterministic' (their statements: Qxb6617250aTotals.lean).
  GIVEN WITH THE SEED: the statements are not yours to turn. If you find one false, say at which input.
  Laid BY PROGRAM, IN A SANDBOX (cutbox-rows.mjs): the forced cells as the released guide's own fill.sh prints them over the translation ff8dda76d52f2c2b… (all of the seat's roots in one cut). By AI agents, Wed Nov 11 2026. No macro, syntax, notation, axiom, sorry.
-/
import Derived.Test.Qxb6617250aChecked
import GoSem.Claim
import GoSem.ClaimJoined
import GoSem.ClaimMapViews
import Derived.JoinedTies
import Derived.KernelRfl
namespace Go.Proofs.Qxb6617250a
/- THE CELL 'sum', in the pinned program and in every row, IS THE sha256 OF THE DUMP (.gsa) THAT Qxb6617250aProg.lean LOADS. Nothing in Lean hashes anything: it is a label: what it is worth is what the hold of that sum in a sandbox is worth. -/
noncomputable def Try.pinned : Pinned := { name := "qxb6617250a", sum := "ff8dda76d52f2c2bf5b5df35ca2452f53e4f94133d365df2327ddbf11832fe68", checked := Try.checked }
namespace Rows
def none {H : Type} : Left H := { results := [], args := [] }

/-- 'zzlaws_internal_node_b1.FnGiveDrainsEveryEligibleShard': WHATEVER THE INPUT: true; the input reads as it did. -/
def fnGiveDrainsEveryEligibleShardSpec : ChangeSpec := { name := "fnGiveDrainsEveryEligibleShard", fn := fun _ => fun
  | [d1, d2, d3] => { results := [.lit (.bool true)], args := [d1, d2, d3] }
  | _ => none }
def fnGiveDrainsEveryEligibleShardRow : OpenClaim := { program := "qxb6617250a", sum := "ff8dda76d52f2c2bf5b5df35ca2452f53e4f94133d365df2327ddbf11832fe68", func := "example.com/synodic/synodic/zzlaws_internal_node_b1.FnGiveDrainsEveryEligibleShard", spec := "fnGiveDrainsEveryEligibleShard", recurses := true, apart := false }
def FnGiveDrainsEveryEligibleShardSaid : Prop := fnGiveDrainsEveryEligibleShardRow.holds Try.pinned (OpenSpec.ofChange fnGiveDrainsEveryEligibleShardSpec)

/-- ITS FALSE NEIGHBOUR: 'it returns false'. Refute it at one input. -/
def fnGiveDrainsEveryEligibleShardWrong : ChangeSpec := { name := "fnGiveDrainsEveryEligibleShard", fn := fun _ => fun
  | [d1, d2, d3] => { results := [.lit (.bool false)], args := [d1, d2, d3] }
  | _ => none }
def FnGiveDrainsEveryEligibleShardWrongFalsely : Prop := fnGiveDrainsEveryEligibleShardRow.holds Try.pinned (OpenSpec.ofChange fnGiveDrainsEveryEligibleShardWrong)

/-- 'zzlaws_internal_node_b1.FnGiveThenGiveBackRestoresTheShard': WHATEVER THE INPUT: true; the input reads as it did. -/
def fnGiveThenGiveBackRestoresTheShardSpec : ChangeSpec := { name := "fnGiveThenGiveBackRestoresTheShard", fn := fun _ => fun
  | [d1, d2, d3] => { results := [.lit (.bool true)], args := [d1, d2, d3] }
  | _ => none }
def fnGiveThenGiveBackRestoresTheShardRow : OpenClaim := { program := "qxb6617250a", sum := "ff8dda76d52f2c2bf5b5df35ca2452f53e4f94133d365df2327ddbf11832fe68", func := "example.com/synodic/synodic/zzlaws_internal_node_b1.FnGiveThenGiveBackRestoresTheShard", spec := "fnGiveThenGiveBackRestoresTheShard", recurses := true, apart := false }
def FnGiveThenGiveBackRestoresTheShardSaid : Prop := fnGiveThenGiveBackRestoresTheShardRow.holds Try.pinned (OpenSpec.ofChange fnGiveThenGiveBackRestoresTheShardSpec)

/-- ITS FALSE NEIGHBOUR: 'it returns false'. Refute it at one input. -/
def fnGiveThenGiveBackRestoresTheShardWrong : ChangeSpec := { name := "fnGiveThenGiveBackRestoresTheShard", fn := fun _ => fun
  | [d1, d2, d3] => { results := [.lit (.bool false)], args := [d1, d2, d3] }
  | _ => none }
def FnGiveThenGiveBackRestoresTheShardWrongFalsely : Prop := fnGiveThenGiveBackRestoresTheShardRow.holds Try.pinned (OpenSpec.ofChange fnGiveThenGiveBackRestoresTheShardWrong)

/-- 'zzlaws_internal_node_b1.FnVerdictIsPendingJustWhileTheUnansweredCanSwingIt': WHATEVER THE INPUT: true; the input reads as it did. -/
def fnVerdictIsPendingJustWhileTheUnansweredCanSwingItSpec : ChangeSpec := { name := "fnVerdictIsPendingJustWhileTheUnansweredCanSwingIt", fn := fun _ => fun
  | [d1, d2, d3, d4] => { results := [.lit (.bool true)], args := [d1, d2, d3, d4] }
  | _ => none }
def fnVerdictIsPendingJustWhileTheUnansweredCanSwingItRow : OpenClaim := { program := "qxb6617250a", sum := "ff8dda76d52f2c2bf5b5df35ca2452f53e4f94133d365df2327ddbf11832fe68", func := "example.com/synodic/synodic/zzlaws_internal_node_b1.FnVerdictIsPendingJustWhileTheUnansweredCanSwingIt", spec := "fnVerdictIsPendingJustWhileTheUnansweredCanSwingIt", apart := false }
def FnVerdictIsPendingJustWhileTheUnansweredCanSwingItSaid : Prop := fnVerdictIsPendingJustWhileTheUnansweredCanSwingItRow.holds Try.pinned (OpenSpec.ofChange fnVerdictIsPendingJustWhileTheUnansweredCanSwingItSpec)

/-- ITS FALSE NEIGHBOUR: 'it returns false'. Refute it at one input. -/
def fnVerdictIsPendingJustWhileTheUnansweredCanSwingItWrong : ChangeSpec := { name := "fnVerdictIsPendingJustWhileTheUnansweredCanSwingIt", fn := fun _ => fun
  | [d1, d2, d3, d4] => { results := [.lit (.bool false)], args := [d1, d2, d3, d4] }
  | _ => none }
def FnVerdictIsPendingJustWhileTheUnansweredCanSwingItWrongFalsely : Prop := fnVerdictIsPendingJustWhileTheUnansweredCanSwingItRow.holds Try.pinned (OpenSpec.ofChange fnVerdictIsPendingJustWhileTheUnansweredCanSwingItWrong)

end Rows
end Go.Proofs.Qxb6617250a
