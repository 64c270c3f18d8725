/-
  No cell of these rows narrows 'for every input' (looked for: loops, veiled, ifaces, maps, wideKeys, modest, calm, conditions, laid).
  DERIVED. THE GIVEN ROWS OF THIS SEAT. 1 by the template 'for every input the law returns true; each argument reads behind the call as it read before'; 0 by the template 'total and deterministic' (their statements: Qxb6623454aTotals.lean).
  GIVEN WITH THE SEED: the statements are not yours to turn. If you find one false, say at which input.
  Laid BY PROGRAM, IN A SANDBOX (cutbox-rows.mjs): the forced cells as the released guide's own fill.sh prints them over the translation e5378019e43beb19… (all of the seat's roots in one cut). By AI agents, Wed Nov 11 2026. No macro, syntax, notation, axiom, sorry.
-/
import Derived.Test.Qxb6623454aChecked
import GoSem.Claim
import GoSem.ClaimJoined
import GoSem.ClaimMapViews
import Derived.JoinedTies
import Derived.KernelRfl
namespace Go.Proofs.Qxb6623454a
/- THE CELL 'sum', in the pinned program and in every row, IS THE sha256 OF THE DUMP (.gsa) THAT Qxb6623454aProg.lean LOADS. Nothing in Lean hashes anything: it is a label: what it is worth is what the hold of that sum in a sandbox is worth. -/
noncomputable def Try.pinned : Pinned := { name := "qxb6623454a", sum := "e5378019e43beb195210e6d9c782e0ae27f1172ad72d27d148b8021880a1e735", checked := Try.checked }
namespace Rows
def none {H : Type} : Left H := { results := [], args := [] }

/-- 'zzlaws_internal_placement_b1.FnCapacityAddsOverUnits': WHATEVER THE INPUT: true; the input reads as it did. -/
def fnCapacityAddsOverUnitsSpec : ChangeSpec := { name := "fnCapacityAddsOverUnits", fn := fun _ => fun
  | [d1, d2, d3, d4, d5] => { results := [.lit (.bool true)], args := [d1, d2, d3, d4, d5] }
  | _ => none }
def fnCapacityAddsOverUnitsRow : OpenClaim := { program := "qxb6623454a", sum := "e5378019e43beb195210e6d9c782e0ae27f1172ad72d27d148b8021880a1e735", func := "example.com/tierwise/tierwise/zzlaws_internal_placement_b1.FnCapacityAddsOverUnits", spec := "fnCapacityAddsOverUnits", apart := false }
def FnCapacityAddsOverUnitsSaid : Prop := fnCapacityAddsOverUnitsRow.holds Try.pinned (OpenSpec.ofChange fnCapacityAddsOverUnitsSpec)

/-- ITS FALSE NEIGHBOUR: 'it returns false'. Refute it at one input. -/
def fnCapacityAddsOverUnitsWrong : ChangeSpec := { name := "fnCapacityAddsOverUnits", fn := fun _ => fun
  | [d1, d2, d3, d4, d5] => { results := [.lit (.bool false)], args := [d1, d2, d3, d4, d5] }
  | _ => none }
def FnCapacityAddsOverUnitsWrongFalsely : Prop := fnCapacityAddsOverUnitsRow.holds Try.pinned (OpenSpec.ofChange fnCapacityAddsOverUnitsWrong)

end Rows
end Go.Proofs.Qxb6623454a
