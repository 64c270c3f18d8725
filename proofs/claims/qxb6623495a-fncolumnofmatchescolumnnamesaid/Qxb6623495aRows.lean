/-
  No cell of these rows narrows 'for every input' (looked for: loops, veiled, ifaces, maps, wideKeys, modest, calm, conditions, laid).
  DERIVED. THE GIVEN ROWS OF THIS SEAT. 1 by the template 'for every input the law returns true; each argument reads behind the call as it read before'; 0 by the template 'total and deterministic' (their statements: Qxb6623495aTotals.lean).
  GIVEN WITH THE SEED: the statements are not yours to turn. If you find one false, say at which input.
  Laid BY PROGRAM, IN A SANDBOX (cutbox-rows.mjs): the forced cells as the released guide's own fill.sh prints them over the translation 901ffb79d87ba4ef… (all of the seat's roots in one cut). By AI agents, Wed Nov 11 2026. No macro, syntax, notation, axiom, sorry.
-/
import Derived.Test.Qxb6623495aChecked
import GoSem.Claim
import GoSem.ClaimJoined
import GoSem.ClaimMapViews
import Derived.JoinedTies
import Derived.KernelRfl
namespace Go.Proofs.Qxb6623495a
/- THE CELL 'sum', in the pinned program and in every row, IS THE sha256 OF THE DUMP (.gsa) THAT Qxb6623495aProg.lean LOADS. Nothing in Lean hashes anything: it is a label: what it is worth is what the hold of that sum in a sandbox is worth. -/
noncomputable def Try.pinned : Pinned := { name := "qxb6623495a", sum := "901ffb79d87ba4ef2fa34f76a714b01b3052eba7b624b7683d36a73274b84d06", checked := Try.checked }
namespace Rows
def none {H : Type} : Left H := { results := [], args := [] }

/-- 'zzlaws_workbook_b1.FnColumnOfMatchesColumnName': WHATEVER THE INPUT: true; the input reads as it did. -/
def fnColumnOfMatchesColumnNameSpec : ChangeSpec := { name := "fnColumnOfMatchesColumnName", fn := fun _ => fun
  | [d] => { results := [.lit (.bool true)], args := [d] }
  | _ => none }
def fnColumnOfMatchesColumnNameRow : OpenClaim := { program := "qxb6623495a", sum := "901ffb79d87ba4ef2fa34f76a714b01b3052eba7b624b7683d36a73274b84d06", func := "example.com/vestline/vestline/zzlaws_workbook_b1.FnColumnOfMatchesColumnName", spec := "fnColumnOfMatchesColumnName", apart := false }
def FnColumnOfMatchesColumnNameSaid : Prop := fnColumnOfMatchesColumnNameRow.holds Try.pinned (OpenSpec.ofChange fnColumnOfMatchesColumnNameSpec)

/-- ITS FALSE NEIGHBOUR: 'it returns false'. Refute it at one input. -/
def fnColumnOfMatchesColumnNameWrong : ChangeSpec := { name := "fnColumnOfMatchesColumnName", fn := fun _ => fun
  | [d] => { results := [.lit (.bool false)], args := [d] }
  | _ => none }
def FnColumnOfMatchesColumnNameWrongFalsely : Prop := fnColumnOfMatchesColumnNameRow.holds Try.pinned (OpenSpec.ofChange fnColumnOfMatchesColumnNameWrong)

end Rows
end Go.Proofs.Qxb6623495a
