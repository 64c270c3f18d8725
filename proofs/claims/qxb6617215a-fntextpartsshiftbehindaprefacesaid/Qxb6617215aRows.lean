/-
  No cell of these rows narrows 'for every input' (looked for: loops, veiled, ifaces, maps, wideKeys, modest, calm, conditions, laid).
  DERIVED. THE GIVEN ROWS OF THIS SEAT. 2 by the template 'for every input the law returns true; each argument reads behind the call as it read before'; 0 by the template 'total and deterministic' (their statements: Qxb6617215aTotals.lean).
  GIVEN WITH THE SEED: the statements are not yours to turn. If you find one false, say at which input.
  Laid BY PROGRAM, IN A SANDBOX (cutbox-rows.mjs): the forced cells as the released guide's own fill.sh prints them over the translation 0cb1d79d1eec0752… (all of the seat's roots in one cut). By AI agents, Wed Nov 11 2026. No macro, syntax, notation, axiom, sorry.
-/
import Derived.Test.Qxb6617215aChecked
import GoSem.Claim
import GoSem.ClaimJoined
import GoSem.ClaimMapViews
import Derived.JoinedTies
import Derived.KernelRfl
namespace Go.Proofs.Qxb6617215a
/- THE CELL 'sum', in the pinned program and in every row, IS THE sha256 OF THE DUMP (.gsa) THAT Qxb6617215aProg.lean LOADS. Nothing in Lean hashes anything: it is a label: what it is worth is what the hold of that sum in a sandbox is worth. -/
noncomputable def Try.pinned : Pinned := { name := "qxb6617215a", sum := "0cb1d79d1eec07525cdc25b5900a11e190b2a6bea44a6d6aaf991e6c960cf29e", checked := Try.checked }
namespace Rows
def none {H : Type} : Left H := { results := [], args := [] }

/-- 'zzlaws_root_b1.FnTextPartsTileTextAtTheMarks': WHATEVER THE INPUT: true; the input reads as it did. -/
def fnTextPartsTileTextAtTheMarksSpec : ChangeSpec := { name := "fnTextPartsTileTextAtTheMarks", fn := fun _ => fun
  | [d1, d2] => { results := [.lit (.bool true)], args := [d1, d2] }
  | _ => none }
def fnTextPartsTileTextAtTheMarksRow : OpenClaim := { program := "qxb6617215a", sum := "0cb1d79d1eec07525cdc25b5900a11e190b2a6bea44a6d6aaf991e6c960cf29e", func := "example.com/loomwork/loomwork/zzlaws_root_b1.FnTextPartsTileTextAtTheMarks", spec := "fnTextPartsTileTextAtTheMarks", apart := false }
def FnTextPartsTileTextAtTheMarksSaid : Prop := fnTextPartsTileTextAtTheMarksRow.holds Try.pinned (OpenSpec.ofChange fnTextPartsTileTextAtTheMarksSpec)

/-- ITS FALSE NEIGHBOUR: 'it returns false'. Refute it at one input. -/
def fnTextPartsTileTextAtTheMarksWrong : ChangeSpec := { name := "fnTextPartsTileTextAtTheMarks", fn := fun _ => fun
  | [d1, d2] => { results := [.lit (.bool false)], args := [d1, d2] }
  | _ => none }
def FnTextPartsTileTextAtTheMarksWrongFalsely : Prop := fnTextPartsTileTextAtTheMarksRow.holds Try.pinned (OpenSpec.ofChange fnTextPartsTileTextAtTheMarksWrong)

/-- 'zzlaws_root_b1.FnTextPartsShiftBehindAPreface': WHATEVER THE INPUT: true; the input reads as it did. -/
def fnTextPartsShiftBehindAPrefaceSpec : ChangeSpec := { name := "fnTextPartsShiftBehindAPreface", fn := fun _ => fun
  | [d1, d2, d3] => { results := [.lit (.bool true)], args := [d1, d2, d3] }
  | _ => none }
def fnTextPartsShiftBehindAPrefaceRow : OpenClaim := { program := "qxb6617215a", sum := "0cb1d79d1eec07525cdc25b5900a11e190b2a6bea44a6d6aaf991e6c960cf29e", func := "example.com/loomwork/loomwork/zzlaws_root_b1.FnTextPartsShiftBehindAPreface", spec := "fnTextPartsShiftBehindAPreface", apart := false }
def FnTextPartsShiftBehindAPrefaceSaid : Prop := fnTextPartsShiftBehindAPrefaceRow.holds Try.pinned (OpenSpec.ofChange fnTextPartsShiftBehindAPrefaceSpec)

/-- ITS FALSE NEIGHBOUR: 'it returns false'. Refute it at one input. -/
def fnTextPartsShiftBehindAPrefaceWrong : ChangeSpec := { name := "fnTextPartsShiftBehindAPreface", fn := fun _ => fun
  | [d1, d2, d3] => { results := [.lit (.bool false)], args := [d1, d2, d3] }
  | _ => none }
def FnTextPartsShiftBehindAPrefaceWrongFalsely : Prop := fnTextPartsShiftBehindAPrefaceRow.holds Try.pinned (OpenSpec.ofChange fnTextPartsShiftBehindAPrefaceWrong)

end Rows
end Go.Proofs.Qxb6617215a
