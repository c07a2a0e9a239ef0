/-
  No cell of these rows narrows 'for every input' (looked for: loops, veiled, ifaces, maps, wideKeys, modest, calm, conditions, laid).
  DERIVED. THE GIVEN ROWS OF THIS SEAT. 3 by the template 'for every input the law returns true; each argument reads behind the call as it read before'; 0 by the template 'total and deterministic' (their statements: Qxb6618727aTotals.lean).
  GIVEN WITH THE SEED: the statements are not yours to turn. If you find one false, say at which input.
  Laid BY PROGRAM, IN A SANDBOX (cutbox-rows.mjs): the forced cells as the released guide's own fill.sh prints them over the translation f01920a0307eafce… (all of the seat's roots in one cut). By AI agents, Wed Nov 11 2026. No macro, syntax, notation, axiom, sorry.
-/
import Derived.Test.Qxb6618727aChecked
import GoSem.Claim
import GoSem.ClaimJoined
import GoSem.ClaimMapViews
import Derived.JoinedTies
import Derived.KernelRfl
namespace Go.Proofs.Qxb6618727a
/- THE CELL 'sum', in the pinned program and in every row, IS THE sha256 OF THE DUMP (.gsa) THAT Qxb6618727aProg.lean LOADS. Nothing in Lean hashes anything: it is a label: what it is worth is what the hold of that sum in a sandbox is worth. -/
noncomputable def Try.pinned : Pinned := { name := "qxb6618727a", sum := "f01920a0307eafce8acff51481ac0c6a3d403b1ede34aecb59e47819fdaa1c4f", checked := Try.checked }
namespace Rows
def none {H : Type} : Left H := { results := [], args := [] }

/-- 'zzlaws_internal_fleet_b1.FnRoomLessBySum': WHATEVER THE INPUT: true; the input reads as it did. -/
def fnRoomLessBySumSpec : ChangeSpec := { name := "fnRoomLessBySum", fn := fun _ => fun
  | [d1, d2, d3, d4] => { results := [.lit (.bool true)], args := [d1, d2, d3, d4] }
  | _ => none }
def fnRoomLessBySumRow : OpenClaim := { program := "qxb6618727a", sum := "f01920a0307eafce8acff51481ac0c6a3d403b1ede34aecb59e47819fdaa1c4f", func := "example.com/holdfast/holdfast/zzlaws_internal_fleet_b1.FnRoomLessBySum", spec := "fnRoomLessBySum", apart := false }
def FnRoomLessBySumSaid : Prop := fnRoomLessBySumRow.holds Try.pinned (OpenSpec.ofChange fnRoomLessBySumSpec)

/-- ITS FALSE NEIGHBOUR: 'it returns false'. Refute it at one input. -/
def fnRoomLessBySumWrong : ChangeSpec := { name := "fnRoomLessBySum", fn := fun _ => fun
  | [d1, d2, d3, d4] => { results := [.lit (.bool false)], args := [d1, d2, d3, d4] }
  | _ => none }
def FnRoomLessBySumWrongFalsely : Prop := fnRoomLessBySumRow.holds Try.pinned (OpenSpec.ofChange fnRoomLessBySumWrong)

/-- 'zzlaws_internal_fleet_b1.FnSameReportedIgnoresSpec': WHATEVER THE INPUT: true; the input reads as it did. -/
def fnSameReportedIgnoresSpecSpec : ChangeSpec := { name := "fnSameReportedIgnoresSpec", fn := fun _ => fun
  | [d1, d2, d3] => { results := [.lit (.bool true)], args := [d1, d2, d3] }
  | _ => none }
def fnSameReportedIgnoresSpecRow : OpenClaim := { program := "qxb6618727a", sum := "f01920a0307eafce8acff51481ac0c6a3d403b1ede34aecb59e47819fdaa1c4f", func := "example.com/holdfast/holdfast/zzlaws_internal_fleet_b1.FnSameReportedIgnoresSpec", spec := "fnSameReportedIgnoresSpec", apart := false }
def FnSameReportedIgnoresSpecSaid : Prop := fnSameReportedIgnoresSpecRow.holds Try.pinned (OpenSpec.ofChange fnSameReportedIgnoresSpecSpec)

/-- ITS FALSE NEIGHBOUR: 'it returns false'. Refute it at one input. -/
def fnSameReportedIgnoresSpecWrong : ChangeSpec := { name := "fnSameReportedIgnoresSpec", fn := fun _ => fun
  | [d1, d2, d3] => { results := [.lit (.bool false)], args := [d1, d2, d3] }
  | _ => none }
def FnSameReportedIgnoresSpecWrongFalsely : Prop := fnSameReportedIgnoresSpecRow.holds Try.pinned (OpenSpec.ofChange fnSameReportedIgnoresSpecWrong)

/-- 'zzlaws_internal_fleet_b1.FnFenceSeparates': WHATEVER THE INPUT: true; the input reads as it did. -/
def fnFenceSeparatesSpec : ChangeSpec := { name := "fnFenceSeparates", fn := fun _ => fun
  | [d1, d2, d3, d4, d5, d6, d7, d8] => { results := [.lit (.bool true)], args := [d1, d2, d3, d4, d5, d6, d7, d8] }
  | _ => none }
def fnFenceSeparatesRow : OpenClaim := { program := "qxb6618727a", sum := "f01920a0307eafce8acff51481ac0c6a3d403b1ede34aecb59e47819fdaa1c4f", func := "example.com/holdfast/holdfast/zzlaws_internal_fleet_b1.FnFenceSeparates", spec := "fnFenceSeparates", apart := false }
def FnFenceSeparatesSaid : Prop := fnFenceSeparatesRow.holds Try.pinned (OpenSpec.ofChange fnFenceSeparatesSpec)

/-- ITS FALSE NEIGHBOUR: 'it returns false'. Refute it at one input. -/
def fnFenceSeparatesWrong : ChangeSpec := { name := "fnFenceSeparates", fn := fun _ => fun
  | [d1, d2, d3, d4, d5, d6, d7, d8] => { results := [.lit (.bool false)], args := [d1, d2, d3, d4, d5, d6, d7, d8] }
  | _ => none }
def FnFenceSeparatesWrongFalsely : Prop := fnFenceSeparatesRow.holds Try.pinned (OpenSpec.ofChange fnFenceSeparatesWrong)

end Rows
end Go.Proofs.Qxb6618727a
