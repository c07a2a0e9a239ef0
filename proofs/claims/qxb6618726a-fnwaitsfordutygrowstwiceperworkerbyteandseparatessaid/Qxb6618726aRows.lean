/-
  No cell of these rows narrows 'for every input' (looked for: loops, veiled, ifaces, maps, wideKeys, modest, calm, conditions, laid).
  DERIVED. THE GIVEN ROWS OF THIS SEAT. 1 by the template 'for every input the law returns true; each argument reads behind the call as it read before'; 0 by the template 'total and deterministic' (their statements: Qxb6618726aTotals.lean).
  GIVEN WITH THE SEED: the statements are not yours to turn. If you find one false, say at which input.
  Laid BY PROGRAM, IN A SANDBOX (cutbox-rows.mjs): the forced cells as the released guide's own fill.sh prints them over the translation af693f75454ca832… (all of the seat's roots in one cut). By AI agents, Wed Nov 11 2026. No macro, syntax, notation, axiom, sorry.
-/
import Derived.Test.Qxb6618726aChecked
import GoSem.Claim
import GoSem.ClaimJoined
import GoSem.ClaimMapViews
import Derived.JoinedTies
import Derived.KernelRfl
namespace Go.Proofs.Qxb6618726a
/- THE CELL 'sum', in the pinned program and in every row, IS THE sha256 OF THE DUMP (.gsa) THAT Qxb6618726aProg.lean LOADS. Nothing in Lean hashes anything: it is a label: what it is worth is what the hold of that sum in a sandbox is worth. -/
noncomputable def Try.pinned : Pinned := { name := "qxb6618726a", sum := "af693f75454ca8324bd45b0f5100149ef0c7b44c407020adb04522a14c6ba483", checked := Try.checked }
namespace Rows
def none {H : Type} : Left H := { results := [], args := [] }

/-- 'zzlaws_root_b1.FnWaitsForDutyGrowsTwicePerWorkerByteAndSeparates': WHATEVER THE INPUT: true; the input reads as it did. -/
def fnWaitsForDutyGrowsTwicePerWorkerByteAndSeparatesSpec : ChangeSpec := { name := "fnWaitsForDutyGrowsTwicePerWorkerByteAndSeparates", fn := fun _ => fun
  | [d1, d2, d3, d4] => { results := [.lit (.bool true)], args := [d1, d2, d3, d4] }
  | _ => none }
def fnWaitsForDutyGrowsTwicePerWorkerByteAndSeparatesRow : OpenClaim := { program := "qxb6618726a", sum := "af693f75454ca8324bd45b0f5100149ef0c7b44c407020adb04522a14c6ba483", func := "example.com/ikkan/ikkan/zzlaws_root_b1.FnWaitsForDutyGrowsTwicePerWorkerByteAndSeparates", spec := "fnWaitsForDutyGrowsTwicePerWorkerByteAndSeparates", apart := false }
def FnWaitsForDutyGrowsTwicePerWorkerByteAndSeparatesSaid : Prop := fnWaitsForDutyGrowsTwicePerWorkerByteAndSeparatesRow.holds Try.pinned (OpenSpec.ofChange fnWaitsForDutyGrowsTwicePerWorkerByteAndSeparatesSpec)

/-- ITS FALSE NEIGHBOUR: 'it returns false'. Refute it at one input. -/
def fnWaitsForDutyGrowsTwicePerWorkerByteAndSeparatesWrong : ChangeSpec := { name := "fnWaitsForDutyGrowsTwicePerWorkerByteAndSeparates", fn := fun _ => fun
  | [d1, d2, d3, d4] => { results := [.lit (.bool false)], args := [d1, d2, d3, d4] }
  | _ => none }
def FnWaitsForDutyGrowsTwicePerWorkerByteAndSeparatesWrongFalsely : Prop := fnWaitsForDutyGrowsTwicePerWorkerByteAndSeparatesRow.holds Try.pinned (OpenSpec.ofChange fnWaitsForDutyGrowsTwicePerWorkerByteAndSeparatesWrong)

end Rows
end Go.Proofs.Qxb6618726a
