/-
  No cell of these rows narrows 'for every input' (looked for: loops, veiled, ifaces, maps, wideKeys, modest, calm, conditions, laid).
  DERIVED. THE GIVEN ROWS OF THIS SEAT. 1 by the template 'for every input the law returns true; each argument reads behind the call as it read before'; 0 by the template 'total and deterministic' (their statements: Qxb6608750aModsTotals.lean).
  GIVEN WITH THE SEED: the statements are not yours to turn. If you find one false, say at which input.
  Laid BY PROGRAM, IN A SANDBOX (cutbox-rows.mjs): the forced cells as the released guide's own fill.sh prints them over the translation 3831d78f37f52215… (all of the seat's roots in one cut). By AI agents, Wed Nov 11 2026. No macro, syntax, notation, axiom, sorry.
-/
import Derived.Test.Qxb6608750aModsChecked
import GoSem.Claim
import GoSem.ClaimJoined
import GoSem.ClaimMapViews
import Derived.JoinedTies
import Derived.KernelRfl
namespace Go.Proofs.Qxb6608750aMods
/- THE CELL 'sum', in the pinned program and in every row, IS THE sha256 OF THE DUMP (.gsa) THAT Qxb6608750aModsProg.lean LOADS. Nothing in Lean hashes anything: it is a label: what it is worth is what the hold of that sum in a sandbox is worth. -/
noncomputable def Trym.pinned : Pinned := { name := "qxb6608750amods", sum := "3831d78f37f52215457e61abe6a0064efca961f6f89328f9d155e53aff20cc19", checked := Trym.checked }
namespace Rows
def none {H : Type} : Left H := { results := [], args := [] }

/-- 'zzlaws_root_b1.FnZeroTalliesOwnTheirCounts': WHATEVER THE INPUT: true; the input reads as it did. -/
def fnZeroTalliesOwnTheirCountsSpec : ChangeSpec := { name := "fnZeroTalliesOwnTheirCounts", fn := fun _ => fun
  | [d1, d2] => { results := [.lit (.bool true)], args := [d1, d2] }
  | _ => none }
def fnZeroTalliesOwnTheirCountsRow : OpenClaim := { program := "qxb6608750amods", sum := "3831d78f37f52215457e61abe6a0064efca961f6f89328f9d155e53aff20cc19", func := "example.com/ringgauge/ringgauge/zzlaws_root_b1.FnZeroTalliesOwnTheirCounts", spec := "fnZeroTalliesOwnTheirCounts", make := .lifted ["publicsums"], apart := false }
def FnZeroTalliesOwnTheirCountsSaid : Prop := fnZeroTalliesOwnTheirCountsRow.holds Trym.pinned (OpenSpec.ofChange fnZeroTalliesOwnTheirCountsSpec)

/-- ITS FALSE NEIGHBOUR: 'it returns false'. Refute it at one input. -/
def fnZeroTalliesOwnTheirCountsWrong : ChangeSpec := { name := "fnZeroTalliesOwnTheirCounts", fn := fun _ => fun
  | [d1, d2] => { results := [.lit (.bool false)], args := [d1, d2] }
  | _ => none }
def FnZeroTalliesOwnTheirCountsWrongFalsely : Prop := fnZeroTalliesOwnTheirCountsRow.holds Trym.pinned (OpenSpec.ofChange fnZeroTalliesOwnTheirCountsWrong)

end Rows
end Go.Proofs.Qxb6608750aMods
