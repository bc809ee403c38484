/-
  No cell of these rows narrows 'for every input' (looked for: loops, veiled, ifaces, maps, wideKeys, modest, calm, conditions, laid).
  DERIVED. THE GIVEN ROWS OF THIS SEAT. 8 by the template 'for every input the law returns true; each argument reads behind the call as it read before'; 0 by the template 'total and deterministic' (their statements: Qxb6605799aModsTotals.lean).
  GIVEN WITH THE SEED: the statements are not yours to turn. If you find one false, say at which input.
  Laid BY PROGRAM, IN A SANDBOX (cutbox-rows.mjs): the forced cells as the released guide's own fill.sh prints them over the translation 93f1e08b1658fb0a… (all of the seat's roots in one cut). By AI agents, Wed Nov 11 2026. No macro, syntax, notation, axiom, sorry.
-/
import Derived.Test.Qxb6605799aModsChecked
import GoSem.Claim
import GoSem.ClaimJoined
import GoSem.ClaimMapViews
import Derived.JoinedTies
import Derived.KernelRfl
namespace Go.Proofs.Qxb6605799aMods
/- THE CELL 'sum', in the pinned program and in every row, IS THE sha256 OF THE DUMP (.gsa) THAT Qxb6605799aModsProg.lean LOADS. Nothing in Lean hashes anything: it is a label: what it is worth is what the hold of that sum in a sandbox is worth. -/
noncomputable def Trym.pinned : Pinned := { name := "qxb6605799amods", sum := "93f1e08b1658fb0a7229ed743cbd01bef3dbd23debbf0a1a3dabe57d4bb7b44e", checked := Trym.checked }
namespace Rows
def none {H : Type} : Left H := { results := [], args := [] }

/-- 'zzlaws_pkg_relay_b1.FnNodeRightChainCounts': WHATEVER THE INPUT: true; the input reads as it did. -/
def fnNodeRightChainCountsSpec : ChangeSpec := { name := "fnNodeRightChainCounts", fn := fun _ => fun
  | [d1, d2] => { results := [.lit (.bool true)], args := [d1, d2] }
  | _ => none }
def fnNodeRightChainCountsRow : OpenClaim := { program := "qxb6605799amods", sum := "93f1e08b1658fb0a7229ed743cbd01bef3dbd23debbf0a1a3dabe57d4bb7b44e", func := "example.com/talthybius/talthybius/zzlaws_pkg_relay_b1.FnNodeRightChainCounts", spec := "fnNodeRightChainCounts", make := .lifted ["publicsums"], apart := false }
def FnNodeRightChainCountsSaid : Prop := fnNodeRightChainCountsRow.holds Trym.pinned (OpenSpec.ofChange fnNodeRightChainCountsSpec)

/-- ITS FALSE NEIGHBOUR: 'it returns false'. Refute it at one input. -/
def fnNodeRightChainCountsWrong : ChangeSpec := { name := "fnNodeRightChainCounts", fn := fun _ => fun
  | [d1, d2] => { results := [.lit (.bool false)], args := [d1, d2] }
  | _ => none }
def FnNodeRightChainCountsWrongFalsely : Prop := fnNodeRightChainCountsRow.holds Trym.pinned (OpenSpec.ofChange fnNodeRightChainCountsWrong)

/-- 'zzlaws_pkg_relay_b1.FnNodeJoinsAroundPivot': WHATEVER THE INPUT: true; the input reads as it did. -/
def fnNodeJoinsAroundPivotSpec : ChangeSpec := { name := "fnNodeJoinsAroundPivot", fn := fun _ => fun
  | [d1, d2, d3, d4] => { results := [.lit (.bool true)], args := [d1, d2, d3, d4] }
  | _ => none }
def fnNodeJoinsAroundPivotRow : OpenClaim := { program := "qxb6605799amods", sum := "93f1e08b1658fb0a7229ed743cbd01bef3dbd23debbf0a1a3dabe57d4bb7b44e", func := "example.com/talthybius/talthybius/zzlaws_pkg_relay_b1.FnNodeJoinsAroundPivot", spec := "fnNodeJoinsAroundPivot", recurses := true, make := .lifted ["publicsums"], apart := false }
def FnNodeJoinsAroundPivotSaid : Prop := fnNodeJoinsAroundPivotRow.holds Trym.pinned (OpenSpec.ofChange fnNodeJoinsAroundPivotSpec)

/-- ITS FALSE NEIGHBOUR: 'it returns false'. Refute it at one input. -/
def fnNodeJoinsAroundPivotWrong : ChangeSpec := { name := "fnNodeJoinsAroundPivot", fn := fun _ => fun
  | [d1, d2, d3, d4] => { results := [.lit (.bool false)], args := [d1, d2, d3, d4] }
  | _ => none }
def FnNodeJoinsAroundPivotWrongFalsely : Prop := fnNodeJoinsAroundPivotRow.holds Trym.pinned (OpenSpec.ofChange fnNodeJoinsAroundPivotWrong)

/-- 'zzlaws_pkg_relay_b1.FnLenCountsDistinctNames': WHATEVER THE INPUT: true; the input reads as it did. -/
def fnLenCountsDistinctNamesSpec : ChangeSpec := { name := "fnLenCountsDistinctNames", fn := fun _ => fun
  | [d1, d2] => { results := [.lit (.bool true)], args := [d1, d2] }
  | _ => none }
def fnLenCountsDistinctNamesRow : OpenClaim := { program := "qxb6605799amods", sum := "93f1e08b1658fb0a7229ed743cbd01bef3dbd23debbf0a1a3dabe57d4bb7b44e", func := "example.com/talthybius/talthybius/zzlaws_pkg_relay_b1.FnLenCountsDistinctNames", spec := "fnLenCountsDistinctNames", recurses := true, make := .lifted ["publicsums"], apart := false }
def FnLenCountsDistinctNamesSaid : Prop := fnLenCountsDistinctNamesRow.holds Trym.pinned (OpenSpec.ofChange fnLenCountsDistinctNamesSpec)

/-- ITS FALSE NEIGHBOUR: 'it returns false'. Refute it at one input. -/
def fnLenCountsDistinctNamesWrong : ChangeSpec := { name := "fnLenCountsDistinctNames", fn := fun _ => fun
  | [d1, d2] => { results := [.lit (.bool false)], args := [d1, d2] }
  | _ => none }
def FnLenCountsDistinctNamesWrongFalsely : Prop := fnLenCountsDistinctNamesRow.holds Trym.pinned (OpenSpec.ofChange fnLenCountsDistinctNamesWrong)

/-- 'zzlaws_pkg_relay_b1.FnLenAfterInsertsAndRemovals': WHATEVER THE INPUT: true; the input reads as it did. -/
def fnLenAfterInsertsAndRemovalsSpec : ChangeSpec := { name := "fnLenAfterInsertsAndRemovals", fn := fun _ => fun
  | [d1, d2, d3] => { results := [.lit (.bool true)], args := [d1, d2, d3] }
  | _ => none }
def fnLenAfterInsertsAndRemovalsRow : OpenClaim := { program := "qxb6605799amods", sum := "93f1e08b1658fb0a7229ed743cbd01bef3dbd23debbf0a1a3dabe57d4bb7b44e", func := "example.com/talthybius/talthybius/zzlaws_pkg_relay_b1.FnLenAfterInsertsAndRemovals", spec := "fnLenAfterInsertsAndRemovals", recurses := true, make := .lifted ["publicsums"], apart := false }
def FnLenAfterInsertsAndRemovalsSaid : Prop := fnLenAfterInsertsAndRemovalsRow.holds Trym.pinned (OpenSpec.ofChange fnLenAfterInsertsAndRemovalsSpec)

/-- ITS FALSE NEIGHBOUR: 'it returns false'. Refute it at one input. -/
def fnLenAfterInsertsAndRemovalsWrong : ChangeSpec := { name := "fnLenAfterInsertsAndRemovals", fn := fun _ => fun
  | [d1, d2, d3] => { results := [.lit (.bool false)], args := [d1, d2, d3] }
  | _ => none }
def FnLenAfterInsertsAndRemovalsWrongFalsely : Prop := fnLenAfterInsertsAndRemovalsRow.holds Trym.pinned (OpenSpec.ofChange fnLenAfterInsertsAndRemovalsWrong)

/-- 'zzlaws_pkg_relay_b1.FnFilterKeepsExactlyTheMarked': WHATEVER THE INPUT: true; the input reads as it did. -/
def fnFilterKeepsExactlyTheMarkedSpec : ChangeSpec := { name := "fnFilterKeepsExactlyTheMarked", fn := fun _ => fun
  | [d1, d2, d3] => { results := [.lit (.bool true)], args := [d1, d2, d3] }
  | _ => none }
def fnFilterKeepsExactlyTheMarkedRow : OpenClaim := { program := "qxb6605799amods", sum := "93f1e08b1658fb0a7229ed743cbd01bef3dbd23debbf0a1a3dabe57d4bb7b44e", func := "example.com/talthybius/talthybius/zzlaws_pkg_relay_b1.FnFilterKeepsExactlyTheMarked", spec := "fnFilterKeepsExactlyTheMarked", unfollowed := true, recurses := true, make := .lifted ["publicsums"], apart := false }
def FnFilterKeepsExactlyTheMarkedSaid : Prop := fnFilterKeepsExactlyTheMarkedRow.holds Trym.pinned (OpenSpec.ofChange fnFilterKeepsExactlyTheMarkedSpec)

/-- ITS FALSE NEIGHBOUR: 'it returns false'. Refute it at one input. -/
def fnFilterKeepsExactlyTheMarkedWrong : ChangeSpec := { name := "fnFilterKeepsExactlyTheMarked", fn := fun _ => fun
  | [d1, d2, d3] => { results := [.lit (.bool false)], args := [d1, d2, d3] }
  | _ => none }
def FnFilterKeepsExactlyTheMarkedWrongFalsely : Prop := fnFilterKeepsExactlyTheMarkedRow.holds Trym.pinned (OpenSpec.ofChange fnFilterKeepsExactlyTheMarkedWrong)

/-- 'zzlaws_pkg_relay_b1.FnFilterCallsInOrderAndSharesWhenAllKept': WHATEVER THE INPUT: true; the input reads as it did. -/
def fnFilterCallsInOrderAndSharesWhenAllKeptSpec : ChangeSpec := { name := "fnFilterCallsInOrderAndSharesWhenAllKept", fn := fun _ => fun
  | [d1, d2, d3] => { results := [.lit (.bool true)], args := [d1, d2, d3] }
  | _ => none }
def fnFilterCallsInOrderAndSharesWhenAllKeptRow : OpenClaim := { program := "qxb6605799amods", sum := "93f1e08b1658fb0a7229ed743cbd01bef3dbd23debbf0a1a3dabe57d4bb7b44e", func := "example.com/talthybius/talthybius/zzlaws_pkg_relay_b1.FnFilterCallsInOrderAndSharesWhenAllKept", spec := "fnFilterCallsInOrderAndSharesWhenAllKept", unfollowed := true, recurses := true, make := .lifted ["publicsums"], apart := false }
def FnFilterCallsInOrderAndSharesWhenAllKeptSaid : Prop := fnFilterCallsInOrderAndSharesWhenAllKeptRow.holds Trym.pinned (OpenSpec.ofChange fnFilterCallsInOrderAndSharesWhenAllKeptSpec)

/-- ITS FALSE NEIGHBOUR: 'it returns false'. Refute it at one input. -/
def fnFilterCallsInOrderAndSharesWhenAllKeptWrong : ChangeSpec := { name := "fnFilterCallsInOrderAndSharesWhenAllKept", fn := fun _ => fun
  | [d1, d2, d3] => { results := [.lit (.bool false)], args := [d1, d2, d3] }
  | _ => none }
def FnFilterCallsInOrderAndSharesWhenAllKeptWrongFalsely : Prop := fnFilterCallsInOrderAndSharesWhenAllKeptRow.holds Trym.pinned (OpenSpec.ofChange fnFilterCallsInOrderAndSharesWhenAllKeptWrong)

/-- 'zzlaws_pkg_relay_b1.FnAnsweringCaseTable': WHATEVER THE INPUT: true; the input reads as it did. -/
def fnAnsweringCaseTableSpec : ChangeSpec := { name := "fnAnsweringCaseTable", fn := fun _ => fun
  | [d1, d2, d3, d4, d5] => { results := [.lit (.bool true)], args := [d1, d2, d3, d4, d5] }
  | _ => none }
def fnAnsweringCaseTableRow : OpenClaim := { program := "qxb6605799amods", sum := "93f1e08b1658fb0a7229ed743cbd01bef3dbd23debbf0a1a3dabe57d4bb7b44e", func := "example.com/talthybius/talthybius/zzlaws_pkg_relay_b1.FnAnsweringCaseTable", spec := "fnAnsweringCaseTable", recurses := true, make := .lifted ["publicsums"], apart := false }
def FnAnsweringCaseTableSaid : Prop := fnAnsweringCaseTableRow.holds Trym.pinned (OpenSpec.ofChange fnAnsweringCaseTableSpec)

/-- ITS FALSE NEIGHBOUR: 'it returns false'. Refute it at one input. -/
def fnAnsweringCaseTableWrong : ChangeSpec := { name := "fnAnsweringCaseTable", fn := fun _ => fun
  | [d1, d2, d3, d4, d5] => { results := [.lit (.bool false)], args := [d1, d2, d3, d4, d5] }
  | _ => none }
def FnAnsweringCaseTableWrongFalsely : Prop := fnAnsweringCaseTableRow.holds Trym.pinned (OpenSpec.ofChange fnAnsweringCaseTableWrong)

/-- 'zzlaws_pkg_relay_b1.FnAnsweringOnAsksGrownFromWas': WHATEVER THE INPUT: true; the input reads as it did. -/
def fnAnsweringOnAsksGrownFromWasSpec : ChangeSpec := { name := "fnAnsweringOnAsksGrownFromWas", fn := fun _ => fun
  | [d1, d2, d3, d4, d5] => { results := [.lit (.bool true)], args := [d1, d2, d3, d4, d5] }
  | _ => none }
def fnAnsweringOnAsksGrownFromWasRow : OpenClaim := { program := "qxb6605799amods", sum := "93f1e08b1658fb0a7229ed743cbd01bef3dbd23debbf0a1a3dabe57d4bb7b44e", func := "example.com/talthybius/talthybius/zzlaws_pkg_relay_b1.FnAnsweringOnAsksGrownFromWas", spec := "fnAnsweringOnAsksGrownFromWas", recurses := true, make := .lifted ["publicsums"], apart := false }
def FnAnsweringOnAsksGrownFromWasSaid : Prop := fnAnsweringOnAsksGrownFromWasRow.holds Trym.pinned (OpenSpec.ofChange fnAnsweringOnAsksGrownFromWasSpec)

/-- ITS FALSE NEIGHBOUR: 'it returns false'. Refute it at one input. -/
def fnAnsweringOnAsksGrownFromWasWrong : ChangeSpec := { name := "fnAnsweringOnAsksGrownFromWas", fn := fun _ => fun
  | [d1, d2, d3, d4, d5] => { results := [.lit (.bool false)], args := [d1, d2, d3, d4, d5] }
  | _ => none }
def FnAnsweringOnAsksGrownFromWasWrongFalsely : Prop := fnAnsweringOnAsksGrownFromWasRow.holds Trym.pinned (OpenSpec.ofChange fnAnsweringOnAsksGrownFromWasWrong)

end Rows
end Go.Proofs.Qxb6605799aMods
