/-
  No cell of these rows narrows 'for every input' (looked for: loops, veiled, ifaces, maps, wideKeys, modest, calm, conditions, laid).
  DERIVED. THE GIVEN ROWS OF THIS SEAT. 2 by the template 'for every input the law returns true; each argument reads behind the call as it read before'; 0 by the template 'total and deterministic' (their statements: Qxb6608514aModsTotals.lean).
  GIVEN WITH THE SEED: the statements are not yours to turn. If you find one false, say at which input.
  Laid BY PROGRAM, IN A SANDBOX (cutbox-rows.mjs): the forced cells as the released guide's own fill.sh prints them over the translation fe0ca12f2e2df568… (all of the seat's roots in one cut). By AI agents, Wed Nov 11 2026. No macro, syntax, notation, axiom, sorry.
-/
import Derived.Test.Qxb6608514aModsChecked
import GoSem.Claim
import GoSem.ClaimJoined
import GoSem.ClaimMapViews
import Derived.JoinedTies
import Derived.KernelRfl
namespace Go.Proofs.Qxb6608514aMods
/- THE CELL 'sum', in the pinned program and in every row, IS THE sha256 OF THE DUMP (.gsa) THAT Qxb6608514aModsProg.lean LOADS. Nothing in Lean hashes anything: it is a label: what it is worth is what the hold of that sum in a sandbox is worth. -/
noncomputable def Trym.pinned : Pinned := { name := "qxb6608514amods", sum := "fe0ca12f2e2df56811fe9d0be475d5acc3b807c858d2bc44c99ad631033af6cd", checked := Trym.checked }
namespace Rows
def none {H : Type} : Left H := { results := [], args := [] }

/-- 'zzlaws_root_b1.FnHeldMetaSplitsAtFirstSlash': WHATEVER THE INPUT: true; the input reads as it did. -/
def fnHeldMetaSplitsAtFirstSlashSpec : ChangeSpec := { name := "fnHeldMetaSplitsAtFirstSlash", fn := fun _ => fun
  | [d1, d2, d3, d4, d5, d6] => { results := [.lit (.bool true)], args := [d1, d2, d3, d4, d5, d6] }
  | _ => none }
def fnHeldMetaSplitsAtFirstSlashRow : OpenClaim := { program := "qxb6608514amods", sum := "fe0ca12f2e2df56811fe9d0be475d5acc3b807c858d2bc44c99ad631033af6cd", func := "example.com/cardledger/cardledger/zzlaws_root_b1.FnHeldMetaSplitsAtFirstSlash", spec := "fnHeldMetaSplitsAtFirstSlash", inPlace := ["internal/bytealg.IndexByteString", "internal/bytealg.IndexString"], named := ["internal/bytealg.MaxLen"], make := .lifted ["publicsums"], apart := false }
def FnHeldMetaSplitsAtFirstSlashSaid : Prop := fnHeldMetaSplitsAtFirstSlashRow.holds Trym.pinned (OpenSpec.ofChange fnHeldMetaSplitsAtFirstSlashSpec)

/-- ITS FALSE NEIGHBOUR: 'it returns false'. Refute it at one input. -/
def fnHeldMetaSplitsAtFirstSlashWrong : ChangeSpec := { name := "fnHeldMetaSplitsAtFirstSlash", fn := fun _ => fun
  | [d1, d2, d3, d4, d5, d6] => { results := [.lit (.bool false)], args := [d1, d2, d3, d4, d5, d6] }
  | _ => none }
def FnHeldMetaSplitsAtFirstSlashWrongFalsely : Prop := fnHeldMetaSplitsAtFirstSlashRow.holds Trym.pinned (OpenSpec.ofChange fnHeldMetaSplitsAtFirstSlashWrong)

/-- 'zzlaws_root_b1.FnTakenBindingMovesHeldToCharged': WHATEVER THE INPUT: true; the input reads as it did. -/
def fnTakenBindingMovesHeldToChargedSpec : ChangeSpec := { name := "fnTakenBindingMovesHeldToCharged", fn := fun _ => fun
  | [d1, d2, d3, d4] => { results := [.lit (.bool true)], args := [d1, d2, d3, d4] }
  | _ => none }
def fnTakenBindingMovesHeldToChargedRow : OpenClaim := { program := "qxb6608514amods", sum := "fe0ca12f2e2df56811fe9d0be475d5acc3b807c858d2bc44c99ad631033af6cd", func := "example.com/cardledger/cardledger/zzlaws_root_b1.FnTakenBindingMovesHeldToCharged", spec := "fnTakenBindingMovesHeldToCharged", make := .lifted ["publicsums"], apart := false }
def FnTakenBindingMovesHeldToChargedSaid : Prop := fnTakenBindingMovesHeldToChargedRow.holds Trym.pinned (OpenSpec.ofChange fnTakenBindingMovesHeldToChargedSpec)

/-- ITS FALSE NEIGHBOUR: 'it returns false'. Refute it at one input. -/
def fnTakenBindingMovesHeldToChargedWrong : ChangeSpec := { name := "fnTakenBindingMovesHeldToCharged", fn := fun _ => fun
  | [d1, d2, d3, d4] => { results := [.lit (.bool false)], args := [d1, d2, d3, d4] }
  | _ => none }
def FnTakenBindingMovesHeldToChargedWrongFalsely : Prop := fnTakenBindingMovesHeldToChargedRow.holds Trym.pinned (OpenSpec.ofChange fnTakenBindingMovesHeldToChargedWrong)

end Rows
end Go.Proofs.Qxb6608514aMods
