/-
  No cell of these rows narrows 'for every input' (looked for: loops, veiled, ifaces, maps, wideKeys, modest, calm, conditions, laid).
  DERIVED. THE GIVEN ROWS OF THIS SEAT. 2 by the template 'for every input the law returns true; each argument reads behind the call as it read before'; 0 by the template 'total and deterministic' (their statements: Qxb6614474aModsTotals.lean).
  GIVEN WITH THE SEED: the statements are not yours to turn. If you find one false, say at which input.
  Laid BY PROGRAM, IN A SANDBOX (cutbox-rows.mjs): the forced cells as the released guide's own fill.sh prints them over the translation 443f4fc45a92bac7… (all of the seat's roots in one cut). By AI agents, Wed Nov 11 2026. No macro, syntax, notation, axiom, sorry.
-/
import Derived.Test.Qxb6614474aModsChecked
import GoSem.Claim
import GoSem.ClaimJoined
import GoSem.ClaimMapViews
import Derived.JoinedTies
import Derived.KernelRfl
namespace Go.Proofs.Qxb6614474aMods
/- THE CELL 'sum', in the pinned program and in every row, IS THE sha256 OF THE DUMP (.gsa) THAT Qxb6614474aModsProg.lean LOADS. Nothing in Lean hashes anything: it is a label: what it is worth is what the hold of that sum in a sandbox is worth. -/
noncomputable def Trym.pinned : Pinned := { name := "qxb6614474amods", sum := "443f4fc45a92bac75edf6c1cbccca88def5ac3da56690a754f2c8799f51f4d6e", checked := Trym.checked }
namespace Rows
def none {H : Type} : Left H := { results := [], args := [] }

/-- 'zzlaws_internal_nft_b1.FnAddrWordsAddUpOverWholeWords': WHATEVER THE INPUT: true; the input reads as it did. -/
def fnAddrWordsAddUpOverWholeWordsSpec : ChangeSpec := { name := "fnAddrWordsAddUpOverWholeWords", fn := fun _ => fun
  | [d1, d2] => { results := [.lit (.bool true)], args := [d1, d2] }
  | _ => none }
def fnAddrWordsAddUpOverWholeWordsRow : OpenClaim := { program := "qxb6614474amods", sum := "443f4fc45a92bac75edf6c1cbccca88def5ac3da56690a754f2c8799f51f4d6e", func := "example.com/fairlead/fairlead/zzlaws_internal_nft_b1.FnAddrWordsAddUpOverWholeWords", spec := "fnAddrWordsAddUpOverWholeWords", make := .lifted ["publicsums"], apart := false }
def FnAddrWordsAddUpOverWholeWordsSaid : Prop := fnAddrWordsAddUpOverWholeWordsRow.holds Trym.pinned (OpenSpec.ofChange fnAddrWordsAddUpOverWholeWordsSpec)

/-- ITS FALSE NEIGHBOUR: 'it returns false'. Refute it at one input. -/
def fnAddrWordsAddUpOverWholeWordsWrong : ChangeSpec := { name := "fnAddrWordsAddUpOverWholeWords", fn := fun _ => fun
  | [d1, d2] => { results := [.lit (.bool false)], args := [d1, d2] }
  | _ => none }
def FnAddrWordsAddUpOverWholeWordsWrongFalsely : Prop := fnAddrWordsAddUpOverWholeWordsRow.holds Trym.pinned (OpenSpec.ofChange fnAddrWordsAddUpOverWholeWordsWrong)

/-- 'zzlaws_internal_nft_b1.FnAddrWordsOneWordMoreOneRegisterMore': WHATEVER THE INPUT: true; the input reads as it did. -/
def fnAddrWordsOneWordMoreOneRegisterMoreSpec : ChangeSpec := { name := "fnAddrWordsOneWordMoreOneRegisterMore", fn := fun _ => fun
  | [d1, d2] => { results := [.lit (.bool true)], args := [d1, d2] }
  | _ => none }
def fnAddrWordsOneWordMoreOneRegisterMoreRow : OpenClaim := { program := "qxb6614474amods", sum := "443f4fc45a92bac75edf6c1cbccca88def5ac3da56690a754f2c8799f51f4d6e", func := "example.com/fairlead/fairlead/zzlaws_internal_nft_b1.FnAddrWordsOneWordMoreOneRegisterMore", spec := "fnAddrWordsOneWordMoreOneRegisterMore", make := .lifted ["publicsums"], apart := false }
def FnAddrWordsOneWordMoreOneRegisterMoreSaid : Prop := fnAddrWordsOneWordMoreOneRegisterMoreRow.holds Trym.pinned (OpenSpec.ofChange fnAddrWordsOneWordMoreOneRegisterMoreSpec)

/-- ITS FALSE NEIGHBOUR: 'it returns false'. Refute it at one input. -/
def fnAddrWordsOneWordMoreOneRegisterMoreWrong : ChangeSpec := { name := "fnAddrWordsOneWordMoreOneRegisterMore", fn := fun _ => fun
  | [d1, d2] => { results := [.lit (.bool false)], args := [d1, d2] }
  | _ => none }
def FnAddrWordsOneWordMoreOneRegisterMoreWrongFalsely : Prop := fnAddrWordsOneWordMoreOneRegisterMoreRow.holds Trym.pinned (OpenSpec.ofChange fnAddrWordsOneWordMoreOneRegisterMoreWrong)

end Rows
end Go.Proofs.Qxb6614474aMods
