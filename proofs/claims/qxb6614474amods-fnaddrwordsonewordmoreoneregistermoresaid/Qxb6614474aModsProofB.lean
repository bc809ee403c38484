/-
  THE PROOF of 'Rows.FnAddrWordsOneWordMoreOneRegisterMoreSaid': the row's step over the walk. The frame is the seat's shell (proof-skeleton.mjs) at this function's number and types.
-/
import Derived.Test.Qxb6614474aModsFacts
import Derived.Test.Qxb6614474aModsWalk
import Derived.ProofKit
namespace Go.Proofs.Qxb6614474aMods
open Go.ChangeShapes Go.WideShapes Go.ChangeAt Go.RowKit

theorem fnAddrWordsOneWordMoreOneRegisterMore_own : ownKnob Trym.prog.godebug = none := by kernel_rfl

set_option maxRecDepth 100000 in
theorem fnAddrWordsOneWordMoreOneRegisterMore_lifted (os : Os) (started : os.Started) (H : Type) (enc : TypeId × Value → H) :
    ReturnsInHanded {} Trym.checked os 4 .any (Rows.fnAddrWordsOneWordMoreOneRegisterMoreSpec.pre6 enc Trym.prog Trym.f4 Rows.fnAddrWordsOneWordMoreOneRegisterMoreRow.domain false) (Rows.fnAddrWordsOneWordMoreOneRegisterMoreSpec.post enc Trym.prog Trym.f4 false true false false) := by
  refine returnsInHanded_of_change (C := Trym.checked) fnAddrWordsOneWordMoreOneRegisterMore_own started (by kernel_rfl) Trym.func4
    (ChangeSpec.witness6 (enc := enc) (C := Trym.checked) false ⟨#[], #[.int .i64 0, .int .i64 0], []⟩ 8 (by kernel_rfl) (by kernel_rfl) (by kernel_rfl) (by kernel_rfl)) ?_
  intro W base args ds gs before hval0 hW hcnd _
  have hval : ∀ (j : Nat) t v, Trym.f4.params[j]? = some t → args[j]? = some v → Value.okWide Trym.prog W .any base t v := hval0
  have hW' := hW
  obtain ⟨p, q, hA0, hV, rfl, hfz, hnd⟩ := hW
  have hA : DataW.TrodAll enc Trym.prog W 0 (fun _ => true) true Trym.f4.params.toList args.toList ds p := hA0
  rw [Trym.params4] at hA hval
  obtain ⟨v0, vs0, d0, ds0, p0, q0, hargs, rfl, rfl, h0, r0⟩ := trodAll_cons hA
  obtain ⟨v1, vs1, d1, ds1, p1, q1, rfl, rfl, rfl, h1, r1⟩ := trodAll_cons r0
  obtain ⟨rfl, rfl, rfl⟩ := trodAll_nil r1
  obtain rfl : args = #[v0, v1] := by cases args; simp_all
  obtain ⟨rfl, rfl⟩ := trodVars_none hV
  obtain ⟨a0, rfl, rfl, rfl, w0⟩ := open_int Trym.underlying3 (hval 0 3 v0 rfl rfl) h0
  obtain ⟨a1, rfl, rfl, rfl, w1⟩ := open_int Trym.underlying3 (hval 1 3 v1 rfl rfl) h1
  clear hA0 hval0
  simp only [List.append_nil] at hW'
  refine (oneMore_walk a0 a1 W).mono fun e W' ⟨he, hg⟩ => ?_
  subst he
  exact ⟨_, rfl, post_of_same (pa := []) (pv := []) hW' (fun _ _ _ => trodAll_mk1 (shut_bool Trym.underlying4 _)) (fun sp _ => trodAll_mk2 (shut_int Trym.underlying3 w0) (shut_int Trym.underlying3 w1)) (fun _ _ => rfl) rfl
    (hg.frame _) hg.2.1 (ok_one (by kernel_rfl) rfl (okWide_bool_mk Trym.underlying4 _))⟩

/-- THE STATEMENT -/
theorem fnAddrWordsOneWordMoreOneRegisterMore_proved : Rows.FnAddrWordsOneWordMoreOneRegisterMoreSaid :=
  OpenClaim.holds_of_wide 4 Trym.f4 rfl rfl rfl rfl rfl rfl rfl ⟨rfl, rfl, rfl, rfl, rfl⟩ rfl rfl rfl rfl rfl (by kernel_rfl) Trym.func4 fnAddrWordsOneWordMoreOneRegisterMore_closed
    (of_decide_eq_true (by kernel_rfl)) (by unfold Func.isWrapper; first | (rw [if_pos (by decide +kernel)]; kernel_rfl) | (rw [if_neg (by decide +kernel)]; exact ⟨rfl, rfl⟩))
    (fun os started H enc _ => fnAddrWordsOneWordMoreOneRegisterMore_lifted os started H enc)
end Go.Proofs.Qxb6614474aMods
