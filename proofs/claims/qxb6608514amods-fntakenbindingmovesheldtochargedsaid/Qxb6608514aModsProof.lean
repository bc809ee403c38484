/-
  THE PROOF of 'Rows.FnTakenBindingMovesHeldToChargedSaid': the row's step over the walk. The frame is the seat's shell (proof-skeleton.mjs) at this function's number and types.
-/
import Derived.Test.Qxb6608514aModsFacts
import Derived.Test.Qxb6608514aModsWalk
import Derived.ProofKit
namespace Go.Proofs.Qxb6608514aMods
open Go.ChangeShapes Go.WideShapes Go.ChangeAt Go.RowKit

theorem fnTakenBindingMovesHeldToCharged_own : ownKnob Trym.prog.godebug = none := by kernel_rfl

/-- An int64's bounds. -/
theorem fnTakenBindingMovesHeldToCharged_bounds {n : Int} (h : (Lit.int .i64 n).wf = true) : -9223372036854775808 ≤ n ∧ n ≤ 9223372036854775807 := by
  simpa [Lit.wf, IntKind.min, IntKind.max, IntKind.signed, IntKind.bits] using h

set_option maxRecDepth 100000 in
theorem fnTakenBindingMovesHeldToCharged_lifted (os : Os) (started : os.Started) (H : Type) (enc : TypeId × Value → H) :
    ReturnsInHanded {} Trym.checked os 4 .any (Rows.fnTakenBindingMovesHeldToChargedSpec.pre6 enc Trym.prog Trym.f4 Rows.fnTakenBindingMovesHeldToChargedRow.domain false) (Rows.fnTakenBindingMovesHeldToChargedSpec.post enc Trym.prog Trym.f4 false true false false) := by
  refine returnsInHanded_of_change (C := Trym.checked) fnTakenBindingMovesHeldToCharged_own started (by kernel_rfl) Trym.func4
    (ChangeSpec.witness6 (enc := enc) (C := Trym.checked) false ⟨#[], #[.int .i64 0, .int .i64 0, .int .i64 0, .int .i64 0], []⟩ 8 (by kernel_rfl) (by kernel_rfl) (by kernel_rfl) (by kernel_rfl)) ?_
  intro W base args ds gs before hval0 hW hcnd _
  have hval : ∀ (j : Nat) t v, Trym.f4.params[j]? = some t → args[j]? = some v → Value.okWide Trym.prog W .any base t v := hval0
  have hW' := hW
  obtain ⟨p, q, hA0, hV, rfl, hfz, hnd⟩ := hW
  have hA : DataW.TrodAll enc Trym.prog W 0 (fun _ => true) true Trym.f4.params.toList args.toList ds p := hA0
  rw [Trym.params4] at hA hval
  obtain ⟨v0, vs0, d0, ds0, p0, q0, hargs, rfl, rfl, h0, r0⟩ := trodAll_cons hA
  obtain ⟨v1, vs1, d1, ds1, p1, q1, rfl, rfl, rfl, h1, r1⟩ := trodAll_cons r0
  obtain ⟨v2, vs2, d2, ds2, p2, q2, rfl, rfl, rfl, h2, r2⟩ := trodAll_cons r1
  obtain ⟨v3, vs3, d3, ds3, p3, q3, rfl, rfl, rfl, h3, r3⟩ := trodAll_cons r2
  obtain ⟨rfl, rfl, rfl⟩ := trodAll_nil r3
  obtain rfl : args = #[v0, v1, v2, v3] := by cases args; simp_all
  obtain ⟨rfl, rfl⟩ := trodVars_none hV
  obtain ⟨a0, rfl, rfl, rfl, w0⟩ := open_int Trym.underlying2 (hval 0 2 v0 rfl rfl) h0
  obtain ⟨a1, rfl, rfl, rfl, w1⟩ := open_int Trym.underlying2 (hval 1 2 v1 rfl rfl) h1
  obtain ⟨a2, rfl, rfl, rfl, w2⟩ := open_int Trym.underlying2 (hval 2 2 v2 rfl rfl) h2
  obtain ⟨a3, rfl, rfl, rfl, w3⟩ := open_int Trym.underlying2 (hval 3 2 v3 rfl rfl) h3
  clear hA0 hval0
  simp only [List.append_nil] at hW'
  refine (law_walk a0 a1 a2 a3 (fnTakenBindingMovesHeldToCharged_bounds w0).2 (fnTakenBindingMovesHeldToCharged_bounds w1).2 W).mono fun e W' ⟨he, hg⟩ => ?_
  subst he
  exact ⟨_, rfl, post_of_same (pa := []) (pv := []) hW' (fun _ _ _ => trodAll_mk1 (shut_bool Trym.underlying4 _)) (fun sp _ => trodAll_mk4 (shut_int Trym.underlying2 w0) (shut_int Trym.underlying2 w1) (shut_int Trym.underlying2 w2) (shut_int Trym.underlying2 w3)) (fun _ _ => rfl) rfl
    (hg.frame _) hg.2.1 (ok_one (by kernel_rfl) rfl (okWide_bool_mk Trym.underlying4 _))⟩

/-- THE STATEMENT -/
theorem fnTakenBindingMovesHeldToCharged_proved : Rows.FnTakenBindingMovesHeldToChargedSaid :=
  OpenClaim.holds_of_wide 4 Trym.f4 rfl rfl rfl rfl rfl rfl rfl ⟨rfl, rfl, rfl, rfl, rfl⟩ rfl rfl rfl rfl rfl (by kernel_rfl) Trym.func4 fnTakenBindingMovesHeldToCharged_closed
    (of_decide_eq_true (by kernel_rfl)) (by unfold Func.isWrapper; first | (rw [if_pos (by decide +kernel)]; kernel_rfl) | (rw [if_neg (by decide +kernel)]; exact ⟨rfl, rfl⟩))
    (fun os started H enc _ => fnTakenBindingMovesHeldToCharged_lifted os started H enc)
end Go.Proofs.Qxb6608514aMods
