/-
  THE PROOF of 'Rows.FnNodeRightChainCountsSaid': the row's step over the walk 'law_walk'. The frame is the guide's (proof-skeleton.mjs, howto/template/XProofs.lean), the first parameter a slice of strings.
-/
import Derived.Test.Qxb6605799aModsFacts
import Derived.Test.Qxb6605799aModsMain
import Derived.ProofKit
import Derived.ShutString
import Derived.ChangeOld
import Derived.Below
import Derived.SliceStrings
namespace Go.Proofs.Qxb6605799aMods
open Go.ChangeShapes Go.WideShapes Go.ChangeAt Go.RowKit

theorem own : ownKnob Trym.prog.godebug = none := by kernel_rfl
theorem laidOut : laidOutB Trym.prog = true := by kernel_rfl

/-- From a slice's cells at 'x.add i' to the walk's own words. -/
theorem rowAt_of {w : World} {x : Addr} {len : Nat} {f : Nat → Value} (h : ∀ i, i < len → w.cell? (x.add i) = some (f i)) : RowAt w (some x) len f := by
  intro i hi
  obtain ⟨b, off, spot⟩ := x
  have hc := h i hi
  have hspot : spot = none := by simpa [Addr.add] using World.cell?_spot (h 0 (by omega))
  subst hspot
  have hc' : w.cell? ⟨b, off + i, none⟩ = some (f i) := by rw [← add_plain]; exact hc
  refine ⟨b, off, rfl, ?_, hc'⟩
  have hblk : ∃ o, w.heap[b]? = some o := by
    cases hb : w.heap[b]? with
    | none => simp [World.cell?, hb] at hc'
    | some o => exact ⟨o, rfl⟩
  obtain ⟨o, ho⟩ := hblk
  exact (Array.getElem?_eq_some_iff.1 ho).1

set_option maxRecDepth 100000 in
theorem lifted (os : Os) (started : os.Started) (H : Type) (enc : TypeId × Value → H) :
    ReturnsInHanded {} Trym.checked os 3 .any (Rows.fnNodeRightChainCountsSpec.pre6 enc Trym.prog Trym.f3 Rows.fnNodeRightChainCountsRow.domain false) (Rows.fnNodeRightChainCountsSpec.post enc Trym.prog Trym.f3 false true false false) := by
  refine returnsInHanded_of_change (C := Trym.checked) own started (by kernel_rfl) Trym.func3
    (ChangeSpec.witness6 (enc := enc) (C := Trym.checked) false ⟨#[], #[.slice none 0 0, .slice none 0 0], []⟩ 8 (by kernel_rfl) (by kernel_rfl) (by kernel_rfl) (by kernel_rfl)) ?_
  intro W base args ds gs before hval0 hW hcnd _
  have hval : ∀ (j : Nat) t v, Trym.f3.params[j]? = some t → args[j]? = some v → Value.okWide Trym.prog W .any base t v := hval0
  have hW' := hW
  obtain ⟨p, q, hA0, hV, rfl, hfz, hnd⟩ := hW
  have hA : DataW.TrodAll enc Trym.prog W 0 (fun _ => true) true Trym.f3.params.toList args.toList ds p := hA0
  rw [Trym.params3] at hA hval
  obtain ⟨v0, vs0, d0, ds0, p0, q0, hargs, rfl, rfl, h0, r0⟩ := trodAll_cons hA
  obtain ⟨v1, vs1, d1, ds1, p1, q1, rfl, rfl, rfl, h1, r1⟩ := trodAll_cons r0
  obtain ⟨rfl, rfl, rfl⟩ := trodAll_nil r1
  obtain rfl : args = #[v0, v1] := by cases args; simp_all
  obtain ⟨rfl, rfl⟩ := trodVars_none hV
  obtain ⟨a0, len0, cap0, rfl⟩ := okWide_slice Trym.underlying22 (hval 0 22 v0 rfl rfl)
  have k0 := h0
  have lt0 : ∀ x ∈ p0, x.block < W.heap.size := by obtain ⟨m, hm⟩ := k0; exact DataW.trod_lt m _ _ _ hm
  obtain ⟨S, hs, hl0, hnil0, w0⟩ : ∃ S : Nat → ByteArray, (∀ i, (S i).size ≤ 9223372036854775807) ∧ len0 ≤ 9223372036854775807 ∧ (a0 = none → len0 = 0 ∧ cap0 = 0) ∧ RowAt W a0 len0 (fun i => .string (S i)) := by
    obtain ⟨fuel, hf⟩ := h0
    rcases open_strings Trym.underlying22 Trym.underlying9 (by kernel_rfl) hf with ⟨hcs, _⟩ | ⟨x, l, c, ss, hcs, _, hl, hm, hz, _, hcell, hwz⟩
    · simp [Value.cells] at hcs
      obtain ⟨rfl, rfl, rfl⟩ := hcs
      exact ⟨fun _ => ByteArray.empty, fun _ => by simp, by omega, fun _ => ⟨rfl, rfl⟩, fun i hi => absurd hi (by omega)⟩
    · simp [Value.cells] at hcs
      obtain ⟨rfl, rfl, rfl⟩ := hcs
      simp only [if_true] at hz
      unfold maxLen at hm
      refine ⟨fun i => ss.getD i ByteArray.empty, fun i => ?_, by omega, (by simp), rowAt_of fun i hi => hcell i (by omega)⟩
      show (ss.getD i ByteArray.empty).size ≤ _
      rw [List.getD_eq_getElem?_getD]
      cases hg : ss[i]? with
      | none => simp
      | some s => exact hwz s (List.mem_of_getElem? hg)
  obtain ⟨a1, len1, cap1, rfl⟩ := okWide_slice Trym.underlying23 (hval 1 23 v1 rfl rfl)
  have k1 := h1
  have lt1 : ∀ x ∈ p1, x.block < W.heap.size := by obtain ⟨m, hm⟩ := k1; exact DataW.trod_lt m _ _ _ hm
  obtain ⟨Z, hl1, hnil1, w1⟩ : ∃ Z : Nat → Int, len1 ≤ 9223372036854775807 ∧ (a1 = none → len1 = 0 ∧ cap1 = 0) ∧ RowAt W a1 len1 (fun i => .int .u64 (Z i)) := by
    obtain ⟨fuel, hf⟩ := h1
    rcases open_ints Trym.underlying23 Trym.underlying30 (by kernel_rfl) hf with ⟨hcs, _⟩ | ⟨x, l, c, zs, hcs, _, hl, hm, hz, _, hcell, hwz⟩
    · simp [Value.cells] at hcs
      obtain ⟨rfl, rfl, rfl⟩ := hcs
      exact ⟨fun _ => 0, by omega, fun _ => ⟨rfl, rfl⟩, fun i hi => absurd hi (by omega)⟩
    · simp [Value.cells] at hcs
      obtain ⟨rfl, rfl, rfl⟩ := hcs
      simp only [if_true] at hz
      unfold maxLen at hm
      exact ⟨fun i => zs.getD i 0, by omega, (by simp), rowAt_of fun i hi => hcell i (by omega)⟩
  clear hA0 hval0
  refine (law_walk a0 len0 cap0 S a1 len1 cap1 Z W hs hl0 hl1 hnil0 hnil1 w0 w1).mono fun e W' ⟨he, bel⟩ => ?_
  subst he
  exact ⟨_, rfl, _, _, _, [], _, [], hW', trodAll_mk1 (shut_bool Trym.underlying4 _), trodAll_mk2 (Below.trod laidOut (by kernel_rfl) (of_decide_eq_true (by kernel_rfl)) k0 bel lt0) (Below.trod laidOut (by kernel_rfl) (of_decide_eq_true (by kernel_rfl)) k1 bel lt1), rfl, bel.frame _, fun h => by cases h⟩

/-- THE STATEMENT -/
theorem fnNodeRightChainCounts_proved : Rows.FnNodeRightChainCountsSaid :=
  OpenClaim.holds_of_wide 3 Trym.f3 rfl rfl rfl rfl rfl rfl rfl ⟨rfl, rfl, rfl, rfl, rfl⟩ rfl rfl rfl rfl rfl (by kernel_rfl) Trym.func3 fnNodeRightChainCounts_closed
    (of_decide_eq_true (by kernel_rfl)) (by unfold Func.isWrapper; first | (rw [if_pos (by decide +kernel)]; kernel_rfl) | (rw [if_neg (by decide +kernel)]; exact ⟨rfl, rfl⟩))
    (fun os started H enc _ => lifted os started H enc)
end Go.Proofs.Qxb6605799aMods
