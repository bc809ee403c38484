/-
  The closed facts of the row ('joinedFacts'). Three of them ('mayEnter', 'liftsFinal', 'make') read the words of the dump's head line, a long string. Laid open by the kernel through 'String.toList' that costs gigabytes; through 'String.ofList' (what a string literal is) it costs nothing: so the head's signs are found once, by unification, and the rest goes over a program that is a variable.
-/
import Derived.Test.Qxb6608514aModsRows
import Derived.JoinedOf
namespace Go.Proofs.Qxb6608514aMods

/-- Of a head's signs: behind the main word stands the lift 'publicsums', then the cut. -/
def liftWord : List Char := "publicsums".toList
def headOk (L : List Char) : Bool :=
  ((behindMainWord (wordsSigns L)).head? == some liftWord) && ((stripLifts liftWords (behindMainWord (wordsSigns L))).1 == ["publicsums"]) &&
  ((stripLifts liftWords (behindMainWord (wordsSigns L))).2.head? == some "cut".toList)

set_option maxRecDepth 100000 in
theorem head_list : ∃ L : List Char, Trym.prog.initOrder = String.ofList L ∧ headOk L = true := by
  refine ⟨_, rfl, ?_⟩
  kernel_rfl
theorem head_ok : headOk Trym.prog.initOrder.toList = true := by
  obtain ⟨L, h1, h2⟩ := head_list
  rw [h1, String.toList_ofList]
  exact h2

theorem word_not_gc : (liftWord == "gc".toList) = false := by kernel_rfl
theorem word_not_spec : (liftWord == "spec".toList) = false := by kernel_rfl
theorem word_not_cut : (liftWord == "cut".toList) = false := by kernel_rfl
theorem word_not_finals : (liftWord == "finals".toList) = false := by kernel_rfl
theorem word_not_carried : (liftWord == "carried".toList) = false := by kernel_rfl

/-! Of whatever program (nothing can be run here) -/
theorem cons_of_head {l : List (List Char)} {c : List Char} (h : l.head? = some c) : l = c :: l.tail := by
  cases l with
  | nil => cases h
  | cons a r => simp at h; rw [h]; rfl
theorem headOk_parts {L : List Char} (h : headOk L = true) :
    behindMainWord (wordsSigns L) = liftWord :: (behindMainWord (wordsSigns L)).tail ∧ (stripLifts liftWords (behindMainWord (wordsSigns L))).1 = ["publicsums"] ∧
    ((stripLifts liftWords (behindMainWord (wordsSigns L))).2.head? == some "cut".toList) = true := by
  unfold headOk at h
  rw [Bool.and_eq_true, Bool.and_eq_true] at h
  exact ⟨cons_of_head (beq_iff_eq.1 h.1.1), beq_iff_eq.1 h.1.2, h.2⟩
theorem headLifts_of {P : Program} (h : headOk P.initOrder.toList = true) : P.headLifts = ["publicsums"] := by
  obtain ⟨_, h2, h3⟩ := headOk_parts h
  unfold Program.headLifts
  dsimp only
  rw [h3, h2]
  rfl
theorem liftsFinal_of {P : Program} (h : headOk P.initOrder.toList = true) : P.liftsFinal = false := by
  obtain ⟨h1, _, _⟩ := headOk_parts h
  unfold Program.liftsFinal
  dsimp only
  rw [headLifts_of h, h1, List.head?_cons]
  have e : (some liftWord == some "carried".toList) = false := word_not_carried
  rw [e]
  rfl
theorem make_of {P : Program} (h : headOk P.initOrder.toList = true) : P.make = some (.lifted ["publicsums"]) := by
  obtain ⟨h1, _, _⟩ := headOk_parts h
  unfold Program.make
  rw [h1]
  dsimp only
  rw [word_not_gc, word_not_spec, word_not_cut, word_not_finals, word_not_carried, headLifts_of h]
  simp
theorem mayEnter_of {P : Program} (h : headOk P.initOrder.toList = true) (g1 : P.laysLater = false) (g2 : P.bearsReflect = false) (g3 : P.doorFits ["publicsums"] = true) : P.mayEnter = true := by
  obtain ⟨h1, h2, h3⟩ := headOk_parts h
  rw [h1] at h2 h3
  unfold Program.mayEnter
  rw [h1]
  dsimp only
  rw [h2, h3, g1, g2, g3]
  simp

/-! Of this one -/
theorem liftsFinal_is : Trym.prog.liftsFinal = false := liftsFinal_of head_ok
theorem make_is : Trym.prog.make = some (.lifted ["publicsums"]) := make_of head_ok
theorem laysLater_is : Trym.prog.laysLater = false := by kernel_rfl
theorem bearsReflect_is : Trym.prog.bearsReflect = false := by kernel_rfl
theorem doorFits_is : Trym.prog.doorFits ["publicsums"] = true := by kernel_rfl
theorem mayEnter_is : Trym.prog.mayEnter = true := mayEnter_of head_ok laysLater_is bearsReflect_is doorFits_is

theorem fnTakenBindingMovesHeldToCharged_closed : joinedFacts Trym.prog 4 Trym.f4 Rows.fnTakenBindingMovesHeldToChargedSpec Rows.fnTakenBindingMovesHeldToChargedRow = true := by
  unfold joinedFacts
  rw [mayEnter_is, liftsFinal_is, make_is]
  kernel_rfl

end Go.Proofs.Qxb6608514aMods
