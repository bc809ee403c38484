/-
  The closed facts of the row. The dump's head line is a long string: the kernel lays its signs open at a great cost of memory, so they are laid once, as numbers, and the facts that read the head go through that one equation.
-/
import Derived.Test.Qxb6608750aModsRows
import Derived.JoinedOf
namespace Go.Proofs.Qxb6608750aMods

/-- The signs of the dump's head line. -/
def headSigns : List Char := [104, 97, 114, 110, 101, 115, 115, 32, 100, 54, 57, 99, 48, 56, 49, 49, 52, 51, 55, 50, 97, 99, 51, 51, 52, 54, 52, 55, 98, 49, 55, 98, 100, 53, 102, 102, 99, 57, 98, 99, 54, 52, 51, 49, 100, 54, 54, 51, 97, 98, 53, 51, 101, 102, 53, 51, 97, 57, 100, 97, 100, 51, 100, 55, 56, 52, 100, 50, 102, 98, 51, 97, 32, 112, 117, 98, 108, 105, 99, 115, 117, 109, 115, 32, 99, 117, 116, 32, 97, 116, 32, 101, 120, 97, 109, 112, 108, 101, 46, 99, 111, 109, 47, 114, 105, 110, 103, 103, 97, 117, 103, 101, 47, 114, 105, 110, 103, 103, 97, 117, 103, 101, 47, 122, 122, 108, 97, 119, 115, 95, 114, 111, 111, 116, 95, 98, 49, 46, 70, 110, 90, 101, 114, 111, 84, 97, 108, 108, 105, 101, 115, 79, 119, 110, 84, 104, 101, 105, 114, 67, 111, 117, 110, 116, 115].map Char.ofNat

theorem head_is : Trym.prog.initOrder = String.ofList headSigns := by kernel_rfl
theorem head_signs : Trym.prog.initOrder.toList = headSigns := by rw [head_is, String.toList_ofList]

/-- The words behind the main word: the first is the lift, then the cut. -/
def liftWord : List Char := "publicsums".toList
def restWords : List (List Char) := (behindMainWord (wordsSigns headSigns)).tail
theorem head_words : behindMainWord (wordsSigns headSigns) = liftWord :: restWords := by kernel_rfl
theorem strip_one : (stripLifts liftWords (liftWord :: restWords)).1 = ["publicsums"] := by kernel_rfl
theorem strip_two : ((stripLifts liftWords (liftWord :: restWords)).2.head? == some "cut".toList) = true := by kernel_rfl
theorem laysLater_is : Trym.prog.laysLater = false := by kernel_rfl
theorem bearsReflect_is : Trym.prog.bearsReflect = false := by kernel_rfl
theorem doorFits_is : Trym.prog.doorFits ["publicsums"] = true := by kernel_rfl
theorem word_not_gc : (liftWord == "gc".toList) = false := by kernel_rfl
theorem word_not_spec : (liftWord == "spec".toList) = false := by kernel_rfl
theorem word_not_cut : (liftWord == "cut".toList) = false := by kernel_rfl
theorem word_not_finals : (liftWord == "finals".toList) = false := by kernel_rfl
theorem word_not_carried : (liftWord == "carried".toList) = false := by kernel_rfl
/-- Of whatever program: a head whose first word is a lift. (Over a program that is a variable nothing can be run.) -/
theorem mayEnter_lifted (P : Program) (c : List Char) (rest : List (List Char)) (h : behindMainWord (wordsSigns P.initOrder.toList) = c :: rest)
    (h1 : (stripLifts liftWords (c :: rest)).1 = ["publicsums"]) (h2 : ((stripLifts liftWords (c :: rest)).2.head? == some "cut".toList) = true)
    (h3 : P.laysLater = false) (h4 : P.bearsReflect = false) (h5 : P.doorFits ["publicsums"] = true) : P.mayEnter = true := by
  unfold Program.mayEnter
  rw [h]
  dsimp only
  rw [h1, h2, h3, h4, h5]
  simp
theorem make_lifted (P : Program) (c : List Char) (rest : List (List Char)) (h : behindMainWord (wordsSigns P.initOrder.toList) = c :: rest)
    (h1 : (c == "gc".toList) = false) (h2 : (c == "spec".toList) = false) (h3 : (c == "cut".toList) = false) (h4 : (c == "finals".toList) = false) (h5 : (c == "carried".toList) = false)
    (hl : P.headLifts = ["publicsums"]) : P.make = some (.lifted ["publicsums"]) := by
  unfold Program.make
  rw [h]
  dsimp only
  rw [h1, h2, h3, h4, h5, hl]
  simp
theorem mayEnter_is : Trym.prog.mayEnter = true :=
  mayEnter_lifted Trym.prog liftWord restWords (by rw [head_signs, head_words]) strip_one strip_two laysLater_is bearsReflect_is doorFits_is
theorem headLifts_is : Trym.prog.headLifts = ["publicsums"] := by
  unfold Program.headLifts
  rw [head_signs, head_words]
  dsimp only
  rw [strip_two, strip_one]
  kernel_rfl
theorem liftsFinal_is : Trym.prog.liftsFinal = false := by
  unfold Program.liftsFinal
  rw [head_signs, headLifts_is]
  kernel_rfl
theorem make_is : Trym.prog.make = some (.lifted ["publicsums"]) :=
  make_lifted Trym.prog liftWord restWords (by rw [head_signs, head_words]) word_not_gc word_not_spec word_not_cut word_not_finals word_not_carried headLifts_is

theorem fnZeroTalliesOwnTheirCounts_closed : joinedFacts Trym.prog 3 Trym.f3 Rows.fnZeroTalliesOwnTheirCountsSpec Rows.fnZeroTalliesOwnTheirCountsRow = true := by
  unfold joinedFacts
  rw [mayEnter_is, liftsFinal_is, make_is]
  kernel_rfl

end Go.Proofs.Qxb6608750aMods
