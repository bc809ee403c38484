/-
  The closed facts of the row. The dump's head line is a long string: the kernel lays its signs open at a great cost of memory, so they are laid once, as numbers, and the facts that read the head go through that one equation.
-/
import Derived.Test.Qxb6605799aModsRows
import Derived.JoinedOf
namespace Go.Proofs.Qxb6605799aMods

/-- The signs of the dump's head line. -/
def headSigns : List Char := [104, 97, 114, 110, 101, 115, 115, 32, 102, 50, 98, 50, 55, 57, 53, 99, 52, 50, 98, 57, 52, 98, 98, 101, 50, 102, 52, 98, 98, 97, 99, 51, 56, 57, 52, 102, 97, 53, 102, 49, 57, 50, 100, 56, 54, 50, 51, 57, 98, 51, 101, 99, 52, 53, 102, 50, 100, 50, 99, 54, 53, 48, 48, 51, 97, 56, 56, 97, 57, 55, 99, 55, 32, 112, 117, 98, 108, 105, 99, 115, 117, 109, 115, 32, 99, 117, 116, 32, 97, 116, 32, 101, 120, 97, 109, 112, 108, 101, 46, 99, 111, 109, 47, 116, 97, 108, 116, 104, 121, 98, 105, 117, 115, 47, 116, 97, 108, 116, 104, 121, 98, 105, 117, 115, 47, 122, 122, 108, 97, 119, 115, 95, 112, 107, 103, 95, 114, 101, 108, 97, 121, 95, 98, 49, 46, 70, 110, 78, 111, 100, 101, 82, 105, 103, 104, 116, 67, 104, 97, 105, 110, 67, 111, 117, 110, 116, 115, 32, 101, 120, 97, 109, 112, 108, 101, 46, 99, 111, 109, 47, 116, 97, 108, 116, 104, 121, 98, 105, 117, 115, 47, 116, 97, 108, 116, 104, 121, 98, 105, 117, 115, 47, 122, 122, 108, 97, 119, 115, 95, 112, 107, 103, 95, 114, 101, 108, 97, 121, 95, 98, 49, 46, 70, 110, 78, 111, 100, 101, 74, 111, 105, 110, 115, 65, 114, 111, 117, 110, 100, 80, 105, 118, 111, 116, 32, 101, 120, 97, 109, 112, 108, 101, 46, 99, 111, 109, 47, 116, 97, 108, 116, 104, 121, 98, 105, 117, 115, 47, 116, 97, 108, 116, 104, 121, 98, 105, 117, 115, 47, 122, 122, 108, 97, 119, 115, 95, 112, 107, 103, 95, 114, 101, 108, 97, 121, 95, 98, 49, 46, 70, 110, 76, 101, 110, 67, 111, 117, 110, 116, 115, 68, 105, 115, 116, 105, 110, 99, 116, 78, 97, 109, 101, 115, 32, 101, 120, 97, 109, 112, 108, 101, 46, 99, 111, 109, 47, 116, 97, 108, 116, 104, 121, 98, 105, 117, 115, 47, 116, 97, 108, 116, 104, 121, 98, 105, 117, 115, 47, 122, 122, 108, 97, 119, 115, 95, 112, 107, 103, 95, 114, 101, 108, 97, 121, 95, 98, 49, 46, 70, 110, 76, 101, 110, 65, 102, 116, 101, 114, 73, 110, 115, 101, 114, 116, 115, 65, 110, 100, 82, 101, 109, 111, 118, 97, 108, 115, 32, 101, 120, 97, 109, 112, 108, 101, 46, 99, 111, 109, 47, 116, 97, 108, 116, 104, 121, 98, 105, 117, 115, 47, 116, 97, 108, 116, 104, 121, 98, 105, 117, 115, 47, 122, 122, 108, 97, 119, 115, 95, 112, 107, 103, 95, 114, 101, 108, 97, 121, 95, 98, 49, 46, 70, 110, 70, 105, 108, 116, 101, 114, 75, 101, 101, 112, 115, 69, 120, 97, 99, 116, 108, 121, 84, 104, 101, 77, 97, 114, 107, 101, 100, 32, 101, 120, 97, 109, 112, 108, 101, 46, 99, 111, 109, 47, 116, 97, 108, 116, 104, 121, 98, 105, 117, 115, 47, 116, 97, 108, 116, 104, 121, 98, 105, 117, 115, 47, 122, 122, 108, 97, 119, 115, 95, 112, 107, 103, 95, 114, 101, 108, 97, 121, 95, 98, 49, 46, 70, 110, 70, 105, 108, 116, 101, 114, 67, 97, 108, 108, 115, 73, 110, 79, 114, 100, 101, 114, 65, 110, 100, 83, 104, 97, 114, 101, 115, 87, 104, 101, 110, 65, 108, 108, 75, 101, 112, 116, 32, 101, 120, 97, 109, 112, 108, 101, 46, 99, 111, 109, 47, 116, 97, 108, 116, 104, 121, 98, 105, 117, 115, 47, 116, 97, 108, 116, 104, 121, 98, 105, 117, 115, 47, 122, 122, 108, 97, 119, 115, 95, 112, 107, 103, 95, 114, 101, 108, 97, 121, 95, 98, 49, 46, 70, 110, 65, 110, 115, 119, 101, 114, 105, 110, 103, 67, 97, 115, 101, 84, 97, 98, 108, 101, 32, 101, 120, 97, 109, 112, 108, 101, 46, 99, 111, 109, 47, 116, 97, 108, 116, 104, 121, 98, 105, 117, 115, 47, 116, 97, 108, 116, 104, 121, 98, 105, 117, 115, 47, 122, 122, 108, 97, 119, 115, 95, 112, 107, 103, 95, 114, 101, 108, 97, 121, 95, 98, 49, 46, 70, 110, 65, 110, 115, 119, 101, 114, 105, 110, 103, 79, 110, 65, 115, 107, 115, 71, 114, 111, 119, 110, 70, 114, 111, 109, 87, 97, 115].map Char.ofNat

theorem head_is : Trym.prog.initOrder = String.ofList headSigns := by kernel_rfl
theorem head_signs : Trym.prog.initOrder.toList = headSigns := by rw [head_is, String.toList_ofList]

/-- The words behind the main word: the first is the lift, then the cut. -/
def liftWord : List Char := "publicsums".toList
def restWords : List (List Char) := (behindMainWord (wordsSigns headSigns)).tail
theorem head_words : behindMainWord (wordsSigns headSigns) = liftWord :: restWords := by kernel_rfl
theorem strip_one : (stripLifts liftWords (liftWord :: restWords)).1 = ["publicsums"] := by kernel_rfl
theorem strip_two : ((stripLifts liftWords (liftWord :: restWords)).2.head? == some "cut".toList) = true := by kernel_rfl
theorem laysLater_is : Trym.prog.laysLater = false := by kernel_rfl
theorem bearsReflect_is : Trym.prog.bearsReflect = false := by kernel_rfl
theorem doorFits_is : Trym.prog.doorFits ["publicsums"] = true := by kernel_rfl
theorem word_not_gc : (liftWord == "gc".toList) = false := by kernel_rfl
theorem word_not_spec : (liftWord == "spec".toList) = false := by kernel_rfl
theorem word_not_cut : (liftWord == "cut".toList) = false := by kernel_rfl
theorem word_not_finals : (liftWord == "finals".toList) = false := by kernel_rfl
theorem word_not_carried : (liftWord == "carried".toList) = false := by kernel_rfl
/-- Of whatever program: a head whose first word is a lift. (Over a program that is a variable nothing can be run.) -/
theorem mayEnter_lifted (P : Program) (c : List Char) (rest : List (List Char)) (h : behindMainWord (wordsSigns P.initOrder.toList) = c :: rest)
    (h1 : (stripLifts liftWords (c :: rest)).1 = ["publicsums"]) (h2 : ((stripLifts liftWords (c :: rest)).2.head? == some "cut".toList) = true)
    (h3 : P.laysLater = false) (h4 : P.bearsReflect = false) (h5 : P.doorFits ["publicsums"] = true) : P.mayEnter = true := by
  unfold Program.mayEnter
  rw [h]
  dsimp only
  rw [h1, h2, h3, h4, h5]
  simp
theorem make_lifted (P : Program) (c : List Char) (rest : List (List Char)) (h : behindMainWord (wordsSigns P.initOrder.toList) = c :: rest)
    (h1 : (c == "gc".toList) = false) (h2 : (c == "spec".toList) = false) (h3 : (c == "cut".toList) = false) (h4 : (c == "finals".toList) = false) (h5 : (c == "carried".toList) = false)
    (hl : P.headLifts = ["publicsums"]) : P.make = some (.lifted ["publicsums"]) := by
  unfold Program.make
  rw [h]
  dsimp only
  rw [h1, h2, h3, h4, h5, hl]
  simp
theorem mayEnter_is : Trym.prog.mayEnter = true :=
  mayEnter_lifted Trym.prog liftWord restWords (by rw [head_signs, head_words]) strip_one strip_two laysLater_is bearsReflect_is doorFits_is
theorem headLifts_is : Trym.prog.headLifts = ["publicsums"] := by
  unfold Program.headLifts
  rw [head_signs, head_words]
  dsimp only
  rw [strip_two, strip_one]
  kernel_rfl
theorem liftsFinal_is : Trym.prog.liftsFinal = false := by
  unfold Program.liftsFinal
  rw [head_signs, headLifts_is]
  kernel_rfl
theorem make_is : Trym.prog.make = some (.lifted ["publicsums"]) :=
  make_lifted Trym.prog liftWord restWords (by rw [head_signs, head_words]) word_not_gc word_not_spec word_not_cut word_not_finals word_not_carried headLifts_is

theorem fnNodeRightChainCounts_closed : joinedFacts Trym.prog 3 Trym.f3 Rows.fnNodeRightChainCountsSpec Rows.fnNodeRightChainCountsRow = true := by
  unfold joinedFacts
  rw [mayEnter_is, liftsFinal_is, make_is]
  kernel_rfl

end Go.Proofs.Qxb6605799aMods
