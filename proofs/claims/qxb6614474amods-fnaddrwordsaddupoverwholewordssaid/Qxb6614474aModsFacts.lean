/-
  The closed facts of the row. The dump's head line is a long string: the kernel lays its signs open at a great cost of memory, so they are laid once, as numbers, and the facts that read the head go through that one equation.
-/
import Derived.Test.Qxb6614474aModsRows
import Derived.JoinedOf
namespace Go.Proofs.Qxb6614474aMods

/-- The signs of the dump's head line. -/
def headSigns : List Char := [104, 97, 114, 110, 101, 115, 115, 32, 56, 102, 53, 48, 50, 100, 97, 100, 57, 98, 101, 98, 53, 101, 97, 50, 57, 52, 98, 55, 49, 51, 49, 98, 49, 57, 98, 99, 48, 55, 51, 97, 52, 99, 48, 53, 48, 54, 57, 49, 99, 57, 48, 53, 102, 51, 102, 52, 99, 99, 53, 102, 101, 53, 54, 48, 56, 99, 52, 56, 101, 56, 50, 49, 32, 112, 117, 98, 108, 105, 99, 115, 117, 109, 115, 32, 99, 117, 116, 32, 97, 116, 32, 101, 120, 97, 109, 112, 108, 101, 46, 99, 111, 109, 47, 102, 97, 105, 114, 108, 101, 97, 100, 47, 102, 97, 105, 114, 108, 101, 97, 100, 47, 122, 122, 108, 97, 119, 115, 95, 105, 110, 116, 101, 114, 110, 97, 108, 95, 110, 102, 116, 95, 98, 49, 46, 70, 110, 65, 100, 100, 114, 87, 111, 114, 100, 115, 65, 100, 100, 85, 112, 79, 118, 101, 114, 87, 104, 111, 108, 101, 87, 111, 114, 100, 115, 32, 101, 120, 97, 109, 112, 108, 101, 46, 99, 111, 109, 47, 102, 97, 105, 114, 108, 101, 97, 100, 47, 102, 97, 105, 114, 108, 101, 97, 100, 47, 122, 122, 108, 97, 119, 115, 95, 105, 110, 116, 101, 114, 110, 97, 108, 95, 110, 102, 116, 95, 98, 49, 46, 70, 110, 65, 100, 100, 114, 87, 111, 114, 100, 115, 79, 110, 101, 87, 111, 114, 100, 77, 111, 114, 101, 79, 110, 101, 82, 101, 103, 105, 115, 116, 101, 114, 77, 111, 114, 101].map Char.ofNat

theorem head_is : Trym.prog.initOrder = String.ofList headSigns := by kernel_rfl
theorem head_signs : Trym.prog.initOrder.toList = headSigns := by rw [head_is, String.toList_ofList]

/-- The words behind the main word: the first is the lift, then the cut. -/
def liftWord : List Char := "publicsums".toList
def restWords : List (List Char) := (behindMainWord (wordsSigns headSigns)).tail
theorem head_words : behindMainWord (wordsSigns headSigns) = liftWord :: restWords := by kernel_rfl
theorem strip_one : (stripLifts liftWords (liftWord :: restWords)).1 = ["publicsums"] := by kernel_rfl
theorem strip_two : ((stripLifts liftWords (liftWord :: restWords)).2.head? == some "cut".toList) = true := by kernel_rfl
theorem laysLater_is : Trym.prog.laysLater = false := by kernel_rfl
theorem bearsReflect_is : Trym.prog.bearsReflect = false := by kernel_rfl
theorem doorFits_is : Trym.prog.doorFits ["publicsums"] = true := by kernel_rfl
theorem word_not_gc : (liftWord == "gc".toList) = false := by kernel_rfl
theorem word_not_spec : (liftWord == "spec".toList) = false := by kernel_rfl
theorem word_not_cut : (liftWord == "cut".toList) = false := by kernel_rfl
theorem word_not_finals : (liftWord == "finals".toList) = false := by kernel_rfl
theorem word_not_carried : (liftWord == "carried".toList) = false := by kernel_rfl
/-- Of whatever program: a head whose first word is a lift. (Over a program that is a variable nothing can be run.) -/
theorem mayEnter_lifted (P : Program) (c : List Char) (rest : List (List Char)) (h : behindMainWord (wordsSigns P.initOrder.toList) = c :: rest)
    (h1 : (stripLifts liftWords (c :: rest)).1 = ["publicsums"]) (h2 : ((stripLifts liftWords (c :: rest)).2.head? == some "cut".toList) = true)
    (h3 : P.laysLater = false) (h4 : P.bearsReflect = false) (h5 : P.doorFits ["publicsums"] = true) : P.mayEnter = true := by
  unfold Program.mayEnter
  rw [h]
  dsimp only
  rw [h1, h2, h3, h4, h5]
  simp
theorem make_lifted (P : Program) (c : List Char) (rest : List (List Char)) (h : behindMainWord (wordsSigns P.initOrder.toList) = c :: rest)
    (h1 : (c == "gc".toList) = false) (h2 : (c == "spec".toList) = false) (h3 : (c == "cut".toList) = false) (h4 : (c == "finals".toList) = false) (h5 : (c == "carried".toList) = false)
    (hl : P.headLifts = ["publicsums"]) : P.make = some (.lifted ["publicsums"]) := by
  unfold Program.make
  rw [h]
  dsimp only
  rw [h1, h2, h3, h4, h5, hl]
  simp
theorem mayEnter_is : Trym.prog.mayEnter = true :=
  mayEnter_lifted Trym.prog liftWord restWords (by rw [head_signs, head_words]) strip_one strip_two laysLater_is bearsReflect_is doorFits_is
theorem headLifts_is : Trym.prog.headLifts = ["publicsums"] := by
  unfold Program.headLifts
  rw [head_signs, head_words]
  dsimp only
  rw [strip_two, strip_one]
  kernel_rfl
theorem liftsFinal_is : Trym.prog.liftsFinal = false := by
  unfold Program.liftsFinal
  rw [head_signs, headLifts_is]
  kernel_rfl
theorem make_is : Trym.prog.make = some (.lifted ["publicsums"]) :=
  make_lifted Trym.prog liftWord restWords (by rw [head_signs, head_words]) word_not_gc word_not_spec word_not_cut word_not_finals word_not_carried headLifts_is

theorem fnAddrWordsAddUpOverWholeWords_closed : joinedFacts Trym.prog 3 Trym.f3 Rows.fnAddrWordsAddUpOverWholeWordsSpec Rows.fnAddrWordsAddUpOverWholeWordsRow = true := by
  unfold joinedFacts
  rw [mayEnter_is, liftsFinal_is, make_is]
  kernel_rfl

theorem fnAddrWordsOneWordMoreOneRegisterMore_closed : joinedFacts Trym.prog 4 Trym.f4 Rows.fnAddrWordsOneWordMoreOneRegisterMoreSpec Rows.fnAddrWordsOneWordMoreOneRegisterMoreRow = true := by
  unfold joinedFacts
  rw [mayEnter_is, liftsFinal_is, make_is]
  kernel_rfl

end Go.Proofs.Qxb6614474aMods
