/-
  The walks: wordsOf (5) over ZZnewFamily (7), ZZaddrWords (6) and addrWords (8), and the two laws (3, 4).
-/
import Derived.Test.Qxb6614474aModsRows
import Derived.WalkKit
import Derived.WalkSpells
import Derived.WalkLawsBesides
namespace Go.Proofs.Qxb6614474aMods
open Go.RowKit

set_option maxHeartbeats 1000000 in
/-- wordsOf: a quarter of the length; one new block (the family), nothing else. -/
theorem wordsOf_any (l : Int) (w : World) (h0 : 0 ≤ l) (h1 : l ≤ 4294967295) :
    Calls Trym.prog 5 #[.int .i64 l] w fun e w' => e = .returned (.int .u32 (l / 4)) ∧ ∃ c : Array Value, w' = w.alloc (.cells c 43) := by
  go_enter Trym.func5, Trym.ntmps5
  go_wp2
  go_ret
  exact ⟨rfl, _, rfl⟩

set_option maxHeartbeats 400000 in
/-- Within the law's domain. -/
theorem addUp_in (a0 a1 : Int) (w : World) (h0 : 0 ≤ a0) (h1 : a0 ≤ 1073741823) (h2 : 0 ≤ a1) (h3 : a1 ≤ 1073741823) (h4 : a0 % 4 = 0) :
    Calls Trym.prog 3 #[.int .i64 a0, .int .i64 a1] w fun e w' => e = .returned (.bool true) ∧ Grown w w' := by
  have h4' : (a0 % 4 != 0) = false := by rw [bne_eq_false_iff_eq]; exact h4
  have H : Hid (a0 % 4 = 0) := h4
  clear h4
  have k1 : ((a0 + a1) / 4 == a0 / 4 + a1 / 4) = true := beq_iff_eq.2 (by have := H.out; omega)
  have k2 : (4 * (a0 / 4) == a0) = true := beq_iff_eq.2 (by have := H.out; omega)
  go_enter Trym.func3, Trym.ntmps3
  go_wp2_with fail
  refine (wordsOf_any a0 _ h0 (by omega)).mono ?_
  rintro e w' ⟨rfl, c1, rfl⟩
  go_wp2_with fail
  refine (wordsOf_any a1 _ h2 (by omega)).mono ?_
  rintro e w' ⟨rfl, c2, rfl⟩
  go_wp2_with fail
  refine (wordsOf_any (a0 + a1) _ (by omega) (by omega)).mono ?_
  rintro e w' ⟨rfl, c3, rfl⟩
  go_wp2
  go_ret
  exact ⟨rfl, (((Grown.refl _).alloc _ _).alloc _ _).alloc _ _⟩

set_option maxHeartbeats 400000 in
/-- Every input. -/
theorem addUp_walk (a0 a1 : Int) (w : World) :
    Calls Trym.prog 3 #[.int .i64 a0, .int .i64 a1] w fun e w' => e = .returned (.bool true) ∧ Grown w w' := by
  by_cases h0 : a0 < 0
  · go_enter Trym.func3, Trym.ntmps3
    go_wp2
    go_ret
    exact ⟨rfl, Grown.refl _⟩
  by_cases h1 : 1073741823 < a0
  · go_enter Trym.func3, Trym.ntmps3
    go_wp2
    go_ret
    exact ⟨rfl, Grown.refl _⟩
  by_cases h2 : a1 < 0
  · go_enter Trym.func3, Trym.ntmps3
    go_wp2
    go_ret
    exact ⟨rfl, Grown.refl _⟩
  by_cases h3 : 1073741823 < a1
  · go_enter Trym.func3, Trym.ntmps3
    go_wp2
    go_ret
    exact ⟨rfl, Grown.refl _⟩
  by_cases h4 : a0 % 4 = 0
  · exact addUp_in a0 a1 w (by omega) (by omega) (by omega) (by omega) h4
  · have h4' : (a0 % 4 != 0) = true := by rw [bne_iff_ne]; exact h4
    clear h4
    go_enter Trym.func3, Trym.ntmps3
    go_wp2
    go_ret
    exact ⟨rfl, Grown.refl _⟩

set_option maxHeartbeats 400000 in
/-- Within the law's domain. -/
theorem oneMore_in (a0 a1 : Int) (w : World) (h0 : 0 ≤ a0) (h1 : a0 ≤ 1073741823) (h2 : 0 ≤ a1) (h3 : a1 ≤ 1073741823) :
    Calls Trym.prog 4 #[.int .i64 a0, .int .i64 a1] w fun e w' => e = .returned (.bool true) ∧ Grown w w' := by
  have k1 : ((a0 + 4) / 4 == a0 / 4 + 1) = true := beq_iff_eq.2 (by omega)
  by_cases h4 : a1 < a0
  · go_enter Trym.func4, Trym.ntmps4
    go_wp2_with fail
    refine (wordsOf_any a0 _ h0 (by omega)).mono ?_
    rintro e w' ⟨rfl, c1, rfl⟩
    go_wp2_with fail
    refine (wordsOf_any (a0 + 4) _ (by omega) (by omega)).mono ?_
    rintro e w' ⟨rfl, c2, rfl⟩
    go_wp2_with fail
    refine (wordsOf_any a1 _ h2 (by omega)).mono ?_
    rintro e w' ⟨rfl, c3, rfl⟩
    go_wp2
    go_ret
    exact ⟨rfl, (((Grown.refl _).alloc _ _).alloc _ _).alloc _ _⟩
  · have k2 : a0 / 4 ≤ a1 / 4 := by omega
    go_enter Trym.func4, Trym.ntmps4
    go_wp2_with fail
    refine (wordsOf_any a0 _ h0 (by omega)).mono ?_
    rintro e w' ⟨rfl, c1, rfl⟩
    go_wp2_with fail
    refine (wordsOf_any (a0 + 4) _ (by omega) (by omega)).mono ?_
    rintro e w' ⟨rfl, c2, rfl⟩
    go_wp2_with fail
    refine (wordsOf_any a1 _ h2 (by omega)).mono ?_
    rintro e w' ⟨rfl, c3, rfl⟩
    go_wp2
    go_ret
    exact ⟨rfl, (((Grown.refl _).alloc _ _).alloc _ _).alloc _ _⟩

set_option maxHeartbeats 400000 in
/-- Every input. -/
theorem oneMore_walk (a0 a1 : Int) (w : World) :
    Calls Trym.prog 4 #[.int .i64 a0, .int .i64 a1] w fun e w' => e = .returned (.bool true) ∧ Grown w w' := by
  by_cases h0 : a0 < 0
  · go_enter Trym.func4, Trym.ntmps4
    go_wp2
    go_ret
    exact ⟨rfl, Grown.refl _⟩
  by_cases h1 : 1073741823 < a0
  · go_enter Trym.func4, Trym.ntmps4
    go_wp2
    go_ret
    exact ⟨rfl, Grown.refl _⟩
  by_cases h2 : a1 < 0
  · go_enter Trym.func4, Trym.ntmps4
    go_wp2
    go_ret
    exact ⟨rfl, Grown.refl _⟩
  by_cases h3 : 1073741823 < a1
  · go_enter Trym.func4, Trym.ntmps4
    go_wp2
    go_ret
    exact ⟨rfl, Grown.refl _⟩
  exact oneMore_in a0 a1 w (by omega) (by omega) (by omega) (by omega)
end Go.Proofs.Qxb6614474aMods
