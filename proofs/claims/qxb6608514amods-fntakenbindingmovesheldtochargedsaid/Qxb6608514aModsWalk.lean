/-
  The walks: ZZtaken (9) over (Standing).taken (11), and the law FnTakenBindingMovesHeldToCharged (4).
-/
import Derived.Test.Qxb6608514aModsRows
import Derived.WalkKit
import Derived.WalkSpells
import Derived.WalkLawsBesides
namespace Go.Proofs.Qxb6608514aMods
open Go.RowKit

theorem ret_true {b : Bool} (h : b = true) : Ending.returned (.bool b) = .returned (.bool true) := by rw [h]

set_option maxHeartbeats 400000 in
/-- ZZtaken, within the documented domain: charged less elastic plus held; two new blocks (the struct parameters), nothing else. -/
theorem taken_any (c q e : Int) (w : World) (h1 : 0 ≤ e) (h2 : e ≤ c) (h3 : c ≤ 9223372036854775807) (h4 : 0 ≤ q) (h5 : q ≤ 9223372036854775807) :
    Calls Trym.prog 9 #[.agg #[.int .i64 c, .int .i64 q, .int .i64 e]] w fun r w' =>
      r = .returned (.int .u64 (c - e + q)) ∧ ∃ c1 c2 : Array Value, w' = (w.alloc (.cells c1 36)).alloc (.cells c2 36) := by
  go_enter Trym.func9, Trym.ntmps9
  go_wp2
  go_ret
  exact ⟨rfl, _, _, rfl⟩

set_option maxHeartbeats 400000 in
/-- Within the domain. -/
theorem law_in (a0 a1 a2 a3 : Int) (w : World) (h0 : 0 ≤ a0) (h1 : 0 ≤ a1) (h2 : 0 ≤ a2) (h3 : a2 ≤ a0) (h4 : 0 ≤ a3) (h5 : a3 ≤ a1) (h6 : a3 ≤ 9223372036854775807 - a0) (b1 : a1 ≤ 9223372036854775807) :
    Calls Trym.prog 4 #[.int .i64 a0, .int .i64 a1, .int .i64 a2, .int .i64 a3] w fun e w' => e = .returned (.bool true) ∧ Grown w w' := by
  go_enter Trym.func4, Trym.ntmps4
  go_wp2_with fail
  refine (taken_any a0 a1 a2 _ (by omega) (by omega) (by omega) (by omega) (by omega)).mono ?_
  rintro e w' ⟨rfl, c1, c2, rfl⟩
  go_wp2_with fail
  refine (taken_any (a0 + a3) (a1 - a3) a2 _ (by omega) (by omega) (by omega) (by omega) (by omega)).mono ?_
  rintro e w' ⟨rfl, c3, c4, rfl⟩
  go_wp2_with fail
  refine (taken_any a0 0 a2 _ (by omega) (by omega) (by omega) (by omega) (by omega)).mono ?_
  rintro e w' ⟨rfl, c5, c6, rfl⟩
  go_wp2
  go_ret
  exact ⟨ret_true (beq_iff_eq.2 (by omega)), ((((((Grown.refl _).alloc _ _).alloc _ _).alloc _ _).alloc _ _).alloc _ _).alloc _ _⟩

set_option maxHeartbeats 400000 in
/-- Every input. -/
theorem law_walk (a0 a1 a2 a3 : Int) (b0 : a0 ≤ 9223372036854775807) (b1 : a1 ≤ 9223372036854775807) (w : World) :
    Calls Trym.prog 4 #[.int .i64 a0, .int .i64 a1, .int .i64 a2, .int .i64 a3] w fun e w' => e = .returned (.bool true) ∧ Grown w w' := by
  by_cases h0 : a0 < 0
  · go_enter Trym.func4, Trym.ntmps4
    go_wp2
    go_ret
    exact ⟨rfl, Grown.refl _⟩
  by_cases h1 : a1 < 0
  · go_enter Trym.func4, Trym.ntmps4
    go_wp2
    go_ret
    exact ⟨rfl, Grown.refl _⟩
  by_cases h2 : a2 < 0
  · go_enter Trym.func4, Trym.ntmps4
    go_wp2
    go_ret
    exact ⟨rfl, Grown.refl _⟩
  by_cases h3 : a0 < a2
  · go_enter Trym.func4, Trym.ntmps4
    go_wp2
    go_ret
    exact ⟨rfl, Grown.refl _⟩
  by_cases h4 : a3 < 0
  · go_enter Trym.func4, Trym.ntmps4
    go_wp2
    go_ret
    exact ⟨rfl, Grown.refl _⟩
  by_cases h5 : a1 < a3
  · go_enter Trym.func4, Trym.ntmps4
    go_wp2
    go_ret
    exact ⟨rfl, Grown.refl _⟩
  by_cases h6 : 9223372036854775807 - a0 < a3
  · go_enter Trym.func4, Trym.ntmps4
    go_wp2
    go_ret
    exact ⟨rfl, Grown.refl _⟩
  · exact law_in a0 a1 a2 a3 w (by omega) (by omega) (by omega) (by omega) (by omega) (by omega) (by omega) b1
end Go.Proofs.Qxb6608514aMods
