/-
  The walk of the law FnZeroTalliesOwnTheirCounts (3).
-/
import Derived.Test.Qxb6608750aModsWalk
namespace Go.Proofs.Qxb6608750aMods
open Go.RowKit
attribute [local go_sem] run_store_f64

theorem rowIs_below {w w' : World} {b n : Nat} {t : TypeId} {f : Nat → Value} (h : w.rowIs b t n f) (hb : Below w.heap.size w w') : w'.rowIs b t n f := h.of_block (hb.block _ h.lt)

set_option maxHeartbeats 1000000 in
theorem law_in (n k : Nat) (w : World) (h1 : 1 ≤ n) (h2 : n ≤ 65536) (hk : k < n) :
    Calls Trym.prog 3 #[.int .i64 n, .int .i64 k] w fun e w' => e = .returned (.bool true) ∧ Below w.heap.size w w' := by
  go_enter Trym.func3, Trym.ntmps3
  go_wp2_with fail
  refine (zzzero_any n _ h1 h2).mono ?_
  rintro e w1 ⟨g1, rfl, hg1, hrow1, hbel1⟩
  obtain ⟨hc1, hf1⟩ := bcell hbel1
  have s0 : w1.cell? ⟨w.heap.size, 0, none⟩ = some (.string ⟨#[]⟩) := by rw [hc1 _ _ (by simp)]; simp [go_sem]
  have s1 : w1.cell? ⟨w.heap.size, 1, none⟩ = some (.int .i64 n) := by rw [hc1 _ _ (by simp)]; simp [go_sem]
  have s2 : w1.cell? ⟨w.heap.size, 2, none⟩ = some (.float .f64 0) := by rw [hc1 _ _ (by simp)]; simp [go_sem]
  have s3 : w1.cell? ⟨w.heap.size, 3, none⟩ = some (.float .f64 0) := by rw [hc1 _ _ (by simp)]; simp [go_sem]
  have hz1 : w.heap.size < w1.heap.size := by have := hbel1.size; simp at this; omega
  have hg1' : w.heap.size + 1 ≤ g1 := by simpa using hg1
  have HB1 : Hid (Below w.heap.size w w1) := ((Below.refl _ _).alloc (by simp) _).trans (hbel1.mono (by simp))
  have HR1 : Hid (w1.rowIs g1 3 n (fun _ => .int .i64 0)) := hrow1
  clear hc1 hf1 hbel1 hg1 hrow1
  unfold tally
  go_wp2_with fail
  refine (zzzero_any n _ h1 h2).mono ?_
  rintro e w2 ⟨g2, rfl, hg2, hrow2, hbel2⟩
  obtain ⟨hc2, hf2⟩ := bcell hbel2
  have q1 : g1 < w1.heap.size := HR1.out.lt
  have t0 : w2.cell? ⟨w.heap.size, 0, none⟩ = some (.string ⟨#[]⟩) := by rw [hc2 _ _ (by simp; omega)]; simp [go_sem, hz1, s0]
  have t1 : w2.cell? ⟨w.heap.size, 1, none⟩ = some (.int .i64 n) := by rw [hc2 _ _ (by simp; omega)]; simp [go_sem, hz1, s1]
  have t2 : w2.cell? ⟨w.heap.size, 2, none⟩ = some (.float .f64 0) := by rw [hc2 _ _ (by simp; omega)]; simp [go_sem, hz1, s2]
  have t3 : w2.cell? ⟨w.heap.size, 3, none⟩ = some (.float .f64 0) := by rw [hc2 _ _ (by simp; omega)]; simp [go_sem, hz1, s3]
  have a0 : w2.cell? ⟨w1.heap.size, 0, none⟩ = some (.float .f64 0) := by rw [hc2 _ _ (by simp)]; simp [go_sem]
  have a1 : w2.cell? ⟨w1.heap.size, 1, none⟩ = some (.int .i64 0) := by rw [hc2 _ _ (by simp)]; simp [go_sem]
  have a2 : w2.cell? ⟨w1.heap.size, 2, none⟩ = some (.slice (some ⟨g1, 0, none⟩) n n) := by rw [hc2 _ _ (by simp)]; simp [go_sem]
  have f0 : w2.frozen? ⟨w1.heap.size, 0, none⟩ = false := by rw [hf2 _ _ (by simp)]; simp [go_sem]
  have f1 : w2.frozen? ⟨w1.heap.size, 1, none⟩ = false := by rw [hf2 _ _ (by simp)]; simp [go_sem]
  have hr1 : w2.rowIs g1 3 n (fun _ => .int .i64 0) := rowIs_below (HR1.out.alloc _) hbel2
  have hz2 : w1.heap.size < w2.heap.size := by have := hbel2.size; simp at this; omega
  have hz2' : w.heap.size < w2.heap.size := by omega
  have hg2' : w1.heap.size < g2 := by simp at hg2; omega
  have q1' : g1 < w2.heap.size := by omega
  have c1 := hr1.cell hk
  have e1 := hr1.frozen k
  have HB2 : Hid (Below w.heap.size w w2) := (HB1.out.alloc HB1.out.size _).trans (hbel2.mono (by simp; omega))
  have HR2 : Hid (w2.rowIs g1 3 n (fun _ => .int .i64 0) ∧ w2.rowIs g2 3 n (fun _ => .int .i64 0)) := ⟨hr1, hrow2⟩
  clear hc2 hf2 hbel2 hg2 hrow2 hr1 HB1 HR1 s0 s1 s2 s3
  unfold tally
  go_wp2_with fail
  refine (zzzero_any n _ h1 h2).mono ?_
  rintro e w3 ⟨g3, rfl, hg3, hrow3, hbel3⟩
  obtain ⟨hc3, hf3⟩ := bcell hbel3
  have u2 : w3.cell? ⟨w1.heap.size, 2, none⟩ = some (.slice (some ⟨g1, 0, none⟩) n n) := by
    rw [hc3 _ _ (by simp; omega)]; simp [go_sem, hz2, a2]
  have v1 : w3.cell? ⟨g1, k, none⟩ = some (.int .i64 1) := by
    rw [hc3 _ _ (by simp; omega)]; simp [go_sem, q1', c1]
  have b0 : w3.cell? ⟨w2.heap.size, 0, none⟩ = some (.float .f64 0) := by rw [hc3 _ _ (by simp)]; simp [go_sem]
  have b1 : w3.cell? ⟨w2.heap.size, 1, none⟩ = some (.int .i64 0) := by rw [hc3 _ _ (by simp)]; simp [go_sem]
  have b2 : w3.cell? ⟨w2.heap.size, 2, none⟩ = some (.slice (some ⟨g2, 0, none⟩) n n) := by rw [hc3 _ _ (by simp)]; simp [go_sem]
  have hr2 : w3.rowIs g2 3 n (fun _ => .int .i64 0) := rowIs_below ((((HR2.out.2.setOther (by simp; omega) _).setOther (by simp; omega) _).setOther (by simp; omega) _).alloc _) hbel3
  have hz3 : w2.heap.size < w3.heap.size := by have := hbel3.size; simp at this; omega
  have hz3' : w1.heap.size < w3.heap.size := by omega
  have q3 : g1 < w3.heap.size := by omega
  have HB3 : Hid (Below w.heap.size w w3) := ((((HB2.out.setCell (by simp; omega) _).setCell (by simp; omega) _).setCell (by simp; omega) _).alloc (by simp; omega) _).trans (hbel3.mono (by simp; omega))
  have HR3 : Hid (w3.rowIs g2 3 n (fun _ => .int .i64 0) ∧ w3.rowIs g3 3 n (fun _ => .int .i64 0)) := ⟨hr2, hrow3⟩
  clear hc3 hf3 hbel3 hg3 hrow3 hr2 HB2 HR2 t0 t1 t2 t3 a0 a1 a2 f0 f1 c1 e1
  unfold tally
  go_wp2_with fail
  refine (empty_any g2 n _ h1 h2 (HR3.out.1.alloc _)).mono ?_
  rintro e w4 ⟨rfl, rfl⟩
  go_wp2_with fail
  refine (empty_any g3 n _ h1 h2 ((HR3.out.2.alloc _).alloc _)).mono ?_
  rintro e w4 ⟨rfl, rfl⟩
  go_wp2
  go_ret
  exact ⟨rfl, ((HB3.out.alloc HB3.out.size _).alloc (by have := HB3.out.size; simp; omega) _).alloc (by have := HB3.out.size; simp; omega) _⟩

set_option maxHeartbeats 400000 in
/-- Every input. -/
theorem law_walk (a0 a1 : Int) (w : World) :
    Calls Trym.prog 3 #[.int .i64 a0, .int .i64 a1] w fun e w' => e = .returned (.bool true) ∧ Below w.heap.size w w' := by
  by_cases h0 : a0 < 1
  · go_enter Trym.func3, Trym.ntmps3
    go_wp2
    go_ret
    exact ⟨rfl, Below.refl _ _⟩
  by_cases h1 : 65536 < a0
  · go_enter Trym.func3, Trym.ntmps3
    go_wp2
    go_ret
    exact ⟨rfl, Below.refl _ _⟩
  by_cases h2 : a1 < 0
  · go_enter Trym.func3, Trym.ntmps3
    go_wp2
    go_ret
    exact ⟨rfl, Below.refl _ _⟩
  by_cases h3 : a0 ≤ a1
  · go_enter Trym.func3, Trym.ntmps3
    go_wp2
    go_ret
    exact ⟨rfl, Below.refl _ _⟩
  obtain ⟨n, rfl⟩ := Int.eq_ofNat_of_zero_le (show 0 ≤ a0 by omega)
  obtain ⟨k, rfl⟩ := Int.eq_ofNat_of_zero_le (show 0 ≤ a1 by omega)
  exact law_in n k w (by omega) (by omega) (by omega)
end Go.Proofs.Qxb6608750aMods
