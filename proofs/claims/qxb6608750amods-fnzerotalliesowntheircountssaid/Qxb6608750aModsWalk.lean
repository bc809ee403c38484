/-
  The walks: ZZzero (4) over (Summary).zero (6), zzEmptyTally (5), and the law FnZeroTalliesOwnTheirCounts (3).
-/
import Derived.Test.Qxb6608750aModsRows
import Derived.WalkKit
import Derived.WalkSpells
import Derived.WalkLawsBesides
import Derived.Deep.OwnRows
namespace Go.Proofs.Qxb6608750aMods
open Go.RowKit

theorem Trym.info3 : (Trym.prog.info? 3).map (fun i => (i.zero, i.size, i.bytes)) = some (some (.int .i64 0), 1, 8) := by kernel_rfl

/-- A store of a float: one cell, as every plain value's. -/
theorem run_store_f64 (w : World) (a : Addr) (m : Mode) (x : Nat) : (store a (.float .f64 x) m).run Trym.prog w = stored Trym.prog w a (.float .f64 x) m := run_store Trym.prog w a _ m rfl
attribute [local go_sem] run_store_f64

/-- The empty tally over the row in block g. -/
def tally (g n : Nat) : Value := .agg #[.float .f64 0, .int .i64 0, .slice (some ⟨g, 0, none⟩) n n]

/-- What zero gives: the empty tally over a row of n zeros that is its own; nothing old has turned. -/
def Zeroed (n : Nat) (w : World) (e : Ending) (w' : World) : Prop :=
  ∃ g, e = .returned (tally g n) ∧ w.heap.size ≤ g ∧ w'.rowIs g 3 n (fun _ => .int .i64 0) ∧ Below w.heap.size w w'

theorem zeroed_mk {n g : Nat} {w w1 : World} (hg : g = w1.heap.size) (h : Below w.heap.size w w1) :
    Zeroed n w (.returned (.agg #[.float .f64 0, .int .i64 0, .slice (some ⟨g, 0, none⟩) n n])) (w1.alloc (.cells (madeCells #[.int .i64 0] n) 3)) := by
  subst hg
  exact ⟨_, rfl, h.size, World.rowIs_made _ _ _ _, h.alloc h.size _⟩

/-- Old cells and old marks behind a call that has made memory: two rules for the walk. -/
theorem bcell {W w1 : World} (hb : Below W.heap.size W w1) : (∀ b o, b < W.heap.size → w1.cell? ⟨b, o, none⟩ = W.cell? ⟨b, o, none⟩) ∧ (∀ b o, b < W.heap.size → w1.frozen? ⟨b, o, none⟩ = W.frozen? ⟨b, o, none⟩) :=
  ⟨fun b o h => hb.cell (p := ⟨b, o, none⟩) h, fun b o h => hb.frozen (p := ⟨b, o, none⟩) h⟩

set_option maxHeartbeats 400000 in
theorem zero_any (n : Nat) (w : World) (h1 : 1 ≤ n) (h2 : n ≤ 65536) :
    Calls Trym.prog 6 #[.agg #[.string ⟨#[]⟩, .int .i64 n, .float .f64 0, .float .f64 0]] w fun e w' => Zeroed n w e w' := by
  have hmk := run_make_row' (P := Trym.prog) 25 3 (.int .i64 0) 8 Trym.underlying25 Trym.info3 rfl .i64 .i64 n (by omega) (by omega)
  go_enter Trym.func6, Trym.ntmps6
  go_wp2
  refine bodyPost_ret (v := .agg #[.float .f64 0, .int .i64 0, .slice (some ⟨w.heap.size + 1 + 1 + 1, 0, none⟩) n n]) (by simp [results, Trym.results6, go_sem]) rfl ?_
  refine zeroed_mk (by simp) ?_
  exact ((((Below.refl _ _).alloc (by simp) _).alloc (by simp) _).alloc (by simp; omega) _)

set_option maxHeartbeats 400000 in
theorem zzzero_any (n : Nat) (w : World) (h1 : 1 ≤ n) (h2 : n ≤ 65536) :
    Calls Trym.prog 4 #[.agg #[.string ⟨#[]⟩, .int .i64 n, .float .f64 0, .float .f64 0]] w fun e w' => Zeroed n w e w' := by
  go_enter Trym.func4, Trym.ntmps4
  go_wp2_with fail
  refine (zero_any n _ h1 h2).mono ?_
  rintro e w1 ⟨g, rfl, hg, hrow, hbel⟩
  obtain ⟨hc, hf⟩ := bcell hbel
  unfold tally
  have hg' : w.heap.size + 2 ≤ g := by simpa using hg
  have HB : Hid (Below w.heap.size w w1) := (((Below.refl _ _).alloc (by simp) _).alloc (by simp) _).trans (hbel.mono (by simp; omega))
  clear hg hbel
  go_wp2
  refine bodyPost_ret (v := tally g n) (by simp [results, Trym.results4, go_sem, hc, tally]) rfl ?_
  refine ⟨g, rfl, by omega, ((hrow.setOther (by simp; omega) _).setOther (by simp; omega) _).setOther (by simp; omega) _, ?_⟩
  exact ((HB.out.setCell (by simp) _).setCell (by simp) _).setCell (by simp) _

set_option maxHeartbeats 400000 in
theorem empty_any (g n : Nat) (w : World) (h1 : 1 ≤ n) (h2 : n ≤ 65536) (hrow : w.rowIs g 3 n (fun _ => .int .i64 0)) :
    Calls Trym.prog 5 #[.agg #[.float .f64 0, .int .i64 0, .slice (some ⟨g, 0, none⟩) n n], .int .i64 n] w fun e w' =>
      e = .returned (.bool true) ∧ w' = w.alloc (.cells #[.float .f64 0, .int .i64 0, .slice (some ⟨g, 0, none⟩) n n] 27) := by
  have hnil := fun (w : World) (a : Option Addr) (l c : Nat) => Lib.run_eql_slice_nil (P := Trym.prog) w 25 3 a l c 0 0 Trym.underlying25
  have hn0 : ((n : Int) == 0) = false := beq_eq_false_iff_ne.2 (by omega)
  have H : Hid ((w.alloc (.cells #[.float .f64 0, .int .i64 0, .slice (some ⟨g, 0, none⟩) n n] 27)).rowIs g 3 n (fun _ => .int .i64 0)) := hrow.alloc _
  clear hrow
  go_enter Trym.func5, Trym.ntmps5
  go_wp2
  go_loop [5] (fun i => ∃ k : Nat, k ≤ n ∧ i = .int .i64 k) (fun i => n - (intOf i).toNat)
  case atStart => exact ⟨0, by omega, rfl⟩
  case round =>
    obtain ⟨k, hk, rfl⟩ := hrel
    by_cases hlt : k < n
    · have hcell := H.out.cell hlt
      go_wp2
      go_round
      case rel => exact ⟨k + 1, by omega, by go_num⟩
      case measure => simp [intOf]; omega
    · go_wp2
      go_ret
      exact ⟨rfl, rfl⟩
end Go.Proofs.Qxb6608750aMods
