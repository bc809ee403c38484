/-
  The walks of the two copies: b1CopyStrings (13), b1CopyU64 (14), and of b1RankAt (16).
-/
import Derived.Test.Qxb6605799aModsWalkA
namespace Go.Proofs.Qxb6605799aMods
open Go.RowKit

theorem Trym.info9 : (Trym.prog.info? 9).map (fun i => (i.zero, i.size, i.bytes)) = some (some (.string ByteArray.empty), 1, 16) := by kernel_rfl
theorem Trym.info30 : (Trym.prog.info? 30).map (fun i => (i.zero, i.size, i.bytes)) = some (some (.int .u64 0), 1, 8) := by kernel_rfl

/-! ### What a round of a copy does to the new row -/
/-- After k rounds: the first k cells are copied, the rest hold the zero value. -/
def part (f : Nat → Value) (z : Value) (k : Nat) : Nat → Value := fun j => if j < k then f j else z

theorem part_start {w : World} (f : Nat → Value) (z : Value) (n : Nat) (t : TypeId) : (w.alloc (.cells (madeCells #[z] n) t)).rowIs w.heap.size t n (part f z 0) :=
  (World.rowIs_made w z n t).congr fun i _ => by simp [part]

theorem part_step {w : World} {b n k : Nat} {t : TypeId} {f : Nat → Value} {z : Value} (h : w.rowIs b t n (part f z k)) : (w.setCell ⟨b, k, none⟩ (f k)).rowIs b t n (part f z (k + 1)) :=
  (h.set k (f k)).congr fun i _ => by
    by_cases e : i = k
    · subst e; simp [part]
    · by_cases e' : i < k
      · simp [part, e, e', Nat.lt_succ_of_lt e']
      · have : ¬ i < k + 1 := by omega
        simp [part, e, e', this]

theorem part_end {w : World} {b n : Nat} {t : TypeId} {f : Nat → Value} {z : Value} (h : w.rowIs b t n (part f z n)) : w.rowIs b t n f :=
  h.congr fun i hi => by simp [part, hi]

theorem below_make {w : World} (o : Obj) : Below w.heap.size w (w.alloc o) := (Below.refl _ _).alloc (Nat.le_refl _) _

/-! ### b1CopyStrings -/
set_option maxHeartbeats 400000 in
theorem copyStrings_nil (w : World) :
    Calls Trym.prog 13 #[.slice none 0 0] w fun e w' => e = .returned (.slice none 0 0) ∧ w' = w := by
  have hnil := fun (w : World) (a : Option Addr) (l c : Nat) => Lib.run_eql_slice_nil (P := Trym.prog) w 22 9 a l c 0 0 Trym.underlying22
  go_enter Trym.func13, Trym.ntmps13
  go_wp2
  go_ret
  exact ⟨rfl, rfl⟩

set_option maxHeartbeats 400000 in
theorem copyStrings_empty (x : Addr) (c : Nat) (f : Nat → Value) (w : World) :
    Calls Trym.prog 13 #[.slice (some x) 0 c] w fun e w' => e = .returned (.slice (some ⟨w.heap.size, 0, none⟩) 0 0) ∧ w'.rowIs w.heap.size 9 0 f ∧ Below w.heap.size w w' := by
  have hnil := fun (w : World) (a : Option Addr) (l c : Nat) => Lib.run_eql_slice_nil (P := Trym.prog) w 22 9 a l c 0 0 Trym.underlying22
  have hmk : ∀ w : World, (Instr.makeSlice 22 (.int .i64 0) (.int .i64 0)).run Trym.prog w = .ok (.slice (some ⟨w.heap.size, 0, none⟩) 0 0) (w.alloc (.cells (madeCells #[.string ByteArray.empty] 0) 9)) :=
    fun w => run_make_row' (P := Trym.prog) 22 9 (.string ByteArray.empty) 16 Trym.underlying22 Trym.info9 rfl .i64 .i64 0 (by omega) (by omega) w
  have hst : Hid ((w.alloc (.cells (madeCells #[.string ByteArray.empty] 0) 9)).rowIs w.heap.size 9 0 f) := part_end (part_start f (.string ByteArray.empty) 0 9)
  go_enter Trym.func13, Trym.ntmps13
  go_wp2
  go_loop [4] (fun i => i = .int .i64 0) (fun _ => 0)
  case atStart => rfl
  case round =>
    subst hrel
    go_wp2
    go_ret
    exact ⟨rfl, hst.out, below_make _⟩

set_option maxHeartbeats 400000 in
theorem copyStrings_cells (b off n c : Nat) (S : Nat → ByteArray) (w : World) (hn : n ≤ 4096) (hb : b < w.heap.size)
    (hc : ∀ i, i < n → w.cell? ⟨b, off + i, none⟩ = some (.string (S i))) :
    Calls Trym.prog 13 #[.slice (some ⟨b, off, none⟩) n c] w fun e w' => e = .returned (.slice (some ⟨w.heap.size, 0, none⟩) n n) ∧ w'.rowIs w.heap.size 9 n (fun i => .string (S i)) ∧ Below w.heap.size w w' := by
  have hnil := fun (w : World) (a : Option Addr) (l c : Nat) => Lib.run_eql_slice_nil (P := Trym.prog) w 22 9 a l c 0 0 Trym.underlying22
  have hmk := run_make_row' (P := Trym.prog) 22 9 (.string ByteArray.empty) 16 Trym.underlying22 Trym.info9 rfl .i64 .i64 n (by omega) (by omega)
  go_enter Trym.func13, Trym.ntmps13
  go_wp2
  go_loopw [4] (fun i wr => ∃ k : Nat, k ≤ n ∧ i = .int .i64 k ∧ wr.rowIs w.heap.size 9 n (part (fun i => .string (S i)) (.string ByteArray.empty) k) ∧ Below w.heap.size w wr) (fun i _ => n - (intOf i).toNat)
  case atStart => exact ⟨0, by omega, rfl, part_start _ _ _ _, below_make _⟩
  case round =>
    obtain ⟨k, hk, rfl, hrow, hbel⟩ := hrel
    by_cases hlt : k < n
    · have hcell : wr.cell? ⟨b, off + k, none⟩ = some (.string (S k)) := (hbel.cell (p := ⟨b, off + k, none⟩) hb).trans (hc k hlt)
      have hold := hrow.cell hlt
      have hfz := hrow.frozen k
      have R := And.intro (part_step hrow) (hbel.setCell (p := ⟨w.heap.size, k, none⟩) (Nat.le_refl _) (.string (S k)))
      have HR := show Hid _ from R
      clear R hc hrow hbel hmk
      go_wp2
      go_roundw
      case rel => exact ⟨k + 1, by omega, by go_num, HR.out.1, HR.out.2⟩
      case measure => simp [intOf]; omega
    · have e : k = n := by omega
      subst e
      have HR := show Hid _ from And.intro (part_end hrow) hbel
      clear hc hrow hbel hmk
      go_wp2
      go_ret
      exact ⟨rfl, HR.out.1, HR.out.2⟩
/-! ### b1CopyU64 -/
set_option maxHeartbeats 400000 in
theorem copyU64_nil (w : World) :
    Calls Trym.prog 14 #[.slice none 0 0] w fun e w' => e = .returned (.slice none 0 0) ∧ w' = w := by
  have hnil := fun (w : World) (a : Option Addr) (l c : Nat) => Lib.run_eql_slice_nil (P := Trym.prog) w 23 30 a l c 0 0 Trym.underlying23
  go_enter Trym.func14, Trym.ntmps14
  go_wp2
  go_ret
  exact ⟨rfl, rfl⟩

set_option maxHeartbeats 400000 in
theorem copyU64_empty (x : Addr) (c : Nat) (f : Nat → Value) (w : World) :
    Calls Trym.prog 14 #[.slice (some x) 0 c] w fun e w' => e = .returned (.slice (some ⟨w.heap.size, 0, none⟩) 0 0) ∧ w'.rowIs w.heap.size 30 0 f ∧ Below w.heap.size w w' := by
  have hnil := fun (w : World) (a : Option Addr) (l c : Nat) => Lib.run_eql_slice_nil (P := Trym.prog) w 23 30 a l c 0 0 Trym.underlying23
  have hmk : ∀ w : World, (Instr.makeSlice 23 (.int .i64 0) (.int .i64 0)).run Trym.prog w = .ok (.slice (some ⟨w.heap.size, 0, none⟩) 0 0) (w.alloc (.cells (madeCells #[.int .u64 0] 0) 30)) :=
    fun w => run_make_row' (P := Trym.prog) 23 30 (.int .u64 0) 8 Trym.underlying23 Trym.info30 rfl .i64 .i64 0 (by omega) (by omega) w
  have hst : Hid ((w.alloc (.cells (madeCells #[.int .u64 0] 0) 30)).rowIs w.heap.size 30 0 f) := part_end (part_start f (.int .u64 0) 0 30)
  go_enter Trym.func14, Trym.ntmps14
  go_wp2
  go_loop [4] (fun i => i = .int .i64 0) (fun _ => 0)
  case atStart => rfl
  case round =>
    subst hrel
    go_wp2
    go_ret
    exact ⟨rfl, hst.out, below_make _⟩

set_option maxHeartbeats 400000 in
theorem copyU64_cells (b off n c : Nat) (Z : Nat → Int) (w : World) (hn : n ≤ 4096) (hb : b < w.heap.size)
    (hc : ∀ i, i < n → w.cell? ⟨b, off + i, none⟩ = some (.int .u64 (Z i))) :
    Calls Trym.prog 14 #[.slice (some ⟨b, off, none⟩) n c] w fun e w' => e = .returned (.slice (some ⟨w.heap.size, 0, none⟩) n n) ∧ w'.rowIs w.heap.size 30 n (fun i => .int .u64 (Z i)) ∧ Below w.heap.size w w' := by
  have hnil := fun (w : World) (a : Option Addr) (l c : Nat) => Lib.run_eql_slice_nil (P := Trym.prog) w 23 30 a l c 0 0 Trym.underlying23
  have hmk := run_make_row' (P := Trym.prog) 23 30 (.int .u64 0) 8 Trym.underlying23 Trym.info30 rfl .i64 .i64 n (by omega) (by omega)
  go_enter Trym.func14, Trym.ntmps14
  go_wp2
  go_loopw [4] (fun i wr => ∃ k : Nat, k ≤ n ∧ i = .int .i64 k ∧ wr.rowIs w.heap.size 30 n (part (fun i => .int .u64 (Z i)) (.int .u64 0) k) ∧ Below w.heap.size w wr) (fun i _ => n - (intOf i).toNat)
  case atStart => exact ⟨0, by omega, rfl, part_start _ _ _ _, below_make _⟩
  case round =>
    obtain ⟨k, hk, rfl, hrow, hbel⟩ := hrel
    by_cases hlt : k < n
    · have hcell : wr.cell? ⟨b, off + k, none⟩ = some (.int .u64 (Z k)) := (hbel.cell (p := ⟨b, off + k, none⟩) hb).trans (hc k hlt)
      have hold := hrow.cell hlt
      have hfz := hrow.frozen k
      have R := And.intro (part_step hrow) (hbel.setCell (p := ⟨w.heap.size, k, none⟩) (Nat.le_refl _) (.int .u64 (Z k)))
      have HR := show Hid _ from R
      clear R hc hrow hbel hmk
      go_wp2
      go_roundw
      case rel => exact ⟨k + 1, by omega, by go_num, HR.out.1, HR.out.2⟩
      case measure => simp [intOf]; omega
    · have e : k = n := by omega
      subst e
      have HR := show Hid _ from And.intro (part_end hrow) hbel
      clear hc hrow hbel hmk
      go_wp2
      go_ret
      exact ⟨rfl, HR.out.1, HR.out.2⟩

/-! ### b1RankAt: the i-th rank, or 0 -/
/-- What b1RankAt gives of m ranks Z. -/
def rankOf (Z : Nat → Int) (m i : Nat) : Int := if i < m then Z i else 0

set_option maxHeartbeats 400000 in
theorem rankAt_in (b off m c : Nat) (i : Nat) (z : Int) (w : World) (h : i < m) (hc : w.cell? ⟨b, off + i, none⟩ = some (.int .u64 z)) :
    Calls Trym.prog 16 #[.slice (some ⟨b, off, none⟩) m c, .int .i64 i] w fun e w' => e = .returned (.int .u64 z) ∧ w' = w := by
  go_enter Trym.func16, Trym.ntmps16
  go_wp2
  go_ret
  exact ⟨rfl, rfl⟩

set_option maxHeartbeats 400000 in
theorem rankAt_out (a : Option Addr) (m c : Nat) (i : Nat) (w : World) (h : ¬ i < m) :
    Calls Trym.prog 16 #[.slice a m c, .int .i64 i] w fun e w' => e = .returned (.int .u64 0) ∧ w' = w := by
  go_enter Trym.func16, Trym.ntmps16
  go_wp2
  go_ret
  exact ⟨rfl, rfl⟩
end Go.Proofs.Qxb6605799aMods
