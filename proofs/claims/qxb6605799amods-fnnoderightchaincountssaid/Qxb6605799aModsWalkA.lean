/-
  The walks of the callees that read or copy the two argument slices: zzBytes (11), b1StringBytes (12), b1CopyStrings (13), b1CopyU64 (14), b1RankAt (16).
-/
import Derived.Test.Qxb6605799aModsRows
import Derived.WalkKit
import Derived.WalkSpells
import Derived.WalkLawsBesides
import Derived.Deep.OwnRows
namespace Go.Proofs.Qxb6605799aMods
open Go.RowKit

/-- The call returned some bool. -/
def SomeBool (e : Ending) : Prop := ∃ t : Bool, e = .returned (.bool t)
/-- The call returned some int from 0 to the ceiling plus one. -/
def SomeCount (e : Ending) : Prop := ∃ m : Nat, e = .returned (.int .i64 m) ∧ m ≤ 1048577

theorem someBool (t : Bool) : SomeBool (.returned (.bool t)) := ⟨t, rfl⟩
theorem someCount (m : Nat) (x : Int) (hx : x = m) (h : m ≤ 1048577) : SomeCount (.returned (.int .i64 x)) := ⟨m, by rw [hx], h⟩

/-! ### zzBytes: SOME bool, the world as it was -/
set_option maxHeartbeats 400000 in
theorem zzBytes_cells (b off n c : Nat) (a' : Option Addr) (n' c' : Nat) (S : Nat → ByteArray) (w : World)
    (hs : ∀ i, (S i).size ≤ 9223372036854775807) (hc : ∀ i, i < n → w.cell? ⟨b, off + i, none⟩ = some (.string (S i))) :
    Calls Trym.prog 11 #[.slice (some ⟨b, off, none⟩) n c, .slice a' n' c'] w fun e w' => SomeBool e ∧ w' = w := by
  go_enter Trym.func11, Trym.ntmps11
  go_wp2
  · go_ret
    exact ⟨someBool _, rfl⟩
  · go_loop [5, 6] (fun z i => ∃ k m : Nat, k ≤ n ∧ i = .int .i64 k ∧ z = .int .i64 m ∧ m ≤ 1048576) (fun _ i => n - (intOf i).toNat)
    case atStart => exact ⟨0, n, by omega, rfl, rfl, by omega⟩
    case round =>
      obtain ⟨k, m, hk, rfl, rfl, hm⟩ := hrel
      have hsk := hs k
      by_cases hlt : k < n
      · have hcell := hc k hlt
        clear hc hs
        go_wp2
        · go_ret
          exact ⟨someBool _, rfl⟩
        · go_ret
          exact ⟨someBool _, rfl⟩
        · go_round
          case rel => exact ⟨k + 1, m + (S k).size, by omega, by go_num, by go_num, by omega⟩
          case measure => simp [intOf]; omega
      · clear hc hs
        go_wp2
        all_goals
          go_ret
          exact ⟨someBool _, rfl⟩

set_option maxHeartbeats 400000 in
theorem zzBytes_none (a : Option Addr) (c : Nat) (a' : Option Addr) (n' c' : Nat) (w : World) :
    Calls Trym.prog 11 #[.slice a 0 c, .slice a' n' c'] w fun e w' => SomeBool e ∧ w' = w := by
  go_enter Trym.func11, Trym.ntmps11
  go_wp2
  go_loop [5, 6] (fun z i => i = .int .i64 0 ∧ z = .int .i64 0) (fun _ _ => 0)
  case atStart => exact ⟨rfl, rfl⟩
  case round =>
    obtain ⟨rfl, rfl⟩ := hrel
    go_wp2
    all_goals
      go_ret
      exact ⟨someBool _, rfl⟩

/-! ### b1StringBytes: SOME count, the world as it was -/
set_option maxHeartbeats 400000 in
theorem stringBytes_cells (b off n c : Nat) (S : Nat → ByteArray) (w : World)
    (hs : ∀ i, (S i).size ≤ 9223372036854775807) (hc : ∀ i, i < n → w.cell? ⟨b, off + i, none⟩ = some (.string (S i))) :
    Calls Trym.prog 12 #[.slice (some ⟨b, off, none⟩) n c] w fun e w' => SomeCount e ∧ w' = w := by
  go_enter Trym.func12, Trym.ntmps12
  go_wp2
  · go_ret
    exact ⟨someCount 1048577 _ rfl (by omega), rfl⟩
  · go_loop [3, 4] (fun z i => ∃ k m : Nat, k ≤ n ∧ i = .int .i64 k ∧ z = .int .i64 m ∧ m ≤ 1048576) (fun _ i => n - (intOf i).toNat)
    case atStart => exact ⟨0, 0, by omega, rfl, rfl, by omega⟩
    case round =>
      obtain ⟨k, m, hk, rfl, rfl, hm⟩ := hrel
      have hsk := hs k
      by_cases hlt : k < n
      · have hcell := hc k hlt
        clear hc hs
        go_wp2
        · go_ret
          exact ⟨someCount 1048577 _ rfl (by omega), rfl⟩
        · go_round
          case rel => exact ⟨k + 1, m + (16 + (S k).size), by omega, by go_num, by go_num, by omega⟩
          case measure => simp [intOf]; omega
      · clear hc hs
        go_wp2
        go_ret
        exact ⟨someCount m _ rfl (by omega), rfl⟩

set_option maxHeartbeats 400000 in
theorem stringBytes_none (a : Option Addr) (c : Nat) (w : World) :
    Calls Trym.prog 12 #[.slice a 0 c] w fun e w' => SomeCount e ∧ w' = w := by
  go_enter Trym.func12, Trym.ntmps12
  go_wp2
  go_loop [3, 4] (fun z i => i = .int .i64 0 ∧ z = .int .i64 0) (fun _ _ => 0)
  case atStart => exact ⟨rfl, rfl⟩
  case round =>
    obtain ⟨rfl, rfl⟩ := hrel
    go_wp2
    go_ret
    exact ⟨someCount 0 _ rfl (by omega), rfl⟩
end Go.Proofs.Qxb6605799aMods
