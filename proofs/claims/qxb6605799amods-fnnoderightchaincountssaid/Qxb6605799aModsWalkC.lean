/-
  The walks of the node functions: (*nameNode).len (52), node (51), ZZnode (15) and the readers ZZright (17), ZZname (18), ZZrank (19), ZZleft (20), ZZlen (21), ZZsize (22).
-/
import Derived.Test.Qxb6605799aModsWalkB
namespace Go.Proofs.Qxb6605799aMods
open Go.RowKit

set_option maxHeartbeats 400000 in
theorem zznode_nil (s : ByteArray) (r : Int) (w : World) :
    Calls Trym.prog 15 #[.string s, .int .u64 r, .pointer none, .pointer none] w fun e w' => e = .returned (.pointer (some ⟨w.heap.size, 0, none⟩)) ∧ w' = w.alloc (.cells #[.string s, .int .u64 r, .pointer none, .pointer none, .int .i64 1] 68) := by
  go_enter Trym.func15, Trym.ntmps15
  go_wp2
  go_ret
  exact ⟨rfl, rfl⟩

set_option maxHeartbeats 400000 in
theorem zznode_one (s : ByteArray) (r : Int) (b k : Nat) (w : World) (hk : k ≤ 4096) (hc : w.cell? ⟨b, 4, none⟩ = some (.int .i64 k)) :
    Calls Trym.prog 15 #[.string s, .int .u64 r, .pointer none, .pointer (some ⟨b, 0, none⟩)] w fun e w' => e = .returned (.pointer (some ⟨w.heap.size, 0, none⟩)) ∧ w' = w.alloc (.cells #[.string s, .int .u64 r, .pointer none, .pointer (some ⟨b, 0, none⟩), .int .i64 (1 + k)] 68) := by
  go_enter Trym.func15, Trym.ntmps15
  go_wp2
  go_ret
  exact ⟨rfl, rfl⟩

set_option maxHeartbeats 400000 in
theorem zzright (b : Nat) (v : Value) (w : World) (hc : w.cell? ⟨b, 3, none⟩ = some v) :
    Calls Trym.prog 17 #[.pointer (some ⟨b, 0, none⟩)] w fun e w' => e = .returned v ∧ w' = w := by
  go_enter Trym.func17, Trym.ntmps17
  go_wp2
  go_ret
  exact ⟨rfl, rfl⟩

set_option maxHeartbeats 400000 in
theorem zzname (b : Nat) (v : Value) (w : World) (hc : w.cell? ⟨b, 0, none⟩ = some v) :
    Calls Trym.prog 18 #[.pointer (some ⟨b, 0, none⟩)] w fun e w' => e = .returned v ∧ w' = w := by
  go_enter Trym.func18, Trym.ntmps18
  go_wp2
  go_ret
  exact ⟨rfl, rfl⟩

set_option maxHeartbeats 400000 in
theorem zzrank (b : Nat) (v : Value) (w : World) (hc : w.cell? ⟨b, 1, none⟩ = some v) :
    Calls Trym.prog 19 #[.pointer (some ⟨b, 0, none⟩)] w fun e w' => e = .returned v ∧ w' = w := by
  go_enter Trym.func19, Trym.ntmps19
  go_wp2
  go_ret
  exact ⟨rfl, rfl⟩

set_option maxHeartbeats 400000 in
theorem zzleft (b : Nat) (v : Value) (w : World) (hc : w.cell? ⟨b, 2, none⟩ = some v) :
    Calls Trym.prog 20 #[.pointer (some ⟨b, 0, none⟩)] w fun e w' => e = .returned v ∧ w' = w := by
  go_enter Trym.func20, Trym.ntmps20
  go_wp2
  go_ret
  exact ⟨rfl, rfl⟩

set_option maxHeartbeats 400000 in
theorem zzlen (b : Nat) (v : Value) (w : World) (hc : w.cell? ⟨b, 4, none⟩ = some v) :
    Calls Trym.prog 21 #[.pointer (some ⟨b, 0, none⟩)] w fun e w' => e = .returned v ∧ w' = w := by
  go_enter Trym.func21, Trym.ntmps21
  go_wp2
  go_ret
  exact ⟨rfl, rfl⟩

set_option maxHeartbeats 400000 in
theorem zzsize (b : Nat) (v : Value) (w : World) (hc : w.cell? ⟨b, 4, none⟩ = some v) :
    Calls Trym.prog 22 #[.pointer (some ⟨b, 0, none⟩)] w fun e w' => e = .returned v ∧ w' = w := by
  go_enter Trym.func22, Trym.ntmps22
  go_wp2
  go_ret
  exact ⟨rfl, rfl⟩
end Go.Proofs.Qxb6605799aMods
