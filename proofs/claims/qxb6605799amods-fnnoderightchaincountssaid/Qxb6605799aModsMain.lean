/-
  The walk of the law FnNodeRightChainCounts (3).
-/
import Derived.Test.Qxb6605799aModsPlain
import Derived.Deep.RegionWith
import Derived.Deep.QuietTactic
import Derived.BigQuiet
namespace Go.Proofs.Qxb6605799aMods
open Go.RowKit

set_option maxHeartbeats 1000000 in
theorem law_walk (a0 : Option Addr) (n0 c0 : Nat) (S : Nat → ByteArray) (a1 : Option Addr) (n1 c1 : Nat) (Z : Nat → Int) (w : World)
    (hs : ∀ i, (S i).size ≤ 9223372036854775807) (hn0 : n0 ≤ 9223372036854775807) (hn1 : n1 ≤ 9223372036854775807)
    (hnil0 : a0 = none → n0 = 0 ∧ c0 = 0) (hnil1 : a1 = none → n1 = 0 ∧ c1 = 0)
    (h0 : RowAt w a0 n0 (fun i => .string (S i))) (h1 : RowAt w a1 n1 (fun i => .int .u64 (Z i))) :
    Calls Trym.prog 3 #[.slice a0 n0 c0, .slice a1 n1 c1] w fun e w' => e = .returned (.bool true) ∧ Below w.heap.size w w' := by
  have H : Hid ((∀ i, (S i).size ≤ 9223372036854775807) ∧ (a0 = none → n0 = 0 ∧ c0 = 0) ∧ (a1 = none → n1 = 0 ∧ c1 = 0) ∧ RowAt w a0 n0 (fun i => .string (S i)) ∧ RowAt w a1 n1 (fun i => .int .u64 (Z i))) := ⟨hs, hnil0, hnil1, h0, h1⟩
  clear hs hnil0 hnil1 h0 h1
  by_cases hr : n1 ≤ 131072
  · go_enter Trym.func3, Trym.ntmps3
    go_wp2_with fail
    refine (zzBytes_any a0 n0 c0 a1 n1 c1 S w H.out.1 H.out.2.2.2.1).mono ?_
    rintro e w' ⟨⟨t, rfl⟩, rfl⟩
    cases t
    · go_wp2
      go_ret
      exact ⟨rfl, Below.refl _ _⟩
    · go_wp2_with fail
      refine (stringBytes_any a0 n0 c0 S _ H.out.1 H.out.2.2.2.1).mono ?_
      rintro e w' ⟨⟨m, rfl, hm⟩, rfl⟩
      by_cases hsum : 1048576 < (m : Int) + 8 * (n1 : Int)
      · go_wp2
        go_ret
        exact ⟨rfl, Below.refl _ _⟩
      · by_cases hc0 : n0 ≤ 4096
        · by_cases hc1 : n1 ≤ 4096
          · go_wp2_with fail
            refine (copyStrings_any a0 n0 c0 S _ hc0 H.out.2.1 H.out.2.2.2.1).mono ?_
            rintro e w1 ⟨a0', c0', rfl, hrow0, hbel0⟩
            go_wp2_with fail
            have h1' := H.out.2.2.2.2.below (Nat.le_refl _) hbel0
            refine (copyU64_any a1 n1 c1 Z _ hc1 H.out.2.2.1 h1').mono ?_
            rintro e w2 ⟨a1', c1', rfl, hrow1, hbel1⟩
            have hrow0' := hrow0.below (Nat.le_refl _) hbel1
            have HB : Hid (Below w'.heap.size w' w2) := hbel0.trans (hbel1.mono hbel0.size)
            have HR : Hid (RowAt w2 a0' n0 (fun i => .string (S i)) ∧ RowAt w2 a1' n1 (fun i => .int .u64 (Z i))) := ⟨hrow0', hrow1⟩
            clear hrow0 hrow0' hrow1 hbel0 hbel1 h1' hsum hm
            go_wp2
            go_loopw [5, 6] (fun t i wr => ∃ j c : Nat, Hid (j + c = n0) ∧ i = .int .i64 ((j : Int) - 1) ∧ Chain wr S (rankOf Z n1) c j t ∧ Below w2.heap.size w2 wr) (fun _ i _ => (intOf i + 1).toNat)
            case atStart => exact ⟨n0, 0, rfl, rfl, rfl, Below.refl _ _⟩
            case round =>
              obtain ⟨j, c, hjc, rfl, hch, hbel⟩ := hrel
              cases j with
              | zero =>
                have hc : c = n0 := by have := hjc.out; omega
                subst hc
                go_wp2
                go_loopw [7, 8] (fun i n wx => ∃ k d : Nat, Hid (k + d = c) ∧ i = .int .i64 (k : Int) ∧ Chain wx S (rankOf Z n1) d k n ∧ Below w2.heap.size w2 wx) (fun i _ _ => c - (intOf i).toNat)
                case atStart => exact ⟨0, c, Nat.zero_add _, rfl, hch, hbel⟩
                case round =>
                  obtain ⟨k, d, hkd, rfl, hchd, hbel'⟩ := hrel
                  cases d with
                  | zero =>
                    have hv : u8 = .pointer none := hchd
                    subst hv
                    have hkc : k = c := by have := hkd.out; omega
                    subst hkc
                    go_wp2
                    go_ret
                    exact ⟨rfl, HB.out.trans (hbel'.mono HB.out.size)⟩
                  | succ d =>
                    obtain ⟨bn, v', rfl, hblk, hrest⟩ := hchd
                    have hkc : k < c := by have := hkd.out; omega
                    have g0 : wr.cell? ⟨bn, 0, none⟩ = some (.string (S k)) := by simp [World.cell?, hblk]
                    have g1 : wr.cell? ⟨bn, 1, none⟩ = some (.int .u64 (rankOf Z n1 k)) := by simp [World.cell?, hblk]
                    have g2 : wr.cell? ⟨bn, 2, none⟩ = some (.pointer none) := by simp [World.cell?, hblk]
                    have g3 : wr.cell? ⟨bn, 3, none⟩ = some v' := by simp [World.cell?, hblk]
                    have g4 : wr.cell? ⟨bn, 4, none⟩ = some (.int .i64 ((c : Int) - (k : Int))) := by
                      have e : ((d + 1 : Nat) : Int) = (c : Int) - (k : Int) := by have := hkd.out; omega
                      rw [← e]
                      simp [World.cell?, hblk]
                    obtain ⟨b, off, rfl, hb, hcell⟩ := HR.out.1 k hkc
                    have hcell' : wr.cell? ⟨b, off + k, none⟩ = some (.string (S k)) := (hbel'.cell (p := ⟨b, off + k, none⟩) hb).trans hcell
                    have HQ : Hid (RowAt wr a1' n1 (fun i => .int .u64 (Z i)) ∧ Chain wr S (rankOf Z n1) d (k + 1) v' ∧ Below w2.heap.size w2 wr) := ⟨HR.out.2.below (Nat.le_refl _) hbel', hrest, hbel'⟩
                    clear hcell hrest hbel' hblk hch hbel
                    go_wp2
                    go_quiet (first
                      | (go_at_call 18; exact Calls.quiet_of_same (zzname bn _ _ (by exact g0)))
                      | (go_at_call 19; exact Calls.quiet_of_same (zzrank bn _ _ (by exact g1)))
                      | (go_at_call 16; exact Calls.quiet_of_same (rankAt_any a1' n1 c1' k Z _ (by exact HQ.out.1)))
                      | (go_at_call 20; exact Calls.quiet_of_same (zzleft bn _ _ (by exact g2))))
                    go_wp2
                    go_roundw
                    case rel => exact ⟨k + 1, d, by have := hkd.out; show k + 1 + d = c; omega, by go_num, Chain.below (below_drewN (Below.refl _ _) _) _ _ _ HQ.out.2.1, below_drewN HQ.out.2.2 _⟩
                    case measure => simp [intOf]; omega
              | succ k =>
                obtain ⟨b, off, rfl, hb, hcell⟩ := HR.out.1 k (by have := hjc.out; omega)
                have hcell' : wr.cell? ⟨b, off + k, none⟩ = some (.string (S k)) := (hbel.cell (p := ⟨b, off + k, none⟩) hb).trans hcell
                have hR1 := HR.out.2.below (Nat.le_refl _) hbel
                have HQ : Hid (RowAt wr a1' n1 (fun i => .int .u64 (Z i)) ∧ Chain wr.drew S (rankOf Z n1) c (k + 1) u5 ∧ Below w2.heap.size w2 wr) := ⟨hR1, Chain.below (Below.refl _ _).drew _ _ _ hch, hbel⟩
                have hkn : k < n0 := by have := hjc.out; omega
                have hcn : c ≤ 4096 := by have := hjc.out; omega
                clear hcell hR1 hch hbel
                rw [show ((k + 1 : Nat) : Int) - 1 = (k : Int) from by omega]
                go_wp2
                go_region_with (first
                  | (go_at_call 16; refine (rankAt_any a1' n1 c1' k Z _ (by exact HQ.out.1)).mono ?_; rintro e w' ⟨rfl, rfl⟩)
                  | (go_at_call 15; refine (zznode_chain S (rankOf Z n1) c k u5 _ hcn (by exact HQ.out.2.1)).mono ?_; rintro e w3 ⟨v', rfl, hch3, hb3⟩))
                all_goals
                  have HE : Hid (Chain w3 S (rankOf Z n1) (c + 1) k v' ∧ Below w2.heap.size w2 w3) := ⟨hch3, HQ.out.2.2.drew.trans (hb3.mono HQ.out.2.2.size)⟩
                  clear hch3 hb3
                  go_wp2
                  go_roundw
                  case rel => exact ⟨k, c + 1, by have := hjc.out; show k + (c + 1) = n0; omega, by go_num, HE.out.1, HE.out.2⟩
                  case measure => simp [intOf]
          · go_wp2
            go_ret
            exact ⟨rfl, Below.refl _ _⟩
        · go_wp2
          go_ret
          exact ⟨rfl, Below.refl _ _⟩
  · go_enter Trym.func3, Trym.ntmps3
    go_wp2_with fail
    refine (zzBytes_any a0 n0 c0 a1 n1 c1 S w H.out.1 H.out.2.2.2.1).mono ?_
    rintro e w' ⟨⟨t, rfl⟩, rfl⟩
    cases t <;>
      (go_wp2
       go_ret
       exact ⟨rfl, Below.refl _ _⟩)
end Go.Proofs.Qxb6605799aMods
