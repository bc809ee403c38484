/-
  What the law's walk says of memory: a row of strings or of numbers behind a slice that may be nil or empty; the chain of nodes. And the callees' contracts in those words.
-/
import Derived.Test.Qxb6605799aModsWalkC
namespace Go.Proofs.Qxb6605799aMods
open Go.RowKit

/-- THE FIRST n CELLS BEHIND THE SLICE's ADDRESS HOLD f 0, f 1, ..: and lie in old memory. (n = 0: nothing is said of the address.) -/
def RowAt (w : World) (a : Option Addr) (n : Nat) (f : Nat → Value) : Prop :=
  ∀ i, i < n → ∃ b off, a = some ⟨b, off, none⟩ ∧ b < w.heap.size ∧ w.cell? ⟨b, off + i, none⟩ = some (f i)

theorem RowAt.below {w w' : World} {a : Option Addr} {n : Nat} {f : Nat → Value} (h : RowAt w a n f) {B : Nat} (hB : w.heap.size ≤ B) (hb : Below B w w') : RowAt w' a n f := by
  intro i hi
  obtain ⟨b, off, h1, h2, h3⟩ := h i hi
  exact ⟨b, off, h1, Nat.lt_of_lt_of_le h2 hb.size, (hb.cell (p := ⟨b, off + i, none⟩) (Nat.lt_of_lt_of_le h2 hB)).trans h3⟩

theorem RowAt.drew {w : World} {a : Option Addr} {n : Nat} {f : Nat → Value} (h : RowAt w a n f) : RowAt w.drew a n f := h

/-- Either nothing is there, or one address serves all cells. -/
theorem RowAt.opened {w : World} {a : Option Addr} {n : Nat} {f : Nat → Value} (h : RowAt w a n f) :
    n = 0 ∨ ∃ b off, a = some ⟨b, off, none⟩ ∧ b < w.heap.size ∧ ∀ i, i < n → w.cell? ⟨b, off + i, none⟩ = some (f i) := by
  by_cases hn : n = 0
  · exact .inl hn
  · obtain ⟨b, off, h1, h2, _⟩ := h 0 (by omega)
    refine .inr ⟨b, off, h1, h2, fun i hi => ?_⟩
    obtain ⟨b', off', g1, _, g3⟩ := h i hi
    rw [h1] at g1
    simp at g1
    obtain ⟨rfl, rfl⟩ := g1
    exact g3

theorem RowAt.of_row {w : World} {b n : Nat} {t : TypeId} {f : Nat → Value} (h : w.rowIs b t n f) : RowAt w (some ⟨b, 0, none⟩) n f :=
  fun i hi => ⟨b, 0, rfl, h.lt, by simpa using h.cell hi⟩

/-! ### The callees that read or copy a row -/
theorem zzBytes_any (a : Option Addr) (n c : Nat) (a' : Option Addr) (n' c' : Nat) (S : Nat → ByteArray) (w : World)
    (hs : ∀ i, (S i).size ≤ 9223372036854775807) (h : RowAt w a n (fun i => .string (S i))) :
    Calls Trym.prog 11 #[.slice a n c, .slice a' n' c'] w fun e w' => SomeBool e ∧ w' = w := by
  rcases h.opened with rfl | ⟨b, off, rfl, _, hc⟩
  · exact zzBytes_none a c a' n' c' w
  · exact zzBytes_cells b off n c a' n' c' S w hs hc

theorem stringBytes_any (a : Option Addr) (n c : Nat) (S : Nat → ByteArray) (w : World)
    (hs : ∀ i, (S i).size ≤ 9223372036854775807) (h : RowAt w a n (fun i => .string (S i))) :
    Calls Trym.prog 12 #[.slice a n c] w fun e w' => SomeCount e ∧ w' = w := by
  rcases h.opened with rfl | ⟨b, off, rfl, _, hc⟩
  · exact stringBytes_none a c w
  · exact stringBytes_cells b off n c S w hs hc

/-- What a copy gives: a slice of the same length over a row of its own (or nil), the same cells. -/
def Copied (w : World) (n : Nat) (f : Nat → Value) (e : Ending) (w' : World) : Prop :=
  ∃ a' c', e = .returned (.slice a' n c') ∧ RowAt w' a' n f ∧ Below w.heap.size w w'

theorem copyStrings_any (a : Option Addr) (n c : Nat) (S : Nat → ByteArray) (w : World) (hn : n ≤ 4096) (hnil : a = none → n = 0 ∧ c = 0) (h : RowAt w a n (fun i => .string (S i))) :
    Calls Trym.prog 13 #[.slice a n c] w fun e w' => Copied w n (fun i => .string (S i)) e w' := by
  cases a with
  | none =>
    obtain ⟨rfl, rfl⟩ := hnil rfl
    refine (copyStrings_nil w).mono ?_
    rintro e w' ⟨rfl, rfl⟩
    exact ⟨none, 0, rfl, fun i hi => absurd hi (by omega), Below.refl _ _⟩
  | some x =>
    rcases h.opened with rfl | ⟨b, off, hx, hb, hc⟩
    · refine (copyStrings_empty x c (fun i => .string (S i)) w).mono ?_
      rintro e w' ⟨rfl, hr, hbel⟩
      exact ⟨_, _, rfl, RowAt.of_row hr, hbel⟩
    · simp only [Option.some.injEq] at hx
      subst hx
      refine (copyStrings_cells b off n c S w hn hb hc).mono ?_
      rintro e w' ⟨rfl, hr, hbel⟩
      exact ⟨_, _, rfl, RowAt.of_row hr, hbel⟩

theorem copyU64_any (a : Option Addr) (n c : Nat) (Z : Nat → Int) (w : World) (hn : n ≤ 4096) (hnil : a = none → n = 0 ∧ c = 0) (h : RowAt w a n (fun i => .int .u64 (Z i))) :
    Calls Trym.prog 14 #[.slice a n c] w fun e w' => Copied w n (fun i => .int .u64 (Z i)) e w' := by
  cases a with
  | none =>
    obtain ⟨rfl, rfl⟩ := hnil rfl
    refine (copyU64_nil w).mono ?_
    rintro e w' ⟨rfl, rfl⟩
    exact ⟨none, 0, rfl, fun i hi => absurd hi (by omega), Below.refl _ _⟩
  | some x =>
    rcases h.opened with rfl | ⟨b, off, hx, hb, hc⟩
    · refine (copyU64_empty x c (fun i => .int .u64 (Z i)) w).mono ?_
      rintro e w' ⟨rfl, hr, hbel⟩
      exact ⟨_, _, rfl, RowAt.of_row hr, hbel⟩
    · simp only [Option.some.injEq] at hx
      subst hx
      refine (copyU64_cells b off n c Z w hn hb hc).mono ?_
      rintro e w' ⟨rfl, hr, hbel⟩
      exact ⟨_, _, rfl, RowAt.of_row hr, hbel⟩

theorem rankAt_any (a : Option Addr) (m c i : Nat) (Z : Nat → Int) (w : World) (h : RowAt w a m (fun i => .int .u64 (Z i))) :
    Calls Trym.prog 16 #[.slice a m c, .int .i64 i] w fun e w' => e = .returned (.int .u64 (rankOf Z m i)) ∧ w' = w := by
  unfold rankOf
  by_cases hi : i < m
  · rw [if_pos hi]
    obtain ⟨b, off, rfl, _, hc⟩ := h i hi
    exact rankAt_in b off m c i (Z i) w hi hc
  · rw [if_neg hi]
    exact rankAt_out a m c i w hi

/-! ### The chain -/
/-- THE CHAIN OF c NODES at v: the first holds S k, Z k, no left child, the count c; the next holds S (k + 1) .. -/
def Chain (w : World) (S : Nat → ByteArray) (R : Nat → Int) : Nat → Nat → Value → Prop
  | 0, _, v => v = .pointer none
  | c + 1, k, v => ∃ b v', v = .pointer (some ⟨b, 0, none⟩) ∧
      w.heap[b]? = some (.cells #[.string (S k), .int .u64 (R k), .pointer none, v', .int .i64 (c + 1 : Nat)] 68 (0, 0)) ∧ Chain w S R c (k + 1) v'

theorem Chain.below {w w' : World} {S : Nat → ByteArray} {R : Nat → Int} (hb : Below w.heap.size w w') : ∀ c k v, Chain w S R c k v → Chain w' S R c k v := by
  intro c
  induction c with
  | zero => intro k v h; exact h
  | succ c ih =>
    intro k v h
    obtain ⟨b, v', h1, h2, h3⟩ := h
    have hlt : b < w.heap.size := (Array.getElem?_eq_some_iff.1 h2).1
    exact ⟨b, v', h1, (hb.block b hlt).trans h2, ih _ _ h3⟩

/-- A node more, ahead of the chain. -/
theorem zznode_chain (S : Nat → ByteArray) (R : Nat → Int) (c k : Nat) (v : Value) (w : World) (hc : c ≤ 4096) (h : Chain w S R c (k + 1) v) :
    Calls Trym.prog 15 #[.string (S k), .int .u64 (R k), .pointer none, v] w fun e w' => ∃ v', e = .returned v' ∧ Chain w' S R (c + 1) k v' ∧ Below w.heap.size w w' := by
  cases c with
  | zero =>
    have hv : v = .pointer none := h
    subst hv
    refine (zznode_nil (S k) (R k) w).mono ?_
    rintro e w' ⟨rfl, rfl⟩
    exact ⟨_, rfl, ⟨_, _, rfl, by show (w.heap.push _)[_]? = _; simp, rfl⟩, below_make _⟩
  | succ c =>
    have hch := h
    obtain ⟨b, v', rfl, h2, h3⟩ := h
    have hcell : w.cell? ⟨b, 4, none⟩ = some (.int .i64 (c + 1 : Nat)) := by simp [World.cell?, h2]
    refine (zznode_one (S k) (R k) b (c + 1) w hc hcell).mono ?_
    rintro e w' ⟨rfl, rfl⟩
    refine ⟨_, rfl, ⟨_, _, rfl, ?_, Chain.below (below_make _) _ _ _ hch⟩, below_make _⟩
    show (w.heap.push _)[_]? = _
    simp
    omega
end Go.Proofs.Qxb6605799aMods
