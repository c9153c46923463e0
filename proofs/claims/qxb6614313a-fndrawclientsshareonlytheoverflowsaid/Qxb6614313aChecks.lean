/-
  DERIVED. Seat b6614313a: the law's own checks on its input: pairCount, keptStateHolds, isKept, the two bounds.
-/
import Derived.Test.Qxb6614313aRows
import Derived.WalkKit
import Derived.WalkSpells
import Derived.WalkLawsBesides
import Derived.Deep.QuietTactic
import Derived.BigQuiet
namespace Go.Proofs.Qxb6614313a
open Go.RowKit

set_option maxHeartbeats 400000 in
theorem pair_any (io do' : Option Addr) (li ci ld cd : Nat) (w : World) :
    Calls Try.prog 12 #[.slice io li ci, .slice do' ld cd] w fun e w' => e = .returned (.int .i64 (min li ld : Nat)) ∧ w' = w := by
  by_cases h : li < ld
  · go_enter Try.func12, Try.ntmps12
    go_wp2
    go_ret
    exact ⟨by rw [Nat.min_eq_left (by omega)]; rfl, rfl⟩
  · go_enter Try.func12, Try.ntmps12
    go_wp2
    go_ret
    exact ⟨by rw [Nat.min_eq_right (by omega)]; rfl, rfl⟩

/-- The first n elements of a slice of integers. -/
def Ints (q : IntKind) (ao : Option Addr) (n : Nat) (zs : Nat → Int) (w : World) : Prop :=
  0 < n → ∃ b o, ao = some ⟨b, o, none⟩ ∧ b < w.heap.size ∧ ∀ t, t < n → w.cell? ⟨b, o + t, none⟩ = some (.int q (zs t))

/-- Is x among the first n? -/
def among (x : Int) (zs : Nat → Int) : Nat → Bool
  | 0 => false
  | n + 1 => among x zs n || zs n == x

theorem among_iff (x : Int) (zs : Nat → Int) : ∀ n, among x zs n = true ↔ ∃ t, t < n ∧ zs t = x := by
  intro n
  induction n with
  | zero => simp [among]
  | succ n ih =>
    simp only [among, Bool.or_eq_true, ih, beq_iff_eq]
    constructor
    · rintro (⟨t, ht, e⟩ | e)
      · exact ⟨t, by omega, e⟩
      · exact ⟨n, by omega, e⟩
    · rintro ⟨t, ht, e⟩
      by_cases h : t = n
      · subst h; exact .inr e
      · exact .inl ⟨t, by omega, e⟩

set_option maxHeartbeats 400000 in
theorem isKept_yes (x : Int) (io : Option Addr) (li ci n : Nat) (zs : Nat → Int) (w : World) (hn : n ≤ li) (hN : n ≤ 4096) (hz : Ints .u64 io n zs w) (h : among x zs n = true) :
    Calls Try.prog 14 #[.int .u64 x, .slice io li ci, .int .i64 n] w fun e w' => e = .returned (.bool true) ∧ w' = w := by
  obtain ⟨t0, ht0, he0⟩ := (among_iff x zs n).1 h
  obtain ⟨b, o, rfl, _, hc⟩ := hz (by omega)
  have hcH : Hid (∀ t, t < n → w.cell? ⟨b, o + t, none⟩ = some (.int .u64 (zs t))) := hc
  have heH : Hid (zs t0 = x) := he0
  clear hc he0 h hz
  go_enter Try.func14, Try.ntmps14
  go_wp2
  go_loop [7] (fun i => ∃ k : Nat, k ≤ t0 ∧ i = .int .i64 k) (fun i => n - (intOf i).toNat)
  case atStart => exact ⟨0, by omega, rfl⟩
  case round =>
    obtain ⟨k, hk, rfl⟩ := hrel
    have hck := hcH.out k (by omega)
    have hkl : k < li := by omega
    by_cases he : zs k = x
    · have he' : (zs k == x) = true := by simpa using he
      clear he
      go_wp2
      go_ret
      exact ⟨rfl, rfl⟩
    · have he' : (zs k == x) = false := by simpa using he
      have hk1 : k < t0 := by
        rcases Nat.lt_or_ge k t0 with h | h
        · exact h
        · have : k = t0 := by omega
          subst this
          exact absurd heH.out he
      clear he
      go_wp2
      go_round
      case rel => exact ⟨k + 1, by omega, by go_num⟩
      case measure => simp [intOf]; omega

set_option maxHeartbeats 400000 in
theorem isKept_no (x : Int) (io : Option Addr) (li ci n : Nat) (zs : Nat → Int) (w : World) (hn : n ≤ li) (hN : n ≤ 4096) (hz : Ints .u64 io n zs w) (h : among x zs n = false) :
    Calls Try.prog 14 #[.int .u64 x, .slice io li ci, .int .i64 n] w fun e w' => e = .returned (.bool false) ∧ w' = w := by
  have hno : Hid (∀ t, t < n → zs t ≠ x) := by
    intro t ht e
    have := (among_iff x zs n).2 ⟨t, ht, e⟩
    rw [h] at this
    cases this
  have hzH : Hid (Ints .u64 io n zs w) := hz
  clear h hz
  go_enter Try.func14, Try.ntmps14
  go_wp2
  go_loop [7] (fun i => ∃ k : Nat, k ≤ n ∧ i = .int .i64 k) (fun i => n - (intOf i).toNat)
  case atStart => exact ⟨0, by omega, rfl⟩
  case round =>
    obtain ⟨k, hk, rfl⟩ := hrel
    by_cases hlt : k < n
    · obtain ⟨b, o, rfl, _, hc⟩ := hzH.out (by omega)
      have hck := hc k hlt
      clear hc
      have he' : (zs k == x) = false := by simpa using hno.out k hlt
      have hkl : k < li := by omega
      go_wp2
      go_round
      case rel => exact ⟨k + 1, by omega, by go_num⟩
      case measure => simp [intOf]; omega
    · go_wp2
      go_ret
      exact ⟨rfl, rfl⟩

end Go.Proofs.Qxb6614313a
