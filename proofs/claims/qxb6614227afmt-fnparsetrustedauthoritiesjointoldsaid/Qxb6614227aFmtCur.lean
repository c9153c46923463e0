/-
  DERIVED. Seat b6614227aF: small walks on the cursor (empty, bytes, uint8, contents).
-/
import Derived.Test.Qxb6614227aFmtRows
import Derived.WalkKit
import Derived.WalkSpells
import Derived.WalkLawsBesides
namespace Go.Proofs.Qxb6614227aFmt
open Go.RowKit

/-- Where a slice begins behind 's[n:]' of a slice at o with m cells (its capacity). -/
def curAfter (o m n : Nat) : Nat := if m = n then o else o + n

set_option maxHeartbeats 400000 in
theorem empty_any (L : Nat) (ao : Option Addr) (m cp : Nat) (w : World) (hc : w.cell? ⟨L, 0, none⟩ = some (.slice ao m cp)) :
    Calls Tryf.prog 28 #[.pointer (some ⟨L, 0, none⟩)] w fun e w' => e = .returned (.bool ((m : Int) == 0)) ∧ w' = w := by
  go_enter Tryf.func28, Tryf.ntmps28
  go_wp2
  go_ret
  exact ⟨rfl, rfl⟩

set_option maxHeartbeats 400000 in
theorem bytes_no (L : Nat) (ao : Option Addr) (m cp n : Nat) (w : World) (hn : m < n) (hc : w.cell? ⟨L, 0, none⟩ = some (.slice ao m cp)) :
    Calls Tryf.prog 31 #[.pointer (some ⟨L, 0, none⟩), .int .i64 n] w fun e w' => e = .returned (.tuple #[.slice none 0 0, .bool false]) ∧ w' = w := by
  go_enter Tryf.func31, Tryf.ntmps31
  go_wp2
  go_ret2
  exact ⟨rfl, rfl⟩

set_option maxHeartbeats 400000 in
theorem bytes_ok (L bd o m n : Nat) (w : World) (hn : n ≤ m) (hn0 : 0 < n) (hc : w.cell? ⟨L, 0, none⟩ = some (.slice (some ⟨bd, o, none⟩) m m)) (hf : w.frozen? ⟨L, 0, none⟩ = false) :
    Calls Tryf.prog 31 #[.pointer (some ⟨L, 0, none⟩), .int .i64 n] w fun e w' => e = .returned (.tuple #[.slice (some ⟨bd, o, none⟩) n n, .bool true]) ∧ w' = w.setCell ⟨L, 0, none⟩ (.slice (some ⟨bd, curAfter o m n, none⟩) (m - n) (m - n)) := by
  go_enter Tryf.func31, Tryf.ntmps31
  go_wp2
  · go_ret2
    exact ⟨rfl, by simp [curAfter]⟩
  · go_ret2
    exact ⟨rfl, by simp [curAfter, *]⟩

set_option maxHeartbeats 400000 in
theorem uint8_ok (L bd o m : Nat) (y : Int) (w : World) (hm : 0 < m) (hne : bd ≠ L) (hc : w.cell? ⟨L, 0, none⟩ = some (.slice (some ⟨bd, o, none⟩) m m)) (hf : w.frozen? ⟨L, 0, none⟩ = false) (hy : w.cell? ⟨bd, o, none⟩ = some (.int .u8 y)) :
    Calls Tryf.prog 24 #[.pointer (some ⟨L, 0, none⟩)] w fun e w' => e = .returned (.tuple #[.int .u8 y, .bool true]) ∧ w' = w.setCell ⟨L, 0, none⟩ (.slice (some ⟨bd, curAfter o m 1, none⟩) (m - 1) (m - 1)) := by
  go_enter Tryf.func24, Tryf.ntmps24
  go_wp2_with (go_at_call 31; refine (bytes_ok L bd o m 1 _ (by omega) (by omega) hc hf).mono ?_; rintro e w' ⟨rfl, rfl⟩)
  go_ret2
  exact ⟨rfl, rfl⟩

set_option maxHeartbeats 400000 in
theorem contents_no (L : Nat) (ao : Option Addr) (m cp : Nat) (k : Int) (w : World) (h0 : 0 ≤ k) (h1 : k ≤ 65535) (hn : (m : Int) < 2 + k) (hc : w.cell? ⟨L, 0, none⟩ = some (.slice ao m cp)) :
    Calls Tryf.prog 33 #[.pointer (some ⟨L, 0, none⟩), .int .i64 2, .int .i64 k] w fun e w' => e = .returned (.tuple #[.slice none 0 0, .bool false]) ∧ w' = w := by
  go_enter Tryf.func33, Tryf.ntmps33
  go_wp2
  go_ret2
  exact ⟨rfl, rfl⟩

set_option maxHeartbeats 400000 in
theorem contents_ok (L bd o m k : Nat) (w : World) (h1 : k ≤ 65535) (hn : 2 + k ≤ m) (hc : w.cell? ⟨L, 0, none⟩ = some (.slice (some ⟨bd, o, none⟩) m m)) (hf : w.frozen? ⟨L, 0, none⟩ = false) :
    Calls Tryf.prog 33 #[.pointer (some ⟨L, 0, none⟩), .int .i64 2, .int .i64 k] w fun e w' => e = .returned (.tuple #[.slice (some ⟨bd, curAfter o (2 + k) 2, none⟩) k k, .bool true]) ∧ w' = w.setCell ⟨L, 0, none⟩ (.slice (some ⟨bd, curAfter o m (2 + k), none⟩) (m - (2 + k)) (m - (2 + k))) := by
  by_cases hk : k = 0
  · subst hk
    by_cases hm : m = 2
    · subst hm
      go_enter Tryf.func33, Tryf.ntmps33
      go_wp2
      go_ret2
      exact ⟨by simp [curAfter], by simp [curAfter]⟩
    · go_enter Tryf.func33, Tryf.ntmps33
      go_wp2
      go_ret2
      exact ⟨by simp [curAfter], by simp [curAfter, hm]⟩
  · by_cases hm : m = 2 + k
    · subst hm
      go_enter Tryf.func33, Tryf.ntmps33
      go_wp2
      all_goals first | (exfalso; omega) | skip
      go_ret2
      exact ⟨by simp [curAfter, hk], by simp [curAfter]⟩
    · go_enter Tryf.func33, Tryf.ntmps33
      go_wp2
      all_goals first | (exfalso; omega) | skip
      go_ret2
      exact ⟨by simp [curAfter, hk], by simp [curAfter, hm]⟩

end Go.Proofs.Qxb6614227aFmt
