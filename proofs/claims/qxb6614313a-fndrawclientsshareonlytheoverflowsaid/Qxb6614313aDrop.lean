/-
  DERIVED. Seat b6614313a: drop drops nothing where the soonest due lies ahead.
-/
import Derived.Test.Qxb6614313aBucket
import Derived.WalkSmall
namespace Go.Proofs.Qxb6614313a
open Go.RowKit

set_option maxHeartbeats 1000000 in
theorem drop_none (C cp : Nat) (ao : Option Addr) (N S : Int) (w : World) (hc : C < w.heap.size) (h5 : w.cell? ⟨C, 5, none⟩ = some (.slice ao 0 cp)) :
    Calls Try.prog 39 #[.pointer (some ⟨C, 0, none⟩), .agg #[.int .u64 N, .int .i64 S, .pointer none]] w fun e w' => e = .returned (.tuple #[]) ∧ Below w.heap.size w w' := by
  go_enter Try.func39, Try.ntmps39
  go_wp2_with fail
  go_loopw [4, 5] (fun _ _ wr => wr = w.alloc (timeObj N S)) (fun _ _ _ => 0)
  case atStart => rfl
  case round =>
    subst hrel
    go_wp2_with fail
    go_quiet (fail)
    go_wp2_with fail
    go_end0
    exact ⟨rfl, below_drewN ((Below.refl _ w).alloc (Nat.le_refl _) _) _⟩

set_option maxHeartbeats 1000000 in
theorem drop_some (C g k0 n cp : Nat) (a b : Int) (w : World) (hc : C < w.heap.size) (hg : g < w.heap.size) (hk : k0 < w.heap.size) (hn : 0 < n) (h : b < a) (h5 : w.cell? ⟨C, 5, none⟩ = some (.slice (some ⟨g, 0, none⟩) n cp))
    (h0 : w.cell? ⟨g, 0, none⟩ = some (.pointer (some ⟨k0, 0, none⟩))) (h8 : w.cell? ⟨k0, 8, none⟩ = some (.int .u64 (a % 1000000000))) (h9 : w.cell? ⟨k0, 9, none⟩ = some (.int .i64 (a / 1000000000))) (h10 : w.cell? ⟨k0, 10, none⟩ = some (.pointer none)) :
    Calls Try.prog 39 #[.pointer (some ⟨C, 0, none⟩), .agg #[.int .u64 (b % 1000000000), .int .i64 (b / 1000000000), .pointer none]] w fun e w' => e = .returned (.tuple #[]) ∧ Below w.heap.size w w' := by
  have hn' : (0 : Int) < (n : Int) := by omega
  go_enter Try.func39, Try.ntmps39
  go_wp2_with fail
  go_loopw [4, 5] (fun _ _ wr => wr = w.alloc (.cells #[.int .u64 (b % 1000000000), .int .i64 (b / 1000000000), .pointer none] 43)) (fun _ _ _ => 0)
  case atStart => rfl
  case round =>
    subst hrel
    go_wp2_with fail
    go_region_with (go_at_call 40; refine (after_yes a b _ h).mono ?_; rintro e w' ⟨rfl, rfl⟩)
    all_goals
      go_wp2_with fail
      go_end0
      refine ⟨rfl, ?_⟩
      repeat' first | exact Below.refl _ _ | apply Below.drew | (refine Below.alloc ?_ (by simp <;> omega) _)

end Go.Proofs.Qxb6614313a
