/-
  DERIVED. Seat b6614313a: the two gates ahead of the law: zzBytes, drawInputTooBig.
-/
import Derived.Test.Qxb6614313aBuild
namespace Go.Proofs.Qxb6614313a
open Go.RowKit Go.Maps

set_option maxHeartbeats 2000000 in
theorem bytes_any (a b now : Int) (hsh hcl : Bool) (lt sh cl ov : ByteArray) (bnd r c p : Int) (io dO : Option Addr) (li ci ld cd : Nat) (w : World) :
    Calls Try.prog 10 #[.int .u64 a, .int .u64 b, .int .i64 now, .agg #[.bool hsh, .string lt, .string sh, .string cl, .string ov, .bool hcl, .int .i64 bnd, .int .i64 r, .int .i64 c, .int .i64 p], .slice io li ci, .slice dO ld cd] w fun e w' => (∃ q, e = .returned (.bool q)) ∧ Below w.heap.size w w' := by
  go_enter Try.func10, Try.ntmps10
  go_wp2_with fail
  all_goals
    go_ret
    exact ⟨⟨_, rfl⟩, (Below.refl _ w).alloc (Nat.le_refl _) _⟩

/-- Where the gate lets through, the lists are short. -/
def BigPost (li ld : Nat) (w : World) (e : Ending) (w' : World) : Prop := (∃ q, e = .returned (.bool q) ∧ (q = false → li ≤ 4096 ∧ ld ≤ 4096)) ∧ Below w.heap.size w w'

set_option maxRecDepth 10000 in
set_option maxHeartbeats 2000000 in
theorem big_any (hsh hcl : Bool) (lt sh cl ov : ByteArray) (bnd r c p : Int) (io dO : Option Addr) (li ci ld cd : Nat) (w : World) :
    Calls Try.prog 11 #[.slice none 0 0, .agg #[.bool hsh, .string lt, .string sh, .string cl, .string ov, .bool hcl, .int .i64 bnd, .int .i64 r, .int .i64 c, .int .i64 p], .slice io li ci, .slice dO ld cd] w (BigPost li ld w) := by
  by_cases h1 : (1048576 : Int) < lt.size
  · go_enter Try.func11, Try.ntmps11
    go_wp2_with fail
    go_ret
    exact ⟨⟨_, rfl, fun h => by cases h⟩, (Below.refl _ w).alloc (Nat.le_refl _) _⟩
  by_cases h2 : (1048576 : Int) < sh.size
  · go_enter Try.func11, Try.ntmps11
    go_wp2_with fail
    go_ret
    exact ⟨⟨_, rfl, fun h => by cases h⟩, (Below.refl _ w).alloc (Nat.le_refl _) _⟩
  by_cases h3 : (1048576 : Int) < cl.size
  · go_enter Try.func11, Try.ntmps11
    go_wp2_with fail
    go_ret
    exact ⟨⟨_, rfl, fun h => by cases h⟩, (Below.refl _ w).alloc (Nat.le_refl _) _⟩
  by_cases h4 : (1048576 : Int) < ov.size
  · go_enter Try.func11, Try.ntmps11
    go_wp2_with fail
    go_ret
    exact ⟨⟨_, rfl, fun h => by cases h⟩, (Below.refl _ w).alloc (Nat.le_refl _) _⟩
  by_cases h5 : (4096 : Int) < li
  · go_enter Try.func11, Try.ntmps11
    go_wp2_with fail
    go_ret
    exact ⟨⟨_, rfl, fun h => by cases h⟩, (Below.refl _ w).alloc (Nat.le_refl _) _⟩
  by_cases h6 : (4096 : Int) < ld
  · go_enter Try.func11, Try.ntmps11
    go_wp2_with fail
    go_ret
    exact ⟨⟨_, rfl, fun h => by cases h⟩, (Below.refl _ w).alloc (Nat.le_refl _) _⟩
  go_enter Try.func11, Try.ntmps11
  go_wp2_with fail
  · go_ret
    exact ⟨⟨_, rfl, fun h => by cases h⟩, (Below.refl _ w).alloc (Nat.le_refl _) _⟩
  · go_loopw [10] (fun i wr => i = .int .i64 0 ∧ Below w.heap.size w wr) (fun _ _ => 0)
    case atStart => exact ⟨rfl, (Below.refl _ w).alloc (Nat.le_refl _) _⟩
    case round =>
      obtain ⟨rfl, hb⟩ := hrel
      go_wp2_with fail
      go_ret
      exact ⟨⟨_, rfl, fun _ => ⟨by omega, by omega⟩⟩, hb⟩

end Go.Proofs.Qxb6614313a
