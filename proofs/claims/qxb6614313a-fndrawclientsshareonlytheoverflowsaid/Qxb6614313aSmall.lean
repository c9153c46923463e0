/-
  DERIVED. Seat b6614313a: the small exports: ZZShared, ZZOverflow, ZZDrawOf, ZZFreshOf, ZZBucketOf; freshIsRight.
-/
import Derived.Test.Qxb6614313aBuild
import Derived.WalkSmall
import Derived.LaidEqlPtr
import Derived.Laws.StructEq
namespace Go.Proofs.Qxb6614313a
open Go.RowKit Go.Maps

theorem Try.info58 : (Try.prog.info? 58).map (fun i => i.size) = some 7 := by kernel_rfl

theorem eq_same (w : World) (a : Addr) : (binOp .eql 46 (.pointer (some a)) (.pointer (some a))).run Try.prog w = .ok (.bool true) w := by
  obtain ⟨j, hj, _⟩ := Option.map_eq_some_iff.1 Try.info58
  exact run_eql_ptr_same w a Try.underlying46 hj

theorem neq_same (w : World) (a : Addr) : (binOp .neq 46 (.pointer (some a)) (.pointer (some a))).run Try.prog w = .ok (.bool false) w := by
  obtain ⟨j, hj, _⟩ := Option.map_eq_some_iff.1 Try.info58
  have h : ∀ d : Nat, (Op.equalIn (d + 1) 46 (.pointer (some a)) (.pointer (some a))).run Try.prog w = .ok true w := fun d => by
    simp [Op.equalIn, run_underlying Try.underlying46, sizeOf, typeInfo, hj, run_sameAddr_same]
  simp only [binOp]
  simp [Op.equal, Op.maxDepth, h 9999]

theorem eq_other (w : World) (k l : Nat) (ck cl : Array Value) (tk tl : TypeId) (h : k ≠ l) (hk : w.heap[k]? = some (.cells ck tk)) (hl : w.heap[l]? = some (.cells cl tl)) : (binOp .eql 46 (.pointer (some ⟨k, 0, none⟩)) (.pointer (some ⟨l, 0, none⟩))).run Try.prog w = .ok (.bool false) w := by
  obtain ⟨j, hj, hz⟩ := Option.map_eq_some_iff.1 Try.info58
  exact run_eql_ptr_other w Try.underlying46 hj (by rw [hz]; decide) (by intro e; injection e with e; exact h e) hk hl

theorem eq_time (w : World) (N S : Int) : (binOp .eql 43 (.agg #[.int .u64 N, .int .i64 S, .pointer none]) (.agg #[.int .u64 N, .int .i64 S, .pointer none])).run Try.prog w = .ok (.bool true) w := by
  have hS : Try.prog.underlying 43 = some (.struct (Try.prog.fieldsOf 43)) := by kernel_rfl
  have hp : Try.prog.stoodInHeld 43 = false := by kernel_rfl
  rw [run_eql_struct, show (10000 : Nat) = 9999 + 1 from rfl, run_equalIn_agg w 9999 43 _ _ hS hp]
  simp only [Program.fieldsOf, Try.underlying43]
  go_simp
  have h : ∀ d : Nat, (Op.equalIn (d + 1) 41 (.pointer none) (.pointer none)).run Try.prog w = .ok true w := fun d => by
    simp [Op.equalIn, run_underlying Try.underlying41, sizeOf, typeInfo]
  rw [h 9998]
  rfl

set_option maxHeartbeats 400000 in
theorem shared_any (s : Nat) (v : Value) (w : World) (h : w.cell? ⟨s, 2, none⟩ = some v) :
    Calls Try.prog 18 #[.pointer (some ⟨s, 0, none⟩)] w fun e w' => e = .returned v ∧ w' = w := by
  go_enter Try.func18, Try.ntmps18
  go_wp2
  go_ret
  exact ⟨rfl, rfl⟩

set_option maxHeartbeats 400000 in
theorem overflow_any (s C : Nat) (v : Value) (w : World) (h : w.cell? ⟨s, 3, none⟩ = some (.pointer (some ⟨C, 0, none⟩))) (h6 : w.cell? ⟨C, 6, none⟩ = some v) :
    Calls Try.prog 20 #[.pointer (some ⟨s, 0, none⟩)] w fun e w' => e = .returned v ∧ w' = w := by
  go_enter Try.func20, Try.ntmps20
  go_wp2
  go_ret
  exact ⟨rfl, rfl⟩

set_option maxHeartbeats 400000 in
theorem drawOf_any (v : Value) (t : ByteArray) (w : World) :
    Calls Try.prog 19 #[.agg #[v, .string t]] w fun e w' => e = .returned (.tuple #[v, .string t]) ∧ Below w.heap.size w w' := by
  go_enter Try.func19, Try.ntmps19
  go_wp2
  go_quiet (fail)
  go_wp2
  go_ret2
  exact ⟨rfl, below_drewN ((Below.refl _ w).alloc (Nat.le_refl _) _) _⟩

set_option maxHeartbeats 400000 in
theorem freshOf_any (f : Nat) (id : Int) (w : World) (h : w.cell? ⟨f, 7, none⟩ = some (.int .u64 id)) :
    Calls Try.prog 30 #[.pointer (some ⟨f, 0, none⟩)] w fun e w' => e = .returned (.tuple #[.int .u64 id, .pointer (some ⟨f, 0, none⟩)]) ∧ Below w.heap.size w w' := by
  go_enter Try.func30, Try.ntmps30
  go_wp2
  go_quiet (fail)
  go_wp2
  go_ret2
  exact ⟨rfl, below_drewN (Below.refl _ w) _⟩

set_option maxHeartbeats 1000000 in
theorem bucketOf_any (f : Nat) (r c p N S t : Int) (w : World) (hf : f < w.heap.size) (h0 : w.cell? ⟨f, 0, none⟩ = some (.int .u64 r)) (h1 : w.cell? ⟨f, 1, none⟩ = some (.int .u64 c)) (h2 : w.cell? ⟨f, 2, none⟩ = some (.int .u64 p)) (h3 : w.cell? ⟨f, 3, none⟩ = some (.int .u64 N)) (h4 : w.cell? ⟨f, 4, none⟩ = some (.int .i64 S)) (h5 : w.cell? ⟨f, 5, none⟩ = some (.pointer none)) (h6 : w.cell? ⟨f, 6, none⟩ = some (.int .u64 t)) :
    Calls Try.prog 31 #[.pointer (some ⟨f, 0, none⟩)] w fun e w' => e = .returned (.tuple #[.int .u64 r, .int .u64 c, .int .u64 p, .int .u64 t, .agg #[.int .u64 N, .int .i64 S, .pointer none]]) ∧ Below w.heap.size w w' := by
  go_enter Try.func31, Try.ntmps31
  go_wp2
  go_region
  all_goals go_wp2
  all_goals exact bodyPost_ret (v := .tuple #[.int .u64 r, .int .u64 c, .int .u64 p, .int .u64 t, .agg #[.int .u64 N, .int .i64 S, .pointer none]]) (by simp [results, Try.results31, go_sem]) rfl ⟨rfl, ((Below.refl _ w).alloc (Nat.le_refl _) _).drew⟩

end Go.Proofs.Qxb6614313a
