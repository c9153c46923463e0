/-
  DERIVED. Seat b6614313a: the section is made: ZZNewSection, ZZGiveShared, ZZGiveClients.
-/
import Derived.Test.Qxb6614313aBucket
import Derived.Carry
namespace Go.Proofs.Qxb6614313a
open Go.RowKit

set_option maxHeartbeats 400000 in
theorem newSection_any (lt sh cl ov : ByteArray) (w : World) :
    Calls Try.prog 24 #[.string lt, .string sh, .string cl, .string ov] w fun e w' => e = .returned (.pointer (some ⟨w.heap.size + 1, 0, none⟩)) ∧
      w' = (w.alloc (.cells #[.string sh, .string cl, .string ov] 94)).alloc (.cells #[.int .i32 0, .int .u32 0, .pointer none, .pointer none, .pointer (some ⟨w.heap.size, 0, none⟩), .string lt] 80) := by
  go_enter Try.func24, Try.ntmps24
  go_wp2
  go_ret
  exact ⟨rfl, rfl⟩

set_option maxHeartbeats 400000 in
theorem giveShared_any (s : Nat) (r c p : Int) (u : Value) (w : World) (hc : w.cell? ⟨s, 2, none⟩ = some u) (hf : w.frozen? ⟨s, 2, none⟩ = false) (hs : s < w.heap.size) :
    Calls Try.prog 25 #[.pointer (some ⟨s, 0, none⟩), .int .i64 r, .int .i64 c, .int .i64 p] w fun e w' => e = .returned (.tuple #[]) ∧
      w' = ((((w.setCell ⟨s, 2, none⟩ (.pointer (some ⟨w.heap.size + 2, 0, none⟩))).alloc (.cells #[.int .i64 r, .int .i64 c, .int .i64 p] 97)).alloc (timeObj 0 0)).alloc (bucketObj r c p 0 0)).drew := by
  have hs1 : s < w.heap.size + 1 := by omega
  have hs2 : s < w.heap.size + 1 + 1 := by omega
  have hs3 : s < w.heap.size + 2 := by omega
  go_enter Try.func25, Try.ntmps25
  go_wp2_with (go_at_call 35; refine (newBucket_any _ r c p 0 0 _ (by simp) ⟨by go_simp, by go_simp, by go_simp⟩).mono ?_; rintro e w' ⟨rfl, rfl⟩)
  go_end0
  exact ⟨rfl, rfl⟩

/-- The clients' eight cells as they are made. -/
def clientsObj (Z M O R : Nat) (bnd : Int) : Obj := .cells #[.pointer (some ⟨Z, 0, none⟩), .string ⟨#[]⟩, .int .i64 bnd, .int .u64 0, .map (some M), .slice none 0 0, .pointer (some ⟨O, 0, none⟩), .pointer (some ⟨R, 0, none⟩)] 86
def sizeObj (r c p : Int) : Obj := .cells #[.int .i64 r, .int .i64 c, .int .i64 p] 97

/-- What ZZGiveClients leaves. -/
def Gave (s C Z M O R : Nat) (bnd r c p : Int) (w w' : World) : Prop :=
  w.heap.size ≤ Z ∧ w.heap.size ≤ M ∧ w.heap.size ≤ O ∧ w.heap.size ≤ C ∧ M ≠ C ∧ w'.heap[Z]? = some (sizeObj r c p) ∧ w'.heap[M]? = some (.map #[] 0) ∧ w'.heap[O]? = some (bucketObj r c p 0 0) ∧ w'.heap[C]? = some (clientsObj Z M O R bnd) ∧
  w'.cell? ⟨s, 3, none⟩ = some (.pointer (some ⟨C, 0, none⟩)) ∧ (∀ i, i ≠ 3 → w'.cell? ⟨s, i, none⟩ = w.cell? ⟨s, i, none⟩) ∧ (∀ b, b < w.heap.size → b ≠ s → w'.heap[b]? = w.heap[b]?) ∧ (∀ i, w'.frozen? ⟨s, i, none⟩ = w.frozen? ⟨s, i, none⟩) ∧ Below s w w' ∧ w'.heap[s]? = (w.setCell ⟨s, 3, none⟩ (.pointer (some ⟨C, 0, none⟩))).heap[s]?

theorem gave_one (s R : Nat) (bnd r c p : Int) (u : Value) (w : World) (hc : w.cell? ⟨s, 3, none⟩ = some u) (hs : s < w.heap.size) :
    Gave s (w.heap.size + 1 + 1 + 1 + 1) w.heap.size (w.heap.size + 1) (w.heap.size + 1 + 1 + 1) R bnd r c p w (((((((w.setCell ⟨s, 3, none⟩ (.pointer (some ⟨w.heap.size + 1 + 1 + 1 + 1, 0, none⟩))).alloc (sizeObj r c p)).alloc (.map #[] 0)).alloc (timeObj 0 0)).alloc (bucketObj r c p 0 0)).alloc (clientsObj w.heap.size (w.heap.size + 1) (w.heap.size + 1 + 1 + 1) R bnd)).drew.drew) := by
  have hb : Below w.heap.size (w.setCell ⟨s, 3, none⟩ (.pointer (some ⟨w.heap.size + 1 + 1 + 1 + 1, 0, none⟩))) (((((((w.setCell ⟨s, 3, none⟩ (.pointer (some ⟨w.heap.size + 1 + 1 + 1 + 1, 0, none⟩))).alloc (sizeObj r c p)).alloc (.map #[] 0)).alloc (timeObj 0 0)).alloc (bucketObj r c p 0 0)).alloc (clientsObj w.heap.size (w.heap.size + 1) (w.heap.size + 1 + 1 + 1) R bnd)).drew.drew) :=
    (((((((Below.refl _ _).alloc (by simp) _).alloc (by simp) _).alloc (by simp <;> omega) _).alloc (by simp <;> omega) _).alloc (by simp <;> omega) _).drew).drew
  obtain ⟨k1, k2, k3, k4, k5⟩ := kept_set hc hb hs
  refine ⟨by omega, by omega, by omega, by omega, by omega, ?_, ?_, ?_, ?_, k1, k2, k3, k4, k5, hb.block s hs⟩
  · rw [hp_drew, hp_drew, hp_old _ _ _ (by simp <;> omega), hp_old _ _ _ (by simp <;> omega), hp_old _ _ _ (by simp <;> omega), hp_old _ _ _ (by simp), hp_new _ _ _ (by simp)]
  · rw [hp_drew, hp_drew, hp_old _ _ _ (by simp <;> omega), hp_old _ _ _ (by simp <;> omega), hp_old _ _ _ (by simp), hp_new _ _ _ (by simp)]
  · rw [hp_drew, hp_drew, hp_old _ _ _ (by simp), hp_new _ _ _ (by simp)]
  · rw [hp_drew, hp_drew, hp_new _ _ _ (by simp)]

theorem gave_two (s R : Nat) (bnd r c p : Int) (u : Value) (w : World) (hc : w.cell? ⟨s, 3, none⟩ = some u) (hs : s < w.heap.size) :
    Gave s (w.heap.size + 1 + 1 + 1 + 1) w.heap.size (w.heap.size + 1 + 1 + 1) (w.heap.size + 1 + 1) R bnd r c p w (((((((w.setCell ⟨s, 3, none⟩ (.pointer (some ⟨w.heap.size + 1 + 1 + 1 + 1, 0, none⟩))).alloc (sizeObj r c p)).alloc (timeObj 0 0)).alloc (bucketObj r c p 0 0)).alloc (.map #[] 0)).alloc (clientsObj w.heap.size (w.heap.size + 1 + 1 + 1) (w.heap.size + 1 + 1) R bnd)).drew.drew) := by
  have hb : Below w.heap.size (w.setCell ⟨s, 3, none⟩ (.pointer (some ⟨w.heap.size + 1 + 1 + 1 + 1, 0, none⟩))) (((((((w.setCell ⟨s, 3, none⟩ (.pointer (some ⟨w.heap.size + 1 + 1 + 1 + 1, 0, none⟩))).alloc (sizeObj r c p)).alloc (timeObj 0 0)).alloc (bucketObj r c p 0 0)).alloc (.map #[] 0)).alloc (clientsObj w.heap.size (w.heap.size + 1 + 1 + 1) (w.heap.size + 1 + 1) R bnd)).drew.drew) :=
    (((((((Below.refl _ _).alloc (by simp) _).alloc (by simp) _).alloc (by simp <;> omega) _).alloc (by simp <;> omega) _).alloc (by simp <;> omega) _).drew).drew
  obtain ⟨k1, k2, k3, k4, k5⟩ := kept_set hc hb hs
  refine ⟨by omega, by omega, by omega, by omega, by omega, ?_, ?_, ?_, ?_, k1, k2, k3, k4, k5, hb.block s hs⟩
  · rw [hp_drew, hp_drew, hp_old _ _ _ (by simp <;> omega), hp_old _ _ _ (by simp <;> omega), hp_old _ _ _ (by simp <;> omega), hp_old _ _ _ (by simp), hp_new _ _ _ (by simp)]
  · rw [hp_drew, hp_drew, hp_old _ _ _ (by simp), hp_new _ _ _ (by simp)]
  · rw [hp_drew, hp_drew, hp_old _ _ _ (by simp <;> omega), hp_old _ _ _ (by simp), hp_new _ _ _ (by simp)]
  · rw [hp_drew, hp_drew, hp_new _ _ _ (by simp)]

set_option maxHeartbeats 1000000 in
theorem giveClients_any (s R : Nat) (bnd r c p : Int) (u : Value) (w : World) (hc : w.cell? ⟨s, 3, none⟩ = some u) (hf : w.frozen? ⟨s, 3, none⟩ = false) (hR : w.cell? ⟨s, 4, none⟩ = some (.pointer (some ⟨R, 0, none⟩))) (hs : s < w.heap.size) :
    Calls Try.prog 26 #[.pointer (some ⟨s, 0, none⟩), .int .i64 bnd, .int .i64 r, .int .i64 c, .int .i64 p] w fun e w' => e = .returned (.tuple #[]) ∧ ∃ C Z M O, Gave s C Z M O R bnd r c p w w' := by
  have hmm := @run_makeMap Try.prog
  have hs1 : s < w.heap.size + 1 := by omega
  have hs2 : s < w.heap.size + 1 + 1 := by omega
  have hs3 : s < w.heap.size + 1 + 1 + 1 := by omega
  have hs4 : s < w.heap.size + 1 + 1 + 1 + 1 := by omega
  have hs2' : s < w.heap.size + 2 := by omega
  have hs3' : s < w.heap.size + 3 := by omega
  have hs4' : s < w.heap.size + 4 := by omega
  go_enter Try.func26, Try.ntmps26
  go_wp2
  go_region_with (go_at_call 35; refine (newBucket_any w.heap.size r c p 0 0 _ (by first | (simp; omega) | simp) ⟨by go_simp, by go_simp, by go_simp⟩).mono ?_; rintro e w' ⟨rfl, rfl⟩)
  all_goals go_end0
  all_goals first
    | exact ⟨rfl, _, _, _, _, gave_one s R bnd r c p u w hc hs⟩
    | exact ⟨rfl, _, _, _, _, gave_two s R bnd r c p u w hc hs⟩

end Go.Proofs.Qxb6614313a
