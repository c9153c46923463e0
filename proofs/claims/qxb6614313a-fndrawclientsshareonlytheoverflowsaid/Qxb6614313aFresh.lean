/-
  DERIVED. Seat b6614313a: freshIsRight.
-/
import Derived.Test.Qxb6614313aSmall
import Derived.Deep.CutRange
import Derived.IntWalk
namespace Go.Proofs.Qxb6614313a
open Go.RowKit Go.Maps

set_option maxHeartbeats 400000 in
theorem fresh_no (id now : Int) (dv sv : Value) (hsh hcl : Bool) (lt sh cl ov : ByteArray) (bnd r c p : Int) (w : World) (hs : sv = .agg #[.bool hsh, .string lt, .string sh, .string cl, .string ov, .bool hcl, .int .i64 bnd, .int .i64 r, .int .i64 c, .int .i64 p]) :
    Calls Try.prog 21 #[.pointer none, .int .u64 id, dv, .bool false, sv, .int .i64 now] w fun e w' => e = .returned (.bool true) ∧ Below w.heap.size w w' := by
  subst hs
  go_enter Try.func21, Try.ntmps21
  go_wp2
  go_ret
  exact ⟨rfl, (Below.refl _ w).alloc (Nat.le_refl _) _⟩

theorem far_cell {k o : Nat} {v : Value} {wx wy : World} (h : wx.cell? ⟨k, o, none⟩ = some v) (hb : Below (k + 1) wx wy) : wy.cell? ⟨k, o, none⟩ = some v := (hb.cell (p := ⟨k, o, none⟩) (Nat.lt_succ_self k)).trans h

set_option maxRecDepth 100000 in
set_option maxHeartbeats 2000000 in
theorem fresh_yes (f : Nat) (id now : Int) (hsh hcl : Bool) (lt sh cl ov : ByteArray) (bnd r c p : Int) (w : World) (hnow : -9223372036854775808 ≤ now ∧ now ≤ 9223372036854775807) (hF : w.heap[f]? = some (clientObj r c p (now % 1000000000) (now / 1000000000) 0 id 0 0)) :
    Calls Try.prog 21 #[.pointer (some ⟨f, 0, none⟩), .int .u64 id, .pointer (some ⟨f, 0, none⟩), .bool true, .agg #[.bool hsh, .string lt, .string sh, .string cl, .string ov, .bool hcl, .int .i64 bnd, .int .i64 r, .int .i64 c, .int .i64 p], .int .i64 now] w fun e w' => e = .returned (.bool true) ∧ Below w.heap.size w w' := by
  have hf := hp_lt hF
  have heq := eq_same
  have htm := eq_time
  go_enter Try.func21, Try.ntmps21
  go_wp2_with fail
  have h7 : (w.alloc (.cells #[.bool hsh, .string lt, .string sh, .string cl, .string ov, .bool hcl, .int .i64 bnd, .int .i64 r, .int .i64 c, .int .i64 p] 32)).cell? ⟨f, 7, none⟩ = some (.int .u64 id) := by
    rw [((Below.refl _ w).alloc (Nat.le_refl _) _).cell (p := ⟨f, 7, none⟩) hf]
    exact hp_cell hF 7
  refine (freshOf_any f id _ h7).mono ?_
  rintro e w1 ⟨rfl, hb1⟩
  have hB1 : Below w.heap.size w w1 := ((Below.refl _ w).alloc (Nat.le_refl _) _).trans (hb1.mono (by simp))
  have hT1 := (hb1.block w.heap.size (by simp)).trans (hp_new _ _ _ rfl)
  have hF1 := (hB1.block f hf).trans hF
  clear hb1 h7
  go_wp2_with fail
  refine (bucketOf_any f _ _ _ _ _ 0 _ (hp_lt hF1) (hp_cell hF1 0) (hp_cell hF1 1) (hp_cell hF1 2) (hp_cell hF1 3) (hp_cell hF1 4) (hp_cell hF1 5) (hp_cell hF1 6)).mono ?_
  rintro e w2 ⟨rfl, hb2⟩
  have hz1 := hB1.size
  have hB2 : Below w.heap.size w w2 := hB1.trans (hb2.mono hz1)
  have hT2 := (hb2.block w.heap.size (hp_lt hT1)).trans hT1
  have q7 : w2.cell? ⟨w.heap.size, 7, none⟩ = some (.int .i64 r) := hp_cell hT2 7
  have q8 : w2.cell? ⟨w.heap.size, 8, none⟩ = some (.int .i64 c) := hp_cell hT2 8
  have q9 : w2.cell? ⟨w.heap.size, 9, none⟩ = some (.int .i64 p) := hp_cell hT2 9
  have l0 : w.heap.size < w2.heap.size := hp_lt hT2
  have l1 : w.heap.size < w2.heap.size + 1 := by omega
  have l2 : w.heap.size < w2.heap.size + 1 + 1 := by omega
  have l3 : w.heap.size < w2.heap.size + 2 := by omega
  have l4 : w.heap.size < w2.heap.size + 3 := by omega
  have l5 : w.heap.size < w2.heap.size + 1 + 1 + 1 := by omega
  have l6 : w.heap.size < w2.heap.size + 4 := by omega
  have l7 : w.heap.size < w2.heap.size + 1 + 1 + 1 + 1 := by omega
  clear hb2 hT1 hF1 hT2 hF
  go_wp2_with fail
  go_region_held3 (fun w' => w'.cell? ⟨w.heap.size, 7, none⟩ = some (.int .i64 r) ∧ w'.cell? ⟨w.heap.size, 8, none⟩ = some (.int .i64 c) ∧ w'.cell? ⟨w.heap.size, 9, none⟩ = some (.int .i64 p) ∧ w'.cell? ⟨w2.heap.size, 0, none⟩ = some (.int .u64 (now % 1000000000)) ∧ w'.cell? ⟨w2.heap.size, 1, none⟩ = some (.int .i64 (now / 1000000000)) ∧ w'.cell? ⟨w2.heap.size, 2, none⟩ = some (.pointer none)) (first | (refine ⟨far_cell q7 (by repeat' first | exact Below.refl _ _ | apply Below.drew | (refine Below.alloc ?_ (by first | omega | (simp; omega) | (simp; done)) _)), far_cell q8 (by repeat' first | exact Below.refl _ _ | apply Below.drew | (refine Below.alloc ?_ (by first | omega | (simp; omega) | (simp; done)) _)), far_cell q9 (by repeat' first | exact Below.refl _ _ | apply Below.drew | (refine Below.alloc ?_ (by first | omega | (simp; omega) | (simp; done)) _)), ?_, ?_, ?_⟩ <;> go_keep <;> done) | go_keep)
    (first | (go_at_call 16; refine (at_any now _ hnow).mono ?_; rintro e w3 ⟨rfl, rfl⟩))
  all_goals
    go_wp2_with fail
    go_ret
    refine ⟨rfl, hB2.trans (?_ : Below w.heap.size w2 _)⟩
    repeat' first | exact Below.refl _ _ | assumption | apply Below.drew | (refine Below.alloc ?_ (by first | omega | (simp; omega) | (simp; done)) _)

end Go.Proofs.Qxb6614313a
