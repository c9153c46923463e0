/-
  DERIVED. Seat b6614313a: newBucket; the section's parts.
-/
import Derived.Test.Qxb6614313aTime
import Derived.Deep.QuietTactic
import Derived.BigQuiet
import Derived.BigRegion
import Derived.Deep.RegionWith
import Derived.Deep.RegionHeld3
namespace Go.Proofs.Qxb6614313a
open Go.RowKit

/-! ### a block's content -/
theorem hp_new (w : World) (o : Obj) (k : Nat) (h : k = w.heap.size) : (w.alloc o).heap[k]? = some o := by
  subst h
  show (w.heap.push o)[w.heap.size]? = some o
  simp
theorem hp_old (w : World) (o : Obj) (k : Nat) (h : k < w.heap.size) : (w.alloc o).heap[k]? = w.heap[k]? := Below.heap_alloc w o k h
theorem hp_drew (w : World) : w.drew.heap = w.heap := rfl
theorem hp_cell {w : World} {k : Nat} {cs : Array Value} {T : TypeId} (h : w.heap[k]? = some (.cells cs T)) (j : Nat) : w.cell? ⟨k, j, none⟩ = cs[j]? := by
  simp [World.cell?, h]
theorem hp_frozen {w : World} {k : Nat} {cs : Array Value} {T : TypeId} (h : w.heap[k]? = some (.cells cs T)) (j : Nat) : w.frozen? ⟨k, j, none⟩ = false := by
  simp [World.frozen?, h]
theorem hp_lt {w : World} {k : Nat} {o : Obj} (h : w.heap[k]? = some o) : k < w.heap.size := (Array.getElem?_eq_some_iff.1 h).1

/-- What a store into one cell of block s leaves, whatever is made behind it. -/
theorem kept_set {w w' : World} {s j : Nat} {u v : Value} (hc : w.cell? ⟨s, j, none⟩ = some u) (hb : Below w.heap.size (w.setCell ⟨s, j, none⟩ v) w') (hs : s < w.heap.size) :
    w'.cell? ⟨s, j, none⟩ = some v ∧ (∀ i, i ≠ j → w'.cell? ⟨s, i, none⟩ = w.cell? ⟨s, i, none⟩) ∧ (∀ b, b < w.heap.size → b ≠ s → w'.heap[b]? = w.heap[b]?) ∧ (∀ i, w'.frozen? ⟨s, i, none⟩ = w.frozen? ⟨s, i, none⟩) ∧ Below s w w' := by
  refine ⟨?_, ?_, ?_, ?_, ?_⟩
  · rw [hb.cell (p := ⟨s, j, none⟩) hs]
    exact World.cell?_setCell_same' _ _ _ (by simp [hc])
  · intro i hi
    rw [hb.cell (p := ⟨s, i, none⟩) hs]
    exact World.cell?_setCell_other _ _ _ _ (by intro e; injection e with e1 e2; exact hi e2.symm)
  · intro b hb' hne
    rw [hb.block b hb']
    exact Below.heap_setCell w ⟨s, j, none⟩ v b hne
  · intro i
    rw [hb.frozen (p := ⟨s, i, none⟩) hs]
    simp
  · exact ((Below.refl s w).setCell (Nat.le_refl _) v).trans (hb.mono (by omega))

/-- A full bucket's seven cells. -/
def bucketObj (r c p N S : Int) : Obj := .cells #[.int .u64 (IntKind.u64.wrap r), .int .u64 (IntKind.u64.wrap c), .int .u64 (IntKind.u64.wrap p), .int .u64 N, .int .i64 S, .pointer none, .int .u64 0] 58

/-- A size's three cells. -/
def Size (Z : Nat) (r c p : Int) (w : World) : Prop := w.cell? ⟨Z, 0, none⟩ = some (.int .i64 r) ∧ w.cell? ⟨Z, 1, none⟩ = some (.int .i64 c) ∧ w.cell? ⟨Z, 2, none⟩ = some (.int .i64 p)

set_option maxHeartbeats 1000000 in
theorem newBucket_any (Z : Nat) (r c p N S : Int) (w : World) (hZ : Z < w.heap.size) (h : Size Z r c p w) :
    Calls Try.prog 35 #[.pointer (some ⟨Z, 0, none⟩), .agg #[.int .u64 N, .int .i64 S, .pointer none]] w fun e w' => e = .returned (.pointer (some ⟨w.heap.size + 1, 0, none⟩)) ∧ w' = ((w.alloc (timeObj N S)).alloc (bucketObj r c p N S)).drew := by
  obtain ⟨h0, h1, h2⟩ := h
  go_enter Try.func35, Try.ntmps35
  go_wp2
  go_region
  all_goals go_wp2
  all_goals go_ret
  all_goals exact ⟨rfl, rfl⟩

end Go.Proofs.Qxb6614313a
