/-
  DERIVED. Seat b6614313a: what the map of kept clients reads as.
-/
import Derived.Test.Qxb6614313aKeep
namespace Go.Proofs.Qxb6614313a
open Go.RowKit Go.Maps

/-- D holds, at the first i ids, the blocks K; nothing else. -/
def MapIs (D : DataW Unit) (ids : Nat → Int) (K : Nat → Nat) (i : Nat) : Prop :=
  (∀ j, j < i → D.atKey (.int .u64 (ids j)) .nil = .lit (.int .i64 (K j))) ∧ (∀ x, (∀ j, j < i → ids j ≠ x) → D.atKey (.int .u64 x) .nil = .nil ∧ Maps.has D (.int .u64 x) = false) ∧ Maps.size D = i

theorem mapIs_empty (ids : Nat → Int) (K : Nat → Nat) : MapIs (.map []) ids K 0 :=
  ⟨fun j h => by omega, fun x _ => ⟨rfl, rfl⟩, rfl⟩

theorem key_ne {x y : Int} (h : x ≠ y) : (Lit.int .u64 x) ≠ .int .u64 y := by
  intro e
  injection e with _ e
  exact h e

theorem mapIs_put {D : DataW Unit} {ids : Nat → Int} {K : Nat → Nat} {i k : Nat} (h : MapIs D ids K i) (hT : Tidy D) (hne : ∀ j, j < i → ids j ≠ ids i) : MapIs (D.put (.int .u64 (ids i)) (.lit (.int .i64 k))) ids (fun j => if j = i then k else K j) (i + 1) := by
  obtain ⟨h1, h2, h3⟩ := h
  refine ⟨?_, ?_, ?_⟩
  · intro j hj
    by_cases e : j = i
    · subst e
      simp only [if_true]
      exact atKey_put_same (k := .int .u64 (ids j)) hT.isMap trivial _ _
    · simp only [if_neg e]
      rw [atKey_put_other (key_ne (hne j (by omega)))]
      exact h1 j (by omega)
  · intro x hx
    have hxi : x ≠ ids i := fun e => hx i (by omega) e.symm
    rw [atKey_put_other (key_ne hxi), has_put_other (key_ne hxi)]
    exact h2 x (fun j hj => hx j (by omega))
  · rw [size_put hT, (h2 (ids i) hne).2, h3]
    rfl

theorem ptrs_put (K : Nat → Nat) (i k : Nat) : (List.range (i + 1)).map (fun j => Value.pointer (some ⟨(if j = i then k else K j), 0, none⟩)) = (List.range i).map (fun j => Value.pointer (some ⟨K j, 0, none⟩)) ++ [.pointer (some ⟨k, 0, none⟩)] := by
  rw [List.range_succ, List.map_append]
  congr 1
  · apply List.map_congr_left
    intro j hj
    have : j < i := List.mem_range.1 hj
    rw [if_neg (by omega)]
  · simp

end Go.Proofs.Qxb6614313a
