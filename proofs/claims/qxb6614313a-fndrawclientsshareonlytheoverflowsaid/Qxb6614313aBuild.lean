/-
  DERIVED. Seat b6614313a: buildDrawSection.
-/
import Derived.Test.Qxb6614313aMap
import Derived.Test.Qxb6614313aChecks
namespace Go.Proofs.Qxb6614313a
open Go.RowKit Go.Maps

def shapeObj (hsh hcl : Bool) (lt sh cl ov : ByteArray) (bnd r c p : Int) : Obj := .cells #[.bool hsh, .string lt, .string sh, .string cl, .string ov, .bool hcl, .int .i64 bnd, .int .i64 r, .int .i64 c, .int .i64 p] 32
def shapeVal (hsh hcl : Bool) (lt sh cl ov : ByteArray) (bnd r c p : Int) : Value := .agg #[.bool hsh, .string lt, .string sh, .string cl, .string ov, .bool hcl, .int .i64 bnd, .int .i64 r, .int .i64 c, .int .i64 p]
def reasonsObj (sh cl ov : ByteArray) : Obj := .cells #[.string sh, .string cl, .string ov] 94
def secCells (shv clv : Value) (R : Nat) (lt : ByteArray) : Array Value := #[.int .i32 0, .int .u32 0, shv, clv, .pointer (some ⟨R, 0, none⟩), .string lt]

theorem newSection_l (lt sh cl ov : ByteArray) (w : World) :
    Calls Try.prog 24 #[.string lt, .string sh, .string cl, .string ov] w fun e w' => ∃ s R, e = .returned (.pointer (some ⟨s, 0, none⟩)) ∧ w.heap.size ≤ s ∧ w.heap.size ≤ R ∧ R ≠ s ∧ w'.heap[R]? = some (reasonsObj sh cl ov) ∧ w'.heap[s]? = some (.cells (secCells (.pointer none) (.pointer none) R lt) 80) ∧ Below w.heap.size w w' := by
  refine (newSection_any lt sh cl ov w).mono ?_
  rintro e w' ⟨rfl, rfl⟩
  refine ⟨w.heap.size + 1, w.heap.size, rfl, by omega, by omega, by omega, ?_, ?_, ?_⟩
  · rw [hp_old _ _ _ (by simp), hp_new _ _ _ rfl]
    rfl
  · rw [hp_new _ _ _ (by simp)]
    rfl
  · exact ((Below.refl _ w).alloc (Nat.le_refl _) _).alloc (by simp) _

theorem giveShared_l (s R : Nat) (r c p : Int) (clv : Value) (lt : ByteArray) (w : World) (hS : w.heap[s]? = some (.cells (secCells (.pointer none) clv R lt) 80)) :
    Calls Try.prog 25 #[.pointer (some ⟨s, 0, none⟩), .int .i64 r, .int .i64 c, .int .i64 p] w fun e w' => e = .returned (.tuple #[]) ∧ ∃ k, w.heap.size ≤ k ∧ k < w'.heap.size ∧ w'.heap[s]? = some (.cells (secCells (.pointer (some ⟨k, 0, none⟩)) clv R lt) 80) ∧ (∀ b, b < w.heap.size → b ≠ s → w'.heap[b]? = w.heap[b]?) ∧ Below s w w' := by
  have hs := hp_lt hS
  have h2 : w.cell? ⟨s, 2, none⟩ = some (.pointer none) := hp_cell hS 2
  refine (giveShared_any s r c p _ w h2 (hp_frozen hS 2) hs).mono ?_
  rintro e w' ⟨rfl, rfl⟩
  have hb : Below w.heap.size (w.setCell ⟨s, 2, none⟩ (.pointer (some ⟨w.heap.size + 2, 0, none⟩))) (((((w.setCell ⟨s, 2, none⟩ (.pointer (some ⟨w.heap.size + 2, 0, none⟩))).alloc (.cells #[.int .i64 r, .int .i64 c, .int .i64 p] 97)).alloc (timeObj 0 0)).alloc (bucketObj r c p 0 0)).drew) :=
    ((((Below.refl _ _).alloc (by simp) _).alloc (by simp) _).alloc (by simp <;> omega) _).drew
  obtain ⟨_, _, k3, _, k5⟩ := kept_set h2 hb hs
  refine ⟨rfl, w.heap.size + 2, by omega, by simp [hp_drew], ?_, k3, k5⟩
  rw [hb.block s hs]
  exact hp_set hS _

/-- All that the section leads to, where it limits each client. -/
def Made (base s C Z M O R n : Nat) (shv : Value) (lt s0 s1 s2 : ByteArray) (bnd r c p : Int) (ids dues : Nat → Int) (w : World) : Prop :=
  ∃ (K : Nat → Nat) (dv : Value) (D : DataW Unit), w.heap[s]? = some (.cells (secCells shv (.pointer (some ⟨C, 0, none⟩)) R lt) 80) ∧ w.heap[R]? = some (reasonsObj s0 s1 s2) ∧ w.heap[Z]? = some (sizeObj r c p) ∧ w.heap[O]? = some (bucketObj r c p 0 0) ∧ w.heap[C]? = some (cliObj Z M O R bnd dv) ∧
    w.ownsMap Try.prog 30 ptrElem M n D ∧ MapIs D ids K n ∧ w.ownsRow base 47 1 dv n ((List.range n).map (fun j => Value.pointer (some ⟨K j, 0, none⟩))) ∧ (n = 0 → dv = .slice none 0 0) ∧
    (∀ j, j < n → O < K j ∧ K j < w.heap.size) ∧ (∀ j i, j < i → i < n → K j < K i) ∧ (∀ j, j < n → w.heap[K j]? = some (clientObj r c p 0 0 1 (ids j) (dues j % 1000000000) (dues j / 1000000000)))

theorem made_start {base s C Z M O R : Nat} {shv : Value} {lt s0 s1 s2 : ByteArray} {bnd r c p : Int} {ids dues : Nat → Int} {w w' : World} (hR : w.heap[R]? = some (reasonsObj s0 s1 s2)) (hRs : R ≠ s) (hS : w.heap[s]? = some (.cells (secCells shv (.pointer none) R lt) 80)) (h : Gave s C Z M O R bnd r c p w w') :
    Made base s C Z M O R 0 shv lt s0 s1 s2 bnd r c p ids dues w' := by
  obtain ⟨_, _, _, _, _, hZ, hM, hO, hC, _, _, hk, _, _, hs⟩ := h
  refine ⟨fun _ => 0, .slice none 0 0, .map [], ?_, (hk R (hp_lt hR) hRs).trans hR, hZ, hO, hC, ⟨#[], 0, hM, ⟨by simp, MapKept.stamped_empty 0, by simp⟩, Nat.le_refl _, rfl⟩, mapIs_empty _ _, World.ownsRow_nil _ _ _ _, fun _ => rfl, fun j hj => by omega, fun j i _ hi => by omega, fun j hj => by omega⟩
  rw [hs]
  exact hp_set hS _

theorem made_step {base s C Z M O R n : Nat} {shv : Value} {lt s0 s1 s2 : ByteArray} {bnd r c p : Int} {ids dues : Nat → Int} {w w' : World} {K : Nat → Nat} {dv : Value} {D : DataW Unit} (hne : ∀ j, j < n → ids j ≠ ids n)
    (hS : w.heap[s]? = some (.cells (secCells shv (.pointer (some ⟨C, 0, none⟩)) R lt) 80)) (hR : w.heap[R]? = some (reasonsObj s0 s1 s2)) (hZ : w.heap[Z]? = some (sizeObj r c p)) (hO : w.heap[O]? = some (bucketObj r c p 0 0)) (hC : w.heap[C]? = some (cliObj Z M O R bnd dv))
    (hM : w.ownsMap Try.prog 30 ptrElem M n D) (hD : MapIs D ids K n) (hr : w.ownsRow base 47 1 dv n ((List.range n).map (fun j => Value.pointer (some ⟨K j, 0, none⟩))))
    (hK : ∀ j, j < n → O < K j ∧ K j < w.heap.size) (hinc : ∀ j i, j < i → i < n → K j < K i) (h0 : ∀ j, j < n → w.heap[K j]? = some (clientObj r c p 0 0 1 (ids j) (dues j % 1000000000) (dues j / 1000000000)))
    (h : KeptPost base C Z M O R n bnd dv ((List.range n).map (fun j => Value.pointer (some ⟨K j, 0, none⟩))) D r c p (ids n) (dues n) w w') :
    Made base s C Z M O R (n + 1) shv lt s0 s1 s2 bnd r c p ids dues w' := by
  obtain ⟨k, dv', hk, hk0, hC', hM', hr', hkept, hb⟩ := h
  have hbs := hb.size
  have hT := hM.tidy law30
  have neM : ∀ (b : Nat) (cs : Array Value) (T : TypeId), w.heap[b]? = some (.cells cs T) → b ≠ M := by
    intro b cs T hb' e
    subst e
    obtain ⟨es, cl, hm, _⟩ := hM
    rw [hb'] at hm
    cases hm
  have keep : ∀ (b : Nat) (cs : Array Value) (T : TypeId), w.heap[b]? = some (.cells cs T) → T ≠ 47 → T ≠ 86 → w'.heap[b]? = some (.cells cs T) := by
    intro b cs T hb' h47 h86
    rw [hkept b (hp_lt hb') (by intro e; subst e; rw [hC] at hb'; exact h86 (by injection hb' with hb'; injection hb' with _ e; exact e.symm)) (neM b cs T hb') (ownsRow_ne hr hb' h47)]
    exact hb'
  have hOlt := hp_lt hO
  refine ⟨fun j => if j = n then k else K j, dv', D.put (.int .u64 (ids n)) (.lit (.int .i64 k)), keep s _ _ hS (by decide) (by decide), keep R _ _ hR (by decide) (by decide), keep Z _ _ hZ (by decide) (by decide), keep O _ _ hO (by decide) (by decide), hC', hM', mapIs_put hD hT hne, ?_, fun h => by omega, ?_, ?_, ?_⟩
  · rw [ptrs_put]
    exact hr'
  · intro j hj
    have hkw := hp_lt hk0
    by_cases e : j = n
    · simp only [if_pos e]
      omega
    · simp only [if_neg e]
      have := hK j (by omega)
      omega
  · intro j i hji hi
    by_cases e : i = n
    · subst e
      simp only [if_true, if_neg (show ¬ j = i by omega)]
      have := hK j hji
      omega
    · simp only [if_neg e, if_neg (show ¬ j = n by omega)]
      exact hinc j i hji (by omega)
  · intro j hj
    by_cases e : j = n
    · subst e
      simp only [if_true]
      exact hk0
    · simp only [if_neg e]
      exact keep _ _ _ (h0 j (by omega)) (by decide) (by decide)

end Go.Proofs.Qxb6614313a
