/-
  DERIVED. Seat b6614313a: bucketOf at a section that was built: which bucket a draw gets.
-/
import Derived.Test.Qxb6614313aOf
import Derived.Test.Qxb6614313aSmall
namespace Go.Proofs.Qxb6614313a
open Go.RowKit Go.Maps

/-- 'Made' with its parts named. -/
def MadeK (base s C Z M O R n : Nat) (shv : Value) (lt s0 s1 s2 : ByteArray) (bnd r c p : Int) (ids dues : Nat → Int) (K : Nat → Nat) (dv : Value) (D : DataW Unit) (w : World) : Prop :=
  w.heap[s]? = some (.cells (secCells shv (.pointer (some ⟨C, 0, none⟩)) R lt) 80) ∧ w.heap[R]? = some (reasonsObj s0 s1 s2) ∧ w.heap[Z]? = some (sizeObj r c p) ∧ w.heap[O]? = some (bucketObj r c p 0 0) ∧ w.heap[C]? = some (cliObj Z M O R bnd dv) ∧
    w.ownsMap Try.prog 30 ptrElem M n D ∧ MapIs D ids K n ∧ w.ownsRow base 47 1 dv n ((List.range n).map (fun j => Value.pointer (some ⟨K j, 0, none⟩))) ∧ (n = 0 → dv = .slice none 0 0) ∧
    (∀ j, j < n → O < K j ∧ K j < w.heap.size) ∧ (∀ j i, j < i → i < n → K j < K i) ∧ (∀ j, j < n → w.heap[K j]? = some (clientObj r c p 0 0 1 (ids j) (dues j % 1000000000) (dues j / 1000000000)))

theorem Made.out {base s C Z M O R n : Nat} {shv : Value} {lt s0 s1 s2 : ByteArray} {bnd r c p : Int} {ids dues : Nat → Int} {w : World} (h : Made base s C Z M O R n shv lt s0 s1 s2 bnd r c p ids dues w) : ∃ K dv D, MadeK base s C Z M O R n shv lt s0 s1 s2 bnd r c p ids dues K dv D w := h

theorem map_lt {w : World} {b n : Nat} {D : DataW Unit} (h : w.ownsMap Try.prog 30 ptrElem b n D) : b < w.heap.size := by
  obtain ⟨es, cl, hm, _⟩ := h
  exact hp_lt hm

theorem MadeK.grown {base s C Z M O R n : Nat} {shv : Value} {lt s0 s1 s2 : ByteArray} {bnd r c p : Int} {ids dues : Nat → Int} {K : Nat → Nat} {dv : Value} {D : DataW Unit} {w w' : World} (h : MadeK base s C Z M O R n shv lt s0 s1 s2 bnd r c p ids dues K dv D w) (hb : Below w.heap.size w w') : MadeK base s C Z M O R n shv lt s0 s1 s2 bnd r c p ids dues K dv D w' := by
  obtain ⟨m1, m2, m3, m4, m5, m6, m7, m8, m9, m10, m11, m12⟩ := h
  have hs := hb.size
  exact ⟨(hb.block _ (hp_lt m1)).trans m1, (hb.block _ (hp_lt m2)).trans m2, (hb.block _ (hp_lt m3)).trans m3, (hb.block _ (hp_lt m4)).trans m4, (hb.block _ (hp_lt m5)).trans m5, ownsMap_block m6 (hb.block _ (map_lt m6)), m7, ownsRow_block m8 (fun g hg => hb.block g (m8.lt g hg).2), m9, fun j hj => ⟨(m10 j hj).1, by have := (m10 j hj).2; omega⟩, m11, fun j hj => (hb.block _ (hp_lt (m12 j hj))).trans (m12 j hj)⟩

/-- Which bucket, and which fresh client, a draw for x answers with. -/
def Got (n O : Nat) (K : Nat → Nat) (ids : Nat → Int) (bnd r c p x now : Int) (lo b : Nat) (fv : Value) (w : World) : Prop :=
  (∃ j, j < n ∧ ids j = x ∧ b = K j ∧ fv = .pointer none) ∨ ((∀ j, j < n → ids j ≠ x) ∧ bnd ≤ n ∧ b = O ∧ fv = .pointer none) ∨
  ((∀ j, j < n → ids j ≠ x) ∧ n < bnd ∧ lo ≤ b ∧ w.heap[b]? = some (clientObj r c p (now % 1000000000) (now / 1000000000) 0 x 0 0) ∧ fv = .pointer (some ⟨b, 0, none⟩))

theorem Got.grown {n O : Nat} {K : Nat → Nat} {ids : Nat → Int} {bnd r c p x now : Int} {lo lo' b : Nat} {fv : Value} {w w' : World} (h : Got n O K ids bnd r c p x now lo b fv w) (hl : lo' ≤ lo) (hb : Below w.heap.size w w') : Got n O K ids bnd r c p x now lo' b fv w' := by
  rcases h with h | h | ⟨h1, h2, h3, h4, h5⟩
  · exact .inl h
  · exact .inr (.inl h)
  · exact .inr (.inr ⟨h1, h2, by omega, (hb.block _ (hp_lt h4)).trans h4, h5⟩)

theorem drop_made {base s C Z M O R n : Nat} {shv : Value} {lt s0 s1 s2 : ByteArray} {bnd r c p : Int} {ids dues : Nat → Int} {K : Nat → Nat} {dv : Value} {D : DataW Unit} {w : World} {now : Int} (h : MadeK base s C Z M O R n shv lt s0 s1 s2 bnd r c p ids dues K dv D w) (hf : 0 < n → now < dues 0) :
    Calls Try.prog 39 #[.pointer (some ⟨C, 0, none⟩), .agg #[.int .u64 (now % 1000000000), .int .i64 (now / 1000000000), .pointer none]] w fun e w' => e = .returned (.tuple #[]) ∧ Below w.heap.size w w' := by
  obtain ⟨m1, m2, m3, m4, m5, m6, m7, m8, m9, m10, m11, m12⟩ := h
  have h5 : w.cell? ⟨C, 5, none⟩ = some dv := hp_cell m5 5
  by_cases hn : n = 0
  · rw [m9 hn] at h5
    exact drop_none C 0 none _ _ w (hp_lt m5) h5
  · obtain ⟨g, cap, rfl, hg, hgl⟩ := m8.form (by omega)
    have h0 : w.cell? ⟨g, 0, none⟩ = some (.pointer (some ⟨K 0, 0, none⟩)) := by
      have e := m8.cells (g := g) rfl 0 (.pointer (some ⟨K 0, 0, none⟩)) (by rw [List.getElem?_map, List.getElem?_range (by omega)]; rfl)
      simpa [Addr.add] using e
    have k0 := m12 0 (by omega)
    exact drop_some C g (K 0) n cap (dues 0) now w (hp_lt m5) hgl (hp_lt k0) (by omega) (hf (by omega)) h5 h0 (hp_cell k0 8) (hp_cell k0 9) (hp_cell k0 10)

theorem of_made {base s C Z M O R n : Nat} {shv : Value} {lt s0 s1 s2 : ByteArray} {bnd r c p : Int} {ids dues : Nat → Int} {K : Nat → Nat} {dv : Value} {D : DataW Unit} {w : World} {now x : Int} (hx : (Lit.int .u64 x).wf = true) (h : MadeK base s C Z M O R n shv lt s0 s1 s2 bnd r c p ids dues K dv D w) (hf : 0 < n → now < dues 0) :
    Calls Try.prog 38 #[.pointer (some ⟨C, 0, none⟩), .int .u64 x, .agg #[.int .u64 (now % 1000000000), .int .i64 (now / 1000000000), .pointer none]] w fun e w' => ∃ b lim fv, e = .returned (.tuple #[.pointer (some ⟨b, 0, none⟩), .string lim, fv]) ∧ Got n O K ids bnd r c p x now w.heap.size b fv w' ∧ Below w.heap.size w w' := by
  have hdrop := fun (w0 : World) (hb : Below w.heap.size w w0) => drop_made (h.grown hb) hf
  obtain ⟨m1, m2, m3, m4, m5, m6, m7, m8, m9, m10, m11, m12⟩ := h
  by_cases hin : ∃ j, j < n ∧ ids j = x
  · obtain ⟨j, hj, rfl⟩ := hin
    refine (of_kept C Z M O R (K j) n bnd _ _ (ids j) dv D s0 s1 s2 w hx m5 m2 m6 (m7.1 j hj)).mono ?_
    rintro e w' ⟨rfl, hb⟩
    exact ⟨_, _, _, rfl, .inl ⟨j, hj, rfl, rfl, rfl⟩, hb⟩
  · have hne : ∀ j, j < n → ids j ≠ x := fun j hj e => hin ⟨j, hj, e⟩
    by_cases hbn : bnd ≤ n
    · refine (of_full C Z M O R n bnd x now dv D s0 s1 s2 w hx m5 m2 m6 (m7.2.1 x hne).1 m7.2.2 hbn hdrop).mono ?_
      rintro e w' ⟨rfl, hb⟩
      exact ⟨_, _, _, rfl, .inr (.inl ⟨hne, hbn, rfl, rfl⟩), hb⟩
    · refine (of_room C Z M O R n bnd r c p x now dv D s0 s1 s2 w hx m5 m2 m3 m6 (m7.2.1 x hne).1 m7.2.2 (by omega) hdrop).mono ?_
      rintro e w' ⟨f, rfl, hfl, hF, hb⟩
      exact ⟨_, _, _, rfl, .inr (.inr ⟨hne, by omega, hfl, hF, rfl⟩), hb⟩

end Go.Proofs.Qxb6614313a
