/-
  DERIVED. Seat b6614227aF: the cursor's readers, said of the list that is left to be read.
-/
import Derived.Test.Qxb6614227aFmtVec
import Derived.Test.Qxb6614227aFmtSay
import Derived.Test.Qxb6614227aFmtLaw
namespace Go.Proofs.Qxb6614227aFmt
open Go.RowKit Go.Extern.Stop Go.Stop Go.Extern

/-- The list as it stands at a round's head. -/
def Held (bd L o : Nat) (ys : List Int) (w : World) : Prop :=
  w.cell? ⟨L, 0, none⟩ = some (.slice (some ⟨bd, o, none⟩) ys.length ys.length) ∧ w.frozen? ⟨L, 0, none⟩ = false ∧ (∀ t, t < ys.length → w.cell? ⟨bd, o + t, none⟩ = some (.int .u8 (ys.getD t 0))) ∧ (∀ y ∈ ys, 0 ≤ y ∧ y ≤ 255)

/-- Nothing has turned but block L's cells and what lies from B on and is L. -/
def Only (L : Nat) (w w' : World) : Prop :=
  (∀ B, B ≤ L → Below B w w') ∧ w'.heap.size = w.heap.size ∧ (∀ b o, b ≠ L → w'.cell? ⟨b, o, none⟩ = w.cell? ⟨b, o, none⟩) ∧ (∀ b o, w'.frozen? ⟨b, o, none⟩ = w.frozen? ⟨b, o, none⟩)

theorem Only.set (L : Nat) (v : Value) (w : World) : Only L w (w.setCell ⟨L, 0, none⟩ v) := by
  refine ⟨fun B hB => (Below.refl _ _).setCell hB _, by simp, fun b o hb => ?_, fun b o => by simp⟩
  exact World.cell?_of_block (w := w) (Below.heap_setCell w ⟨L, 0, none⟩ v b hb)

theorem Only.drew {L : Nat} {w w' : World} (h : Only L w w') : Only L w w'.drew :=
  ⟨fun B hB => (h.1 B hB).drew, h.2.1, h.2.2.1, h.2.2.2⟩

theorem Only.refl (L : Nat) (w : World) : Only L w w := ⟨fun _ _ => Below.refl _ _, rfl, fun _ _ _ => rfl, fun _ _ => rfl⟩

theorem getD_drop (r : List Int) (k t : Nat) : (r.drop k).getD t 0 = r.getD (k + t) 0 := by
  simp [List.getD, List.getElem?_drop]

/-- What is left behind a read of k bytes. -/
theorem Held.step {bd L o k : Nat} {ys : List Int} {w : World} (h : Held bd L o ys w) (hk : k ≤ ys.length) (hne : bd ≠ L) :
    Held bd L (curAfter o ys.length k) (ys.drop k) (w.setCell ⟨L, 0, none⟩ (.slice (some ⟨bd, curAfter o ys.length k, none⟩) (ys.length - k) (ys.length - k))) := by
  obtain ⟨h1, h2, h3, h4⟩ := h
  refine ⟨?_, ?_, ?_, ?_⟩
  · rw [List.length_drop]
    exact World.cell?_setCell_same' _ _ _ (by simp [h1])
  · simp [h2]
  · intro t ht
    rw [List.length_drop] at ht
    rw [(Only.set L _ w).2.2.1 bd _ hne, getD_drop]
    have e : curAfter o ys.length k = o + k := by unfold curAfter; rw [if_neg (by omega)]
    rw [e, Nat.add_assoc]
    exact h3 (k + t) (by omega)
  · intro y hy
    exact h4 y (List.mem_of_mem_drop hy)

theorem Held.drew {bd L o : Nat} {ys : List Int} {w : World} (h : Held bd L o ys w) : Held bd L o ys w.drew := h

theorem Held.alloc {bd L o : Nat} {ys : List Int} {w : World} (h : Held bd L o ys w) (hL : L < w.heap.size) (hb : bd < w.heap.size) (ob : Obj) : Held bd L o ys (w.alloc ob) := by
  have hn : Below w.heap.size w (w.alloc ob) := (Below.refl _ w).alloc (Nat.le_refl _) ob
  exact ⟨(hn.cell (p := ⟨L, 0, none⟩) hL).trans h.1, (hn.frozen (p := ⟨L, 0, none⟩) hL).trans h.2.1, fun t ht => (hn.cell (p := ⟨bd, o + t, none⟩) hb).trans (h.2.2.1 t ht), h.2.2.2⟩

theorem Held.set {bd L o k : Nat} {ys : List Int} {w : World} (h : Held bd L o ys w) (hL : L ≠ k) (hb : bd ≠ k) (v : Value) : Held bd L o ys (w.setCell ⟨k, 0, none⟩ v) :=
  ⟨((Only.set k v w).2.2.1 L 0 hL).trans h.1, ((Only.set k v w).2.2.2 L 0).trans h.2.1, fun t ht => ((Only.set k v w).2.2.1 bd _ hb).trans (h.2.2.1 t ht), h.2.2.2⟩

theorem uint8_held (L bd o : Nat) (t : Int) (r : List Int) (w : World) (hne : bd ≠ L) (h : Held bd L o (t :: r) w) :
    Calls Tryf.prog 24 #[.pointer (some ⟨L, 0, none⟩)] w fun e w' => e = .returned (.tuple #[.int .u8 t, .bool true]) ∧ (∃ o', Held bd L o' r w') ∧ Only L w w' := by
  have hs := h.step (k := 1) (by simp) hne
  obtain ⟨h1, h2, h3, h4⟩ := h
  refine (uint8_ok L bd o (t :: r).length t w (by simp) hne h1 h2 (by simpa using h3 0 (by simp))).mono ?_
  rintro e w' ⟨rfl, rfl⟩
  exact ⟨rfl, ⟨_, hs⟩, Only.set _ _ _⟩

theorem bytes_no_held (L bd o : Nat) (r : List Int) (w : World) (hr : r.length < 20) (h : Held bd L o r w) :
    Calls Tryf.prog 31 #[.pointer (some ⟨L, 0, none⟩), .int .i64 20] w fun e w' => e = .returned (.tuple #[.slice none 0 0, .bool false]) ∧ w' = w :=
  bytes_no L _ r.length r.length 20 w hr h.1

theorem bytes_ok_held (L bd o : Nat) (r : List Int) (w : World) (hr : 20 ≤ r.length) (hne : bd ≠ L) (h : Held bd L o r w) :
    Calls Tryf.prog 31 #[.pointer (some ⟨L, 0, none⟩), .int .i64 20] w fun e w' => e = .returned (.tuple #[.slice (some ⟨bd, o, none⟩) 20 20, .bool true]) ∧ (∃ o', Held bd L o' (r.drop 20) w') ∧ Only L w w' := by
  have hs := h.step (k := 20) hr hne
  refine (bytes_ok L bd o r.length 20 w hr (by omega) h.1 h.2.1).mono ?_
  rintro e w' ⟨rfl, rfl⟩
  exact ⟨rfl, ⟨_, hs⟩, Only.set _ _ _⟩

theorem len2_eq (r : List Int) (h2 : 2 ≤ r.length) (hb : ∀ y ∈ r, 0 ≤ y ∧ y ≤ 255) : (0 ≤ r.getD 0 0 ∧ r.getD 0 0 ≤ 255) ∧ (0 ≤ r.getD 1 0 ∧ r.getD 1 0 ≤ 255) ∧ r.getD 0 0 * 256 + r.getD 1 0 = (len2 r : Int) := by
  match r, h2 with
  | x :: y :: r, _ =>
    have hx := hb x (by simp)
    have hy := hb y (by simp)
    refine ⟨by simpa using hx, by simpa using hy, ?_⟩
    simp [len2]
    omega

theorem vec_no_held (L bd o : Nat) (r : List Int) (w : World) (hM : r.length ≤ 70000) (hr : r.length < 2 ∨ r.length < 2 + len2 r) (h : Held bd L o r w) :
    Calls Tryf.prog 30 #[.pointer (some ⟨L, 0, none⟩)] w fun e w' => e = .returned (.tuple #[.slice none 0 0, .bool false]) ∧ Only L w w' := by
  obtain ⟨h1, h2, h3, h4⟩ := h
  by_cases hs : r.length < 2
  · refine (vec_short L _ r.length r.length w hs h1).mono ?_
    rintro e w' ⟨rfl, rfl⟩
    exact ⟨rfl, Only.refl _ _⟩
  · obtain ⟨a, b, c⟩ := len2_eq r (by omega) h4
    refine (vec_no L bd o r.length (len2 r) _ _ w a b c (by omega) (by omega) hM h1 (by simpa using h3 0 (by omega)) (h3 1 (by omega))).mono ?_
    rintro e w' ⟨rfl, rfl⟩
    exact ⟨rfl, (Only.refl _ _).drew⟩

theorem vec_ok_held (L bd o : Nat) (r : List Int) (w : World) (hM : r.length ≤ 70000) (hr : 2 ≤ r.length) (hl : 2 + len2 r ≤ r.length) (hne : bd ≠ L) (h : Held bd L o r w) :
    Calls Tryf.prog 30 #[.pointer (some ⟨L, 0, none⟩)] w fun e w' => (∃ o1, e = .returned (.tuple #[.slice (some ⟨bd, o1, none⟩) (len2 r) (len2 r), .bool true])) ∧ (∃ o', Held bd L o' (r.drop (2 + len2 r)) w') ∧ Only L w w' := by
  have hs := h.step (k := 2 + len2 r) hl hne
  obtain ⟨h1, h2, h3, h4⟩ := h
  obtain ⟨a, b, c⟩ := len2_eq r hr h4
  refine (vec_ok L bd o r.length (len2 r) _ _ w a b c hl hM h1 h2 (by simpa using h3 0 (by omega)) (h3 1 (by omega))).mono ?_
  rintro e w' ⟨rfl, rfl⟩
  exact ⟨⟨_, rfl⟩, ⟨_, hs.drew⟩, (Only.set _ _ _).drew⟩

/-- A variable made ahead of such a step is as it was. -/
theorem name_facts {L : Nat} {w1 w2 : World} (hL : L < w1.heap.size) (h : Only L (w1.alloc (.cells #[.slice none 0 0] 51)) w2) :
    w2.cell? ⟨w1.heap.size, 0, none⟩ = some (.slice none 0 0) ∧ w2.frozen? ⟨w1.heap.size, 0, none⟩ = false ∧ w1.heap.size < w2.heap.size := by
  refine ⟨?_, ?_, ?_⟩
  · rw [h.2.2.1 _ _ (by omega)]
    go_simp
  · rw [h.2.2.2]
    go_simp
  · rw [h.2.1]
    simp

end Go.Proofs.Qxb6614227aFmt
