/-
  DERIVED. Seat b6614313a: what two draws' answers say of each other.
-/
import Derived.Test.Qxb6614313aLawNo
namespace Go.Proofs.Qxb6614313a
open Go.RowKit Go.Maps

theorem state_l (now : Int) (io dO : Option Addr) (li ci ld cd n : Nat) (ids dues : Nat → Int) (w : World) (hi : n ≤ li) (hd : n ≤ ld) (hN : n ≤ 4096) (hI : Ints .u64 io n ids w) (hD : Ints .i64 dO n dues w) :
    Calls Try.prog 13 #[.int .i64 now, .slice io li ci, .slice dO ld cd, .int .i64 n] w fun e w' => (∃ b, e = .returned (.bool b) ∧ (b = true → Fine now ids dues n)) ∧ Below w.heap.size w w' := by
  refine (state_any now io dO li ci ld cd n ids dues w hi hd hN hI hD).mono ?_
  rintro e w' ⟨h, q, rfl⟩
  exact ⟨h, below_drewN (Below.refl _ w) _⟩

theorem draw_any {base s C Z M O R n B : Nat} {hsh : Bool} {shv : Value} {lt s0 s1 s2 : ByteArray} {bnd r c p : Int} {ids dues : Nat → Int} {K : Nat → Nat} {dv : Value} {D : DataW Unit} {w wS : World} {now x : Int} (hx : (Lit.int .u64 x).wf = true) (h : MadeK base s C Z M O R n shv lt s0 s1 s2 bnd r c p ids dues K dv D w) (hS : SharedIs B hsh shv wS) (hf : 0 < n → now < dues 0) :
    Calls Try.prog 17 #[.pointer (some ⟨s, 0, none⟩), .slice none 0 0, .int .u64 x, .agg #[.int .u64 (now % 1000000000), .int .i64 (now / 1000000000), .pointer none]] w (Drew hsh.toNat n O K ids bnd r c p x now w) := by
  rcases hS with ⟨rfl, rfl⟩ | ⟨rfl, k, _, _, rfl⟩
  · exact zzDraw_any (fun w0 hb => draw_one hx (h.grown hb) hf)
  · exact zzDraw_any (fun w0 hb => draw_two hx (h.grown hb) hf)

/-- Do two draws share a bucket? -/
def share (a b : Int) (ia ib rm : Bool) : Bool := (ia && ib && decide (a = b)) || (!ia && !ib && !rm)

theorem among_no {x : Int} {ids : Nat → Int} {n : Nat} (h : ∀ j, j < n → ids j ≠ x) : among x ids n = false := by
  cases e : among x ids n
  · rfl
  · obtain ⟨t, ht, he⟩ := (among_iff x ids n).1 e
    exact absurd he (h t ht)

theorem among_yes {x : Int} {ids : Nat → Int} {n j : Nat} (hj : j < n) (h : ids j = x) : among x ids n = true := (among_iff x ids n).2 ⟨j, hj, h⟩

theorem got_lt {base s C Z M O R n lo b : Nat} {shv : Value} {lt s0 s1 s2 : ByteArray} {bnd r c p x now : Int} {ids dues : Nat → Int} {K : Nat → Nat} {dv fv : Value} {D : DataW Unit} {w : World} (h : MadeK base s C Z M O R n shv lt s0 s1 s2 bnd r c p ids dues K dv D w) (g : Got n O K ids bnd r c p x now lo b fv w) : b < w.heap.size := by
  obtain ⟨m1, m2, m3, m4, m5, m6, m7, m8, m9, m10, m11, m12⟩ := h
  rcases g with ⟨j, hj, _, rfl, _⟩ | ⟨_, _, rfl, _⟩ | ⟨_, _, _, h4, _⟩
  · exact (m10 j hj).2
  · exact hp_lt m4
  · exact hp_lt h4

theorem got_share {base s C Z M O R n lo1 lo2 b1 b2 : Nat} {shv : Value} {lt s0 s1 s2 : ByteArray} {bnd r c p x1 x2 now : Int} {ids dues : Nat → Int} {K : Nat → Nat} {dv fv1 fv2 : Value} {D : DataW Unit} {w : World} (h : MadeK base s C Z M O R n shv lt s0 s1 s2 bnd r c p ids dues K dv D w) (hF : Fine now ids dues n)
    (g1 : Got n O K ids bnd r c p x1 now lo1 b1 fv1 w) (g2 : Got n O K ids bnd r c p x2 now lo2 b2 fv2 w) (hK : ∀ j, j < n → K j < lo1) (hO : O < lo1) (h1 : b1 < lo2) :
    (binOp .eql 46 (.pointer (some ⟨b1, 0, none⟩)) (.pointer (some ⟨b2, 0, none⟩))).run Try.prog w = .ok (.bool (share x1 x2 (among x1 ids n) (among x2 ids n) (decide ((n : Int) < bnd)))) w := by
  obtain ⟨m1, m2, m3, m4, m5, m6, m7, m8, m9, m10, m11, m12⟩ := h
  rcases g1 with ⟨j, hj, e1, rfl, _⟩ | ⟨e1, hb1, rfl, _⟩ | ⟨e1, hb1, hl1, hp1, _⟩ <;> rcases g2 with ⟨i, hi, e2, rfl, _⟩ | ⟨e2, hb2, rfl, _⟩ | ⟨e2, hb2, hl2, hp2, _⟩
  · rw [among_yes hj e1, among_yes hi e2]
    by_cases e : x1 = x2
    · have hji : j = i := by
        rcases Nat.lt_trichotomy j i with hlt | heq | hgt
        · exact absurd (e1.trans (e.trans e2.symm)) ((hF i hi).2 j hlt)
        · exact heq
        · exact absurd (e2.trans (e.symm.trans e1.symm)) ((hF j hj).2 i hgt)
      subst hji
      rw [eq_same]
      simp [share, e]
    · have hne : K j ≠ K i := by
        rcases Nat.lt_trichotomy j i with hlt | heq | hgt
        · exact Nat.ne_of_lt (m11 j i hlt hi)
        · subst heq
          exact absurd (e1.symm.trans e2) e
        · exact Nat.ne_of_gt (m11 i j hgt hj)
      rw [eq_other w (K j) (K i) _ _ _ _ hne (m12 j hj) (m12 i hi)]
      simp [share, e]
  · rw [among_yes hj e1, among_no e2, eq_other w (K j) b2 _ _ _ _ (by have := (m10 j hj).1; omega) (m12 j hj) m4]
    simp [share]
  · rw [among_yes hj e1, among_no e2, eq_other w (K j) b2 _ _ _ _ (by omega) (m12 j hj) hp2]
    simp [share]
  · rw [among_no e1, among_yes hi e2, eq_other w b1 (K i) _ _ _ _ (by have := (m10 i hi).1; omega) m4 (m12 i hi)]
    simp [share]
  · rw [among_no e1, among_no e2, eq_same]
    have : ¬ (n : Int) < bnd := by omega
    simp [share, this]
  · omega
  · rw [among_no e1, among_yes hi e2, eq_other w b1 (K i) _ _ _ _ (by have := hK i hi; omega) hp1 (m12 i hi)]
    simp [share]
  · omega
  · rw [among_no e1, among_no e2, eq_other w b1 b2 _ _ _ _ (by omega) hp1 hp2]
    have : (n : Int) < bnd := by omega
    simp [share, this]

theorem got_over {base s C Z M O R n lo b : Nat} {shv : Value} {lt s0 s1 s2 : ByteArray} {bnd r c p x now : Int} {ids dues : Nat → Int} {K : Nat → Nat} {dv fv : Value} {D : DataW Unit} {w : World} (h : MadeK base s C Z M O R n shv lt s0 s1 s2 bnd r c p ids dues K dv D w)
    (g : Got n O K ids bnd r c p x now lo b fv w) (hO : O < lo) :
    (binOp .eql 46 (.pointer (some ⟨b, 0, none⟩)) (.pointer (some ⟨O, 0, none⟩))).run Try.prog w = .ok (.bool (!(among x ids n) && !(decide ((n : Int) < bnd)))) w := by
  obtain ⟨m1, m2, m3, m4, m5, m6, m7, m8, m9, m10, m11, m12⟩ := h
  rcases g with ⟨j, hj, e1, rfl, _⟩ | ⟨e1, hb1, rfl, _⟩ | ⟨e1, hb1, hl1, hp1, _⟩
  · rw [among_yes hj e1, eq_other w (K j) O _ _ _ _ (by have := (m10 j hj).1; omega) (m12 j hj) m4]
    simp
  · rw [among_no e1, eq_same]
    have : ¬ (n : Int) < bnd := by omega
    simp [this]
  · rw [among_no e1, eq_other w b O _ _ _ _ (by omega) hp1 m4]
    have : (n : Int) < bnd := by omega
    simp [this]

theorem fresh_got {n O lo b : Nat} {hsh hcl : Bool} {lt sh cl ov : ByteArray} {bnd r c p x now : Int} {ids : Nat → Int} {K : Nat → Nat} {fv : Value} {w : World} (hnow : -9223372036854775808 ≤ now ∧ now ≤ 9223372036854775807)
    (g : Got n O K ids bnd r c p x now lo b fv w) :
    Calls Try.prog 21 #[fv, .int .u64 x, .pointer (some ⟨b, 0, none⟩), .bool (!(among x ids n) && decide ((n : Int) < bnd)), .agg #[.bool hsh, .string lt, .string sh, .string cl, .string ov, .bool hcl, .int .i64 bnd, .int .i64 r, .int .i64 c, .int .i64 p], .int .i64 now] w fun e w' => e = .returned (.bool true) ∧ Below w.heap.size w w' := by
  rcases g with ⟨j, hj, e1, rfl, rfl⟩ | ⟨e1, hb1, rfl, rfl⟩ | ⟨e1, hb1, hl1, hp1, rfl⟩
  · rw [among_yes hj e1]
    exact fresh_no _ _ _ _ _ _ _ _ _ _ _ _ _ _ w rfl
  · rw [among_no e1]
    have : ¬ (n : Int) < bnd := by omega
    simp only [this]
    exact fresh_no _ _ _ _ _ _ _ _ _ _ _ _ _ _ w rfl
  · rw [among_no e1]
    have : (n : Int) < bnd := by omega
    simp only [this]
    exact fresh_yes b x now hsh hcl lt sh cl ov bnd r c p w hnow hp1

end Go.Proofs.Qxb6614313a
