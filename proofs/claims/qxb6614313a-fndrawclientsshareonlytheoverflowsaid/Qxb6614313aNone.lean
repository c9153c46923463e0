/-
  DERIVED. Seat b6614313a: a section that limits no client: built, drawn from.
-/
import Derived.Test.Qxb6614313aBuilt
import Derived.Test.Qxb6614313aDraw
namespace Go.Proofs.Qxb6614313a
open Go.RowKit Go.Maps

/-- A section without clients. -/
def Plain (s R : Nat) (shv : Value) (lt s0 s1 s2 : ByteArray) (w : World) : Prop := w.heap[s]? = some (.cells (secCells shv (.pointer none) R lt) 80) ∧ w.heap[R]? = some (reasonsObj s0 s1 s2)

theorem Plain.grown {s R : Nat} {shv : Value} {lt s0 s1 s2 : ByteArray} {w w' : World} (h : Plain s R shv lt s0 s1 s2 w) (hb : Below w.heap.size w w') : Plain s R shv lt s0 s1 s2 w' :=
  ⟨(hb.block _ (hp_lt h.1)).trans h.1, (hb.block _ (hp_lt h.2)).trans h.2⟩

set_option maxHeartbeats 2000000 in
theorem build_no (hsh : Bool) (lt sh cl ov : ByteArray) (bnd r c p : Int) (io dO : Option Addr) (li ci ld cd n : Nat) (w : World) :
    Calls Try.prog 15 #[.agg #[.bool hsh, .string lt, .string sh, .string cl, .string ov, .bool false, .int .i64 bnd, .int .i64 r, .int .i64 c, .int .i64 p], .slice io li ci, .slice dO ld cd, .int .i64 n] w fun e w' =>
      ∃ s R shv, e = .returned (.pointer (some ⟨s, 0, none⟩)) ∧ Plain s R shv lt sh cl ov w' ∧ SharedIs w.heap.size hsh shv w' ∧ Below w.heap.size w w' := by
  cases hsh
  all_goals
    go_enter Try.func15, Try.ntmps15
    go_wp2_with fail
    refine (newSection_l lt sh cl ov _).mono ?_
    rintro e w1 ⟨s, R, rfl, hs, hR0, hRs, hR, hS, hb1⟩
    have hB1 : Below w.heap.size w w1 := ((Below.refl _ w).alloc (Nat.le_refl _) _).trans (hb1.mono (by simp))
    have hq1 := (hb1.block w.heap.size (by simp)).trans (hp_new _ _ _ rfl)
    simp only [World.size_alloc] at hs hR0
    clear hb1
  · have q0 := hp_cell hq1 0
    have q5 := hp_cell hq1 5
    simp at q0 q5
    go_wp2_with fail
    go_ret
    exact ⟨s, R, _, rfl, ⟨hS, hR⟩, .inl ⟨rfl, rfl⟩, hB1⟩
  · have q0 := hp_cell hq1 0
    have q7 := hp_cell hq1 7
    have q8 := hp_cell hq1 8
    have q9 := hp_cell hq1 9
    simp at q0 q7 q8 q9
    go_wp2_with fail
    refine (giveShared_l s R r c p (.pointer none) lt _ hS).mono ?_
    rintro e w2 ⟨rfl, k, hk1, hk2, hS2, hkp2, hbs2⟩
    have hwz1 := hB1.size
    have hR2 := (hkp2 R (hp_lt hR) hRs).trans hR
    have hq2 := (hkp2 w.heap.size (hp_lt hq1) (by omega)).trans hq1
    have hB2 : Below w.heap.size w w2 := hB1.trans (hbs2.mono (by omega))
    clear hq1 hR hS hB1 q0 q7 q8 q9 hkp2 hbs2
    have q5 := hp_cell hq2 5
    simp at q5
    go_wp2_with fail
    go_ret
    exact ⟨s, R, _, rfl, ⟨hS2, hR2⟩, .inr ⟨rfl, k, by omega, hk2, rfl⟩, hB2⟩

/-- What a draw answers with where no client is limited. -/
def DrewN (Q : Value → Value → Prop) (w : World) (e : Ending) (w' : World) : Prop := (∃ a b, e = .returned (.tuple #[a, b, .pointer none]) ∧ Q a b) ∧ Below w.heap.size w w'

def QNone (a b : Value) : Prop := a = .slice none 0 0 ∧ b = .pointer none
def QOne (v : Value) (lt : ByteArray) (a b : Value) : Prop := (∃ g cap, a = .slice (some ⟨g, 0, none⟩) 1 cap) ∧ b = if lt.toList = [] then .pointer none else v

set_option maxHeartbeats 2000000 in
theorem draw_none {s R : Nat} {lt s0 s1 s2 : ByteArray} {x now : Int} {w : World} (h : Plain s R (.pointer none) lt s0 s1 s2 w) :
    Calls Try.prog 29 #[.pointer (some ⟨s, 0, none⟩), .slice none 0 0, .int .u64 x, .agg #[.int .u64 (now % 1000000000), .int .i64 (now / 1000000000), .pointer none]] w (DrewN QNone w) := by
  have c2 : w.cell? ⟨s, 2, none⟩ = some (.pointer none) := hp_cell h.1 2
  have c3 : w.cell? ⟨s, 3, none⟩ = some (.pointer none) := hp_cell h.1 3
  have hs := hp_lt h.1
  have ls1 : s < w.heap.size + 1 := by omega
  clear h
  go_enter Try.func29, Try.ntmps29
  go_wp2_with fail
  go_ret3
  exact ⟨⟨_, _, rfl, rfl, rfl⟩, (Below.refl _ w).alloc (Nat.le_refl _) _⟩

set_option maxRecDepth 4000 in
set_option maxHeartbeats 2000000 in
theorem draw_shared {s R k : Nat} {lt s0 s1 s2 : ByteArray} {x now : Int} {w : World} (h : Plain s R (.pointer (some ⟨k, 0, none⟩)) lt s0 s1 s2 w) :
    Calls Try.prog 29 #[.pointer (some ⟨s, 0, none⟩), .slice none 0 0, .int .u64 x, .agg #[.int .u64 (now % 1000000000), .int .i64 (now / 1000000000), .pointer none]] w (DrewN (QOne (.pointer (some ⟨k, 0, none⟩)) lt) w) := by
  have c2 : w.cell? ⟨s, 2, none⟩ = some (.pointer (some ⟨k, 0, none⟩)) := hp_cell h.1 2
  have c4 : w.cell? ⟨s, 4, none⟩ = some (.pointer (some ⟨R, 0, none⟩)) := hp_cell h.1 4
  have r0 : w.cell? ⟨R, 0, none⟩ = some (.string s0) := hp_cell h.2 0
  have hs := hp_lt h.1
  have hr := hp_lt h.2
  have ls1 : s < w.heap.size + 1 := by omega
  have ls2 : s < w.heap.size + 1 + 1 := by omega
  have ls3 : s < w.heap.size + 2 := by omega
  have lr1 : R < w.heap.size + 1 := by omega
  have lr2 : R < w.heap.size + 1 + 1 := by omega
  have lr3 : R < w.heap.size + 2 := by omega
  obtain ⟨i0, hi, hz0, hz1, hz2⟩ := info_parts Try.info54
  have hH : Hid (Plain s R (.pointer (some ⟨k, 0, none⟩)) lt s0 s1 s2 w) := h
  clear h
  go_enter Try.func29, Try.ntmps29
  go_upto_region 2 with fail
  go_cut [1] from 11 to 67 (fun v wc => (∃ g cap, v = .slice (some ⟨g, 0, none⟩) 1 cap) ∧ Below (w.heap.size + 1) (w.alloc (timeObj (now % 1000000000) (now / 1000000000))) wc)
  case first =>
    go_region_law ((refine step_append_lies _ (by rfl) (.tmp 18) (.tmp 31) 45 (by rfl) (w.heap.size + 1) 54 i0 _ 2 24 Try.underlying45 hi hz0 hz1 hz2 rfl (by decide) (.slice none 0 0) 0 [] (by rfl) (World.ownsRow_nil _ _ _ _) ⟨w.heap.size + 1, 0, none⟩ 1 1 [.pointer (some ⟨k, 0, none⟩), .string s0] (by rfl) rfl (World.news_of_block (cs := #[.pointer (some ⟨k, 0, none⟩), .string s0]) (by exact hp_new _ _ _ (by simp))) (by intro u hu; simp at hu; rcases hu with rfl | rfl <;> rfl) (by omega) (by unfold maxLen; omega) (by omega) (by simp) (w.heap.size + 2) (by simp) ?_; intro g cap w2 hown hgrow hat hlt))
    all_goals
      go_wp2_with fail
      go_meet
      refine ⟨⟨g, cap, rfl⟩, ?_⟩
      exact Below.grown (by repeat' first | exact Below.refl _ _ | apply Below.drew | (refine Below.alloc ?_ (by simp) _)) hgrow (by simp) (fun k h => by cases h)
  case rest =>
    obtain ⟨⟨g, cap, rfl⟩, hBc⟩ := hcut
    have hBw : Below w.heap.size w wc := Below.trans ((Below.refl _ w).alloc (Nat.le_refl _) _) (hBc.mono (show w.heap.size ≤ _ by omega))
    have hM := hH.out.grown hBw
    have d2 : wc.cell? ⟨s, 2, none⟩ = some (.pointer (some ⟨k, 0, none⟩)) := hp_cell hM.1 2
    have d3 : wc.cell? ⟨s, 3, none⟩ = some (.pointer none) := hp_cell hM.1 3
    have d5 : wc.cell? ⟨s, 5, none⟩ = some (.string lt) := hp_cell hM.1 5
    clear c2 c4 r0
    by_cases hl : lt.toList = []
    · go_wp2_with fail
      go_ret3
      exact ⟨⟨_, _, rfl, ⟨g, cap, rfl⟩, (if_pos hl).symm⟩, hBw⟩
    · have hl' : (lt.toList == []) = false := by simpa using hl
      go_wp2_with fail
      go_ret3
      exact ⟨⟨_, _, rfl, ⟨g, cap, rfl⟩, (if_neg hl).symm⟩, hBw⟩

theorem zzDraw_none {s : Nat} {Q : Value → Value → Prop} {x now : Int} {w : World}
    (h : ∀ w0, Below w.heap.size w w0 → Calls Try.prog 29 #[.pointer (some ⟨s, 0, none⟩), .slice none 0 0, .int .u64 x, .agg #[.int .u64 (now % 1000000000), .int .i64 (now / 1000000000), .pointer none]] w0 (DrewN Q w0)) :
    Calls Try.prog 17 #[.pointer (some ⟨s, 0, none⟩), .slice none 0 0, .int .u64 x, .agg #[.int .u64 (now % 1000000000), .int .i64 (now / 1000000000), .pointer none]] w (DrewN Q w) := by
  go_enter Try.func17, Try.ntmps17
  go_wp2_with fail
  refine (h _ ((Below.refl _ w).alloc (Nat.le_refl _) _)).mono ?_
  rintro e w1 ⟨⟨a, b, rfl, hq⟩, h6⟩
  go_wp2_with fail
  go_ret3
  exact ⟨⟨a, b, rfl, hq⟩, Below.trans ((Below.refl _ w).alloc (Nat.le_refl _) _) (h6.mono (show w.heap.size ≤ _ by simp))⟩

end Go.Proofs.Qxb6614313a
