/-
  DERIVED. Seat b6614313a: draw, ZZCallDraw.
-/
import Derived.Test.Qxb6614313aGot
import Derived.Deep.AppendLies
import Derived.Laws.OwnMore
import Derived.Deep.CutRange
namespace Go.Proofs.Qxb6614313a
open Go.RowKit Go.Maps

theorem Try.info54 : (Try.prog.info? 54).map (fun i => (i.zero, i.size, i.bytes)) = some (some (.agg #[.pointer none, .string ⟨#[]⟩]), 2, 24) := by kernel_rfl

theorem got_app {n O : Nat} {K : Nat → Nat} {ids : Nat → Int} {bnd r c p x now : Int} {lo b : Nat} {fv : Value} {w w' : World} {row : Option Nat} (h : Got n O K ids bnd r c p x now lo b fv w) (hg : w.grownBy w' row) (hr : ∀ k, row = some k → k < lo) : Got n O K ids bnd r c p x now lo b fv w' := by
  rcases h with h | h | ⟨h1, h2, h3, h4, h5⟩
  · exact .inl h
  · exact .inr (.inl h)
  · exact .inr (.inr ⟨h1, h2, h3, (hg.block b (hp_lt h4) (fun e => by have := hr b e.symm; omega)).trans h4, h5⟩)

theorem row_block {w w' : World} {base n sz : Nat} {T : TypeId} {v : Value} {xs : List Value} (h : w.ownsRow base T sz v n xs) (e : ∀ g, v.ownBlock = some g → w'.heap[g]? = w.heap[g]?) : w'.ownsRow base T sz v n xs := by
  obtain ⟨h1, h2 | ⟨g, cap, cur, rfl, hb, hg, rest⟩⟩ := h
  · exact ⟨h1, .inl h2⟩
  · exact ⟨h1, .inr ⟨g, cap, cur, rfl, hb, (e g rfl).trans hg, rest⟩⟩

/-- What a draw answers with: m draws, the last of them on b's bucket; b; a fresh client or none. -/
def Drew (m n O : Nat) (K : Nat → Nat) (ids : Nat → Int) (bnd r c p x now : Int) (w : World) (e : Ending) (w' : World) : Prop :=
  ∃ b fv g cap lim, e = .returned (.tuple #[.slice (some ⟨g, 0, none⟩) (m + 1) cap, .pointer (some ⟨b, 0, none⟩), fv]) ∧ w.heap.size ≤ g ∧ g < w'.heap.size ∧ w'.cell? ⟨g, 2 * m, none⟩ = some (.pointer (some ⟨b, 0, none⟩)) ∧ w'.cell? ⟨g, 2 * m + 1, none⟩ = some (.string lim) ∧ Got n O K ids bnd r c p x now w.heap.size b fv w' ∧ Below w.heap.size w w'

set_option maxHeartbeats 2000000 in
theorem draw_one {base s C Z M O R n : Nat} {lt s0 s1 s2 : ByteArray} {bnd r c p : Int} {ids dues : Nat → Int} {K : Nat → Nat} {dv : Value} {D : DataW Unit} {w : World} {now x : Int} (hx : (Lit.int .u64 x).wf = true) (h : MadeK base s C Z M O R n (.pointer none) lt s0 s1 s2 bnd r c p ids dues K dv D w) (hf : 0 < n → now < dues 0) :
    Calls Try.prog 29 #[.pointer (some ⟨s, 0, none⟩), .slice none 0 0, .int .u64 x, .agg #[.int .u64 (now % 1000000000), .int .i64 (now / 1000000000), .pointer none]] w (Drew 0 n O K ids bnd r c p x now w) := by
  have c2 : w.cell? ⟨s, 2, none⟩ = some (.pointer none) := hp_cell h.1 2
  have c3 : w.cell? ⟨s, 3, none⟩ = some (.pointer (some ⟨C, 0, none⟩)) := hp_cell h.1 3
  have hs := hp_lt h.1
  have ls1 : s < w.heap.size + 1 := by omega
  obtain ⟨i0, hi, hz0, hz1, hz2⟩ := info_parts Try.info54
  have hH : Hid (MadeK base s C Z M O R n (.pointer none) lt s0 s1 s2 bnd r c p ids dues K dv D w) := h
  clear h
  go_enter Try.func29, Try.ntmps29
  go_wp2_with fail
  go_region_with (go_at_call 38; refine (of_made hx (hH.out.grown (by repeat' first | exact Below.refl _ _ | apply Below.drew | (refine Below.alloc ?_ (by simp) _))) hf).mono ?_; rintro e w1 ⟨b, lim, fv, rfl, hg, hb1⟩)
  all_goals
    have hb1x : Below w.heap.size _ w1 := hb1.mono (show w.heap.size ≤ _ by simp)
    have hB1 : Below w.heap.size w w1 := Below.trans (by repeat' first | exact Below.refl _ _ | apply Below.drew | (refine Below.alloc ?_ (by simp) _)) hb1x
    have hz := hB1.size
    go_wp2_with (at_builtin; refine wpList_append_lies _ rfl (.tmp 58) (.tmp 62) 45 rfl w.heap.size 54 i0 _ 2 24 Try.underlying45 hi hz0 hz1 hz2 rfl (by decide) (.slice none 0 0) 0 [] rfl (World.ownsRow_nil _ _ _ _) ⟨w1.heap.size, 0, none⟩ 1 1 [.pointer (some ⟨b, 0, none⟩), .string lim] rfl rfl (World.news_of_block (cs := #[.pointer (some ⟨b, 0, none⟩), .string lim]) (hp_new _ _ _ rfl)) (by intro u hu; simp at hu; rcases hu with rfl | rfl <;> rfl) (by omega) (by unfold maxLen; omega) (by omega) (by simp; omega) (w1.heap.size + 1) (by simp) ?_; intro g cap w2 hown hgrow hat hlt)
    have hB2 : Below w.heap.size w w2 := (hB1.alloc hz _).grown hgrow (by simp; omega) (fun k h => by cases h)
    go_ret3
    refine ⟨b, fv, g, cap, lim, rfl, (hown.lt g rfl).1, hlt, hown.cellAt 0 (by omega), hown.cellAt 1 (by omega), ?_, hB2⟩
    exact got_app ((hg.grown (lo' := w.heap.size) (by simp) (Below.refl _ _)).grown (Nat.le_refl _) ((Below.refl _ w1).alloc (Nat.le_refl _) _)) hgrow (fun k h => by cases h)

set_option maxRecDepth 4000 in
set_option maxHeartbeats 2000000 in
theorem draw_two {base s C Z M O R n k : Nat} {lt s0 s1 s2 : ByteArray} {bnd r c p : Int} {ids dues : Nat → Int} {K : Nat → Nat} {dv : Value} {D : DataW Unit} {w : World} {now x : Int} (hx : (Lit.int .u64 x).wf = true) (h : MadeK base s C Z M O R n (.pointer (some ⟨k, 0, none⟩)) lt s0 s1 s2 bnd r c p ids dues K dv D w) (hf : 0 < n → now < dues 0) :
    Calls Try.prog 29 #[.pointer (some ⟨s, 0, none⟩), .slice none 0 0, .int .u64 x, .agg #[.int .u64 (now % 1000000000), .int .i64 (now / 1000000000), .pointer none]] w (Drew 1 n O K ids bnd r c p x now w) := by
  have c2 : w.cell? ⟨s, 2, none⟩ = some (.pointer (some ⟨k, 0, none⟩)) := hp_cell h.1 2
  have c4 : w.cell? ⟨s, 4, none⟩ = some (.pointer (some ⟨R, 0, none⟩)) := hp_cell h.1 4
  have r0 : w.cell? ⟨R, 0, none⟩ = some (.string s0) := hp_cell h.2.1 0
  have hs := hp_lt h.1
  have hr := hp_lt h.2.1
  have ls1 : s < w.heap.size + 1 := by omega
  have ls2 : s < w.heap.size + 1 + 1 := by omega
  have ls3 : s < w.heap.size + 2 := by omega
  have lr1 : R < w.heap.size + 1 := by omega
  have lr2 : R < w.heap.size + 1 + 1 := by omega
  have lr3 : R < w.heap.size + 2 := by omega
  obtain ⟨i0, hi, hz0, hz1, hz2⟩ := info_parts Try.info54
  have hH : Hid (MadeK base s C Z M O R n (.pointer (some ⟨k, 0, none⟩)) lt s0 s1 s2 bnd r c p ids dues K dv D w) := h
  clear h
  go_enter Try.func29, Try.ntmps29
  go_upto_region 2 with fail
  go_cut [1] from 11 to 67 (fun v wc => ∃ g cap, v = .slice (some ⟨g, 0, none⟩) 1 cap ∧ wc.ownsRow (w.heap.size + 1) 54 2 v 1 [.pointer (some ⟨k, 0, none⟩), .string s0] ∧ Below (w.heap.size + 1) (w.alloc (timeObj (now % 1000000000) (now / 1000000000))) wc)
  case first =>
    go_region_law ((refine step_append_lies _ (by rfl) (.tmp 18) (.tmp 31) 45 (by rfl) (w.heap.size + 1) 54 i0 _ 2 24 Try.underlying45 hi hz0 hz1 hz2 rfl (by decide) (.slice none 0 0) 0 [] (by rfl) (World.ownsRow_nil _ _ _ _) ⟨w.heap.size + 1, 0, none⟩ 1 1 [.pointer (some ⟨k, 0, none⟩), .string s0] (by rfl) rfl (World.news_of_block (cs := #[.pointer (some ⟨k, 0, none⟩), .string s0]) (by exact hp_new _ _ _ (by simp))) (by intro u hu; simp at hu; rcases hu with rfl | rfl <;> rfl) (by omega) (by unfold maxLen; omega) (by omega) (by simp) (w.heap.size + 2) (by simp) ?_; intro g cap w2 hown hgrow hat hlt))
    all_goals
      go_wp2_with fail
      go_meet
      refine ⟨g, cap, rfl, hown, ?_⟩
      exact Below.grown (by repeat' first | exact Below.refl _ _ | apply Below.drew | (refine Below.alloc ?_ (by simp) _)) hgrow (by simp) (fun k h => by cases h)
  case rest =>
    obtain ⟨g, cap, rfl, hown, hBc⟩ := hcut
    have hBw : Below w.heap.size w wc := Below.trans ((Below.refl _ w).alloc (Nat.le_refl _) _) (hBc.mono (show w.heap.size ≤ _ by omega))
    have hT := (hBc.block w.heap.size (by omega)).trans (hp_new w _ _ rfl)
    have hM := hH.out.grown hBw
    have d2 : wc.cell? ⟨s, 2, none⟩ = some (.pointer (some ⟨k, 0, none⟩)) := hp_cell hM.1 2
    have d3 : wc.cell? ⟨s, 3, none⟩ = some (.pointer (some ⟨C, 0, none⟩)) := hp_cell hM.1 3
    have d5 : wc.cell? ⟨s, 5, none⟩ = some (.string lt) := hp_cell hM.1 5
    have t0 : wc.cell? ⟨w.heap.size, 0, none⟩ = some (.int .u64 (now % 1000000000)) := hp_cell hT 0
    have t1 : wc.cell? ⟨w.heap.size, 1, none⟩ = some (.int .i64 (now / 1000000000)) := hp_cell hT 1
    have t2 : wc.cell? ⟨w.heap.size, 2, none⟩ = some (.pointer none) := hp_cell hT 2
    clear c2 c4 r0 hT
    have hgl := hown.lt g rfl
    by_cases hl : lt.toList = []
    case' neg => have hl' : (lt.toList == []) = false := by simpa using hl
    all_goals
      go_wp2_with fail
      go_region_with (go_at_call 38; refine (of_made hx (hM.grown (by repeat' first | exact Below.refl _ _ | apply Below.drew | (refine Below.alloc ?_ (by simp) _))) hf).mono ?_; rintro e w1 ⟨b, lim, fv, rfl, hg, hb1⟩)
      all_goals
        have hb1x : Below wc.heap.size wc w1 := Below.trans (by repeat' first | exact Below.refl _ _ | apply Below.drew | (refine Below.alloc ?_ (by simp) _)) (hb1.mono (show wc.heap.size ≤ _ by simp))
        have hB1 : Below w.heap.size w w1 := hBw.trans (hb1x.mono hBw.size)
        have hz := hB1.size
        have hzc := hb1x.size
        have hown1 : w1.ownsRow (w.heap.size + 1) 54 2 (.slice (some ⟨g, 0, none⟩) 1 cap) 1 [.pointer (some ⟨k, 0, none⟩), .string s0] := row_block hown (fun q hq => hb1x.block q (hown.lt q hq).2)
        go_wp2_with (at_builtin; refine wpList_append_lies _ rfl (.tmp 58) (.tmp 62) 45 rfl (w.heap.size + 1) 54 i0 _ 2 24 Try.underlying45 hi hz0 hz1 hz2 rfl (by decide) (.slice (some ⟨g, 0, none⟩) 1 cap) 1 _ rfl (hown1.alloc _) ⟨w1.heap.size, 0, none⟩ 1 1 [.pointer (some ⟨b, 0, none⟩), .string lim] rfl rfl (World.news_of_block (cs := #[.pointer (some ⟨b, 0, none⟩), .string lim]) (hp_new _ _ _ rfl)) (by intro u hu; simp at hu; rcases hu with rfl | rfl <;> rfl) (by omega) (by unfold maxLen; omega) (by omega) (by simp; omega) (w1.heap.size + 1) (by simp) ?_; intro g2 cap2 w2 hown2 hgrow hat hlt)
        have hB2 : Below w.heap.size w w2 := (hB1.alloc hz _).grown hgrow (by simp; omega) (fun q h => by cases h; exact Nat.le_of_succ_le hgl.1)
        go_ret3
        refine ⟨b, fv, g2, cap2, lim, rfl, Nat.le_of_succ_le (hown2.lt g2 rfl).1, hlt, hown2.cellAt 2 (by omega), hown2.cellAt 3 (by omega), ?_, hB2⟩
        exact (got_app (hg.grown (Nat.le_refl _) ((Below.refl _ w1).alloc (Nat.le_refl _) _)) hgrow (fun q h => by cases h; simpa using hgl.2)).grown (by have := hBw.size; simpa using this) (Below.refl _ _)

/-- ZZCallDraw hands the draw through. -/
theorem zzDraw_any {m n O s : Nat} {K : Nat → Nat} {ids : Nat → Int} {bnd r c p x now : Int} {w : World}
    (h : ∀ w0, Below w.heap.size w w0 → Calls Try.prog 29 #[.pointer (some ⟨s, 0, none⟩), .slice none 0 0, .int .u64 x, .agg #[.int .u64 (now % 1000000000), .int .i64 (now / 1000000000), .pointer none]] w0 (Drew m n O K ids bnd r c p x now w0)) :
    Calls Try.prog 17 #[.pointer (some ⟨s, 0, none⟩), .slice none 0 0, .int .u64 x, .agg #[.int .u64 (now % 1000000000), .int .i64 (now / 1000000000), .pointer none]] w (Drew m n O K ids bnd r c p x now w) := by
  go_enter Try.func17, Try.ntmps17
  go_wp2_with fail
  refine (h _ ((Below.refl _ w).alloc (Nat.le_refl _) _)).mono ?_
  rintro e w1 ⟨b, fv, g, cap, lim, rfl, h1, h2, h3, h4, h5, h6⟩
  go_wp2_with fail
  go_ret3
  exact ⟨b, fv, g, cap, lim, rfl, by simp at h1; omega, h2, h3, h4, h5.grown (by simp) (Below.refl _ _), Below.trans ((Below.refl _ w).alloc (Nat.le_refl _) _) (h6.mono (show w.heap.size ≤ _ by simp))⟩

end Go.Proofs.Qxb6614313a
