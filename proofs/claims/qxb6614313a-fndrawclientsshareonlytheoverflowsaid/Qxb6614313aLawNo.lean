/-
  DERIVED. Seat b6614313a: the law where no client is limited.
-/
import Derived.Test.Qxb6614313aNone
import Derived.Test.Qxb6614313aGates
import Derived.Test.Qxb6614313aFresh
namespace Go.Proofs.Qxb6614313a
open Go.RowKit Go.Maps

theorem kept_any (x : Int) (io : Option Addr) (li ci n : Nat) (zs : Nat → Int) (w : World) (hn : n ≤ li) (hN : n ≤ 4096) (hz : Ints .u64 io n zs w) :
    Calls Try.prog 14 #[.int .u64 x, .slice io li ci, .int .i64 n] w fun e w' => e = .returned (.bool (among x zs n)) ∧ w' = w := by
  cases h : among x zs n
  · exact isKept_no x io li ci n zs w hn hN hz h
  · exact isKept_yes x io li ci n zs w hn hN hz h

theorem Ints.less {q : IntKind} {ao : Option Addr} {n m : Nat} {zs : Nat → Int} {w w' : World} (h : Ints q ao n zs w) (hm : m ≤ n) (hb : Below w.heap.size w w') : Ints q ao m zs w' := by
  intro hp
  obtain ⟨b, o, rfl, hlt, hc⟩ := h (by omega)
  have := hb.size
  exact ⟨b, o, rfl, by omega, fun t ht => (hb.cell (p := ⟨b, o + t, none⟩) hlt).trans (hc t (by omega))⟩

theorem shape_cells {w : World} {B : Nat} {hsh hcl : Bool} {lt sh cl ov : ByteArray} {bnd r c p : Int} (h : w.heap[B]? = some (shapeObj hsh hcl lt sh cl ov bnd r c p)) :
    w.cell? ⟨B, 0, none⟩ = some (.bool hsh) ∧ w.cell? ⟨B, 1, none⟩ = some (.string lt) ∧ w.cell? ⟨B, 2, none⟩ = some (.string sh) ∧ w.cell? ⟨B, 3, none⟩ = some (.string cl) ∧ w.cell? ⟨B, 4, none⟩ = some (.string ov) ∧ w.cell? ⟨B, 5, none⟩ = some (.bool hcl) ∧ w.cell? ⟨B, 6, none⟩ = some (.int .i64 bnd) ∧ w.cell? ⟨B, 7, none⟩ = some (.int .i64 r) ∧ w.cell? ⟨B, 8, none⟩ = some (.int .i64 c) ∧ w.cell? ⟨B, 9, none⟩ = some (.int .i64 p) :=
  ⟨hp_cell h 0, hp_cell h 1, hp_cell h 2, hp_cell h 3, hp_cell h 4, hp_cell h 5, hp_cell h 6, hp_cell h 7, hp_cell h 8, hp_cell h 9⟩

theorem at_l (d : Int) (w : World) (h : -9223372036854775808 ≤ d ∧ d ≤ 9223372036854775807) :
    Calls Try.prog 16 #[.int .i64 d] w fun e w' => e = .returned (.agg #[.int .u64 (d % 1000000000), .int .i64 (d / 1000000000), .pointer none]) ∧ Below w.heap.size w w' := by
  refine (at_any d w h).mono ?_
  rintro e w' ⟨rfl, rfl⟩
  exact ⟨rfl, (((Below.refl _ w).alloc (Nat.le_refl _) _).alloc (by simp) _).alloc (by simp <;> omega) _⟩

set_option maxRecDepth 4000 in
set_option maxHeartbeats 4000000 in
theorem law_no (a b now : Int) (hsh : Bool) (lt sh cl ov : ByteArray) (bnd r c p : Int) (io dO : Option Addr) (li ci ld cd : Nat) (ids : Nat → Int) (w : World) (hnow : -9223372036854775808 ≤ now ∧ now ≤ 9223372036854775807) (hI : Ints .u64 io li ids w) :
    Calls Try.prog 4 #[.int .u64 a, .int .u64 b, .int .i64 now, .agg #[.bool hsh, .string lt, .string sh, .string cl, .string ov, .bool false, .int .i64 bnd, .int .i64 r, .int .i64 c, .int .i64 p], .slice io li ci, .slice dO ld cd] w fun e w' => e = .returned (.bool true) ∧ Below w.heap.size w w' := by
  have hIH : Hid (Ints .u64 io li ids w) := hI
  clear hI
  go_enter Try.func4, Try.ntmps4
  go_wp2_with fail
  refine (bytes_any _ _ _ _ _ _ _ _ _ _ _ _ _ _ _ _ _ _ _ _).mono ?_
  rintro e w1 ⟨⟨q, rfl⟩, hb1⟩
  have hT1 : w1.heap[w.heap.size]? = some (shapeObj hsh false lt sh cl ov bnd r c p) := (hb1.block w.heap.size (by simp)).trans (hp_new w _ _ rfl)
  have hB1 : Below w.heap.size w w1 := ((Below.refl _ w).alloc (Nat.le_refl _) _).trans (hb1.mono (show w.heap.size ≤ _ by simp))
  have hz1 := hB1.size
  clear hb1
  cases q
  · clear hT1
    go_wp2_with fail
    go_ret
    exact ⟨rfl, hB1⟩
  obtain ⟨q0, q1, q2, q3, q4, q5, q6, q7, q8, q9⟩ := shape_cells hT1
  go_wp2_with fail
  refine (big_any _ _ _ _ _ _ _ _ _ _ _ _ _ _ _ _ _).mono ?_
  rintro e w2 ⟨⟨q, rfl, hq⟩, hb2⟩
  have hT2 := (hb2.block w.heap.size (hp_lt hT1)).trans hT1
  have hB2 := hB1.trans (hb2.mono hz1)
  have hz2 := hB2.size
  clear hb2 hT1 q0 q1 q2 q3 q4 q5 q6 q7 q8 q9
  cases q
  case true =>
    clear hT2
    go_wp2_with fail
    go_ret
    exact ⟨rfl, hB2⟩
  obtain ⟨hli, hld⟩ := hq rfl
  clear hq
  obtain ⟨q0, q1, q2, q3, q4, q5, q6, q7, q8, q9⟩ := shape_cells hT2
  go_wp2_with fail
  refine (pair_any _ _ _ _ _ _ _).mono ?_
  rintro e w3 ⟨rfl, rfl⟩
  obtain ⟨n, hn⟩ : ∃ n, n = min li ld := ⟨_, rfl⟩
  rw [← hn]
  have hn1 : n ≤ li := by omega
  have hn2 : n ≤ 4096 := by omega
  have hIn : Hid (Ints .u64 io n ids w3) := hIH.out.less hn1 hB2
  clear hn
  cases hsh
  all_goals
    go_wp2_with fail
    refine (kept_any _ _ _ _ n ids _ hn1 hn2 hIn.out).mono ?_
    rintro e w4 ⟨rfl, rfl⟩
    go_wp2_with fail
    refine (kept_any _ _ _ _ n ids _ hn1 hn2 hIn.out).mono ?_
    rintro e w5 ⟨rfl, rfl⟩
    go_wp2_with fail
    refine (build_no _ _ _ _ _ _ _ _ _ _ _ _ _ _ _ n _).mono ?_
    rintro e w6 ⟨s, R, shv, rfl, hP, hS, hb3⟩
    have hT3 := (hb3.block w.heap.size (hp_lt hT2)).trans hT2
    have hB3 := hB2.trans (hb3.mono hz2)
    have hz3 := hB3.size
    clear hb3 hT2 q0 q1 q2 q3 q4 q5 q6 q7 q8 q9
    go_wp2_with fail
    refine (at_l now _ hnow).mono ?_
    rintro e w7 ⟨rfl, hb7⟩
    have hT7 := (hb7.block _ (hp_lt hT3)).trans hT3
    have hP7 := hP.grown hb7
    have hS7 := hS.grown hb7.size
    have hB7 := hB3.trans (hb7.mono hz3)
    have hz7 := hB7.size
    clear hb7 hT3 hP hS
    go_wp2_with fail
    have hPm := hP7.grown ((Below.refl _ w7).alloc (Nat.le_refl _) (.cells #[.int .u64 (now % 1000000000), .int .i64 (now / 1000000000), .pointer none] 43))
    have hBm := hB7.alloc hz7 (.cells #[.int .u64 (now % 1000000000), .int .i64 (now / 1000000000), .pointer none] 43)
    have hTm := ((Below.refl _ w7).alloc (Nat.le_refl _) (.cells #[.int .u64 (now % 1000000000), .int .i64 (now / 1000000000), .pointer none] 43)).block _ (hp_lt hT7) |>.trans hT7
    have hzm := hBm.size
  · obtain ⟨_, rfl⟩ : false = false ∧ shv = .pointer none := by
      rcases hS7 with h | ⟨h, _⟩
      · exact h
      · cases h
    refine (zzDraw_none (fun w0 hb => draw_none (hPm.grown hb))).mono ?_
    rintro e w8 ⟨⟨x, y, rfl, rfl, rfl⟩, hb8⟩
    have hM8 := (hb8.block w7.heap.size (by simp)).trans (hp_new w7 _ _ rfl)
    have hT8 := (hb8.block _ (hp_lt hTm)).trans hTm
    have hP8 := hPm.grown hb8
    have hB8 := hBm.trans (hb8.mono hzm)
    have hz8 := hB8.size
    have t0 := hp_cell hM8 0
    have t1 := hp_cell hM8 1
    have t2 := hp_cell hM8 2
    simp at t0 t1 t2
    clear hb8 hT7 hTm hPm hP7
    go_wp2_with fail
    refine (zzDraw_none (fun w0 hb => draw_none (hP8.grown hb))).mono ?_
    rintro e w9 ⟨⟨x, y, rfl, rfl, rfl⟩, hb9⟩
    have hT9 := (hb9.block _ (hp_lt hT8)).trans hT8
    have hP9 := hP8.grown hb9
    have hB9 := hB8.trans (hb9.mono hz8)
    obtain ⟨q0, q1, q2, q3, q4, q5, q6, q7, q8, q9⟩ := shape_cells hT9
    clear hb9 hT8 hP8 t0 t1 t2
    go_wp2_with fail
    go_ret
    exact ⟨rfl, hB9⟩
  · obtain ⟨k, rfl⟩ : ∃ k, shv = .pointer (some ⟨k, 0, none⟩) := by
      rcases hS7 with ⟨h, _⟩ | ⟨_, k, _, _, h⟩
      · cases h
      · exact ⟨k, h⟩
    have heq := eq_same
    by_cases hl : lt.toList = []
    · refine (zzDraw_none (fun w0 hb => draw_shared (hPm.grown hb))).mono ?_
      rintro e w8 ⟨⟨x, y, rfl, ⟨g8, c8, rfl⟩, hy⟩, hb8⟩
      rw [if_pos hl] at hy
      subst hy
      have hM8 := (hb8.block w7.heap.size (by simp)).trans (hp_new w7 _ _ rfl)
      have hT8 := (hb8.block _ (hp_lt hTm)).trans hTm
      have hP8 := hPm.grown hb8
      have hB8 := hBm.trans (hb8.mono hzm)
      have hz8 := hB8.size
      have t0 := hp_cell hM8 0
      have t1 := hp_cell hM8 1
      have t2 := hp_cell hM8 2
      simp at t0 t1 t2
      clear hb8 hT7 hTm hPm hP7
      go_wp2_with fail
      refine (zzDraw_none (fun w0 hb => draw_shared (hP8.grown hb))).mono ?_
      rintro e w9 ⟨⟨x, y, rfl, ⟨g9, c9, rfl⟩, hy⟩, hb9⟩
      rw [if_pos hl] at hy
      subst hy
      have hT9 := (hb9.block _ (hp_lt hT8)).trans hT8
      have hP9 := hP8.grown hb9
      have hB9 := hB8.trans (hb9.mono hz8)
      obtain ⟨q0, q1, q2, q3, q4, q5, q6, q7, q8, q9⟩ := shape_cells hT9
      clear hb9 hT8 hP8 t0 t1 t2
      go_wp2_with fail
      go_ret
      exact ⟨rfl, hB9⟩
    · have hl' : (lt.toList == []) = false := by simpa using hl
      refine (zzDraw_none (fun w0 hb => draw_shared (hPm.grown hb))).mono ?_
      rintro e w8 ⟨⟨x, y, rfl, ⟨g8, c8, rfl⟩, hy⟩, hb8⟩
      rw [if_neg hl] at hy
      subst hy
      have hM8 := (hb8.block w7.heap.size (by simp)).trans (hp_new w7 _ _ rfl)
      have hT8 := (hb8.block _ (hp_lt hTm)).trans hTm
      have hP8 := hPm.grown hb8
      have hB8 := hBm.trans (hb8.mono hzm)
      have hz8 := hB8.size
      have t0 := hp_cell hM8 0
      have t1 := hp_cell hM8 1
      have t2 := hp_cell hM8 2
      simp at t0 t1 t2
      clear hb8 hT7 hTm hPm hP7
      go_wp2_with fail
      refine (zzDraw_none (fun w0 hb => draw_shared (hP8.grown hb))).mono ?_
      rintro e w9 ⟨⟨x, y, rfl, ⟨g9, c9, rfl⟩, hy⟩, hb9⟩
      rw [if_neg hl] at hy
      subst hy
      have hT9 := (hb9.block _ (hp_lt hT8)).trans hT8
      have hP9 := hP8.grown hb9
      have hB9 := hB8.trans (hb9.mono hz8)
      obtain ⟨q0, q1, q2, q3, q4, q5, q6, q7, q8, q9⟩ := shape_cells hT9
      clear hb9 hT8 hP8 t0 t1 t2
      go_wp2_with fail
      refine (shared_any s (.pointer (some ⟨k, 0, none⟩)) _ (hp_cell hP9.1 2)).mono ?_
      rintro e w10 ⟨rfl, rfl⟩
      go_wp2_with fail
      go_ret
      exact ⟨rfl, hB9⟩

end Go.Proofs.Qxb6614313a
