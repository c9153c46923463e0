/-
  DERIVED. Seat b6614313a: the law where each client is limited.
-/
import Derived.Test.Qxb6614313aFacts
namespace Go.Proofs.Qxb6614313a
open Go.RowKit Go.Maps

set_option maxRecDepth 4000 in
set_option maxHeartbeats 8000000 in
theorem law_yes (a b now : Int) (hsh : Bool) (lt sh cl ov : ByteArray) (bnd r c p : Int) (io dO : Option Addr) (li ci ld cd : Nat) (ids dues : Nat → Int) (w : World) (hnow : -9223372036854775808 ≤ now ∧ now ≤ 9223372036854775807) (ha : (Lit.int .u64 a).wf = true) (hb : (Lit.int .u64 b).wf = true) (hI : Ints .u64 io li ids w) (hD : Ints .i64 dO ld dues w)
    (hwf : ∀ j, j < li → (Lit.int .u64 (ids j)).wf = true) (hdr : ∀ j, j < ld → -9223372036854775808 ≤ dues j ∧ dues j ≤ 9223372036854775807) :
    Calls Try.prog 4 #[.int .u64 a, .int .u64 b, .int .i64 now, .agg #[.bool hsh, .string lt, .string sh, .string cl, .string ov, .bool true, .int .i64 bnd, .int .i64 r, .int .i64 c, .int .i64 p], .slice io li ci, .slice dO ld cd] w fun e w' => e = .returned (.bool true) ∧ Below w.heap.size w w' := by
  have hIH : Hid (Ints .u64 io li ids w) := hI
  have hDH : Hid (Ints .i64 dO ld dues w) := hD
  have hwfH : Hid (∀ j, j < li → (Lit.int .u64 (ids j)).wf = true) := hwf
  have hdrH : Hid (∀ j, j < ld → -9223372036854775808 ≤ dues j ∧ dues j ≤ 9223372036854775807) := hdr
  have haH : Hid ((Lit.int .u64 a).wf = true) := ha
  have hbH : Hid ((Lit.int .u64 b).wf = true) := hb
  clear hI hD hwf hdr ha hb
  go_enter Try.func4, Try.ntmps4
  go_wp2_with fail
  refine (bytes_any _ _ _ _ _ _ _ _ _ _ _ _ _ _ _ _ _ _ _ _).mono ?_
  rintro e w1 ⟨⟨q, rfl⟩, hb1⟩
  have hT1 : w1.heap[w.heap.size]? = some (shapeObj hsh true lt sh cl ov bnd r c p) := (hb1.block w.heap.size (by simp)).trans (hp_new w _ _ rfl)
  have hB1 : Below w.heap.size w w1 := ((Below.refl _ w).alloc (Nat.le_refl _) _).trans (hb1.mono (show w.heap.size ≤ _ by simp))
  have hz1 := hB1.size
  clear hb1
  cases q
  · clear hT1
    go_wp2_with fail
    go_ret
    exact ⟨rfl, hB1⟩
  obtain ⟨q0, q1, q2, q3, q4, q5, q6, q7, q8, q9⟩ := shape_cells hT1
  go_wp2_with fail
  refine (big_any _ _ _ _ _ _ _ _ _ _ _ _ _ _ _ _ _).mono ?_
  rintro e w2 ⟨⟨q, rfl, hq⟩, hb2⟩
  have hT2 := (hb2.block w.heap.size (hp_lt hT1)).trans hT1
  have hB2 := hB1.trans (hb2.mono hz1)
  have hz2 := hB2.size
  clear hb2 hT1 q0 q1 q2 q3 q4 q5 q6 q7 q8 q9
  cases q
  case true =>
    clear hT2
    go_wp2_with fail
    go_ret
    exact ⟨rfl, hB2⟩
  obtain ⟨hli, hld⟩ := hq rfl
  clear hq
  obtain ⟨q0, q1, q2, q3, q4, q5, q6, q7, q8, q9⟩ := shape_cells hT2
  go_wp2_with fail
  refine (pair_any _ _ _ _ _ _ _).mono ?_
  rintro e w3 ⟨rfl, rfl⟩
  obtain ⟨n, hn⟩ : ∃ n, n = min li ld := ⟨_, rfl⟩
  rw [← hn]
  have hn1 : n ≤ li := by omega
  have hn3 : n ≤ ld := by omega
  have hn2 : n ≤ 4096 := by omega
  clear hn
  go_wp2_with fail
  refine (state_l now _ _ _ _ _ _ n ids dues _ hn1 hn3 hn2 (hIH.out.less hn1 hB2) (hDH.out.less hn3 hB2)).mono ?_
  rintro e w4 ⟨⟨q, rfl, hq⟩, hb4⟩
  have hT4 := (hb4.block w.heap.size (hp_lt hT2)).trans hT2
  have hB4 := hB2.trans (hb4.mono hz2)
  have hz4 := hB4.size
  clear hb4 hT2 q0 q1 q2 q3 q4 q5 q6 q7 q8 q9
  cases q
  · clear hT4
    go_wp2_with fail
    go_ret
    exact ⟨rfl, hB4⟩
  have hFine : Hid (Fine now ids dues n) := hq rfl
  clear hq
  have hI4 : Hid (Ints .u64 io n ids w4) := hIH.out.less hn1 hB4
  have hD4 : Hid (Ints .i64 dO n dues w4) := hDH.out.less hn3 hB4
  obtain ⟨q0, q1, q2, q3, q4, q5, q6, q7, q8, q9⟩ := shape_cells hT4
  obtain ⟨rm, hrm⟩ : ∃ x, Hid (x = decide ((n : Int) < bnd)) := ⟨_, rfl⟩
  obtain ⟨ia, hia⟩ : ∃ x, Hid (x = among a ids n) := ⟨_, rfl⟩
  obtain ⟨ib, hib⟩ : ∃ x, Hid (x = among b ids n) := ⟨_, rfl⟩
  have hnw : Hid (-9223372036854775808 ≤ now ∧ now ≤ 9223372036854775807) := hnow
  have heq := neq_same
  cases hsh
  all_goals
    go_wp2_with fail
    refine (kept_any _ _ _ _ n ids _ hn1 hn2 hI4.out).mono ?_
    rw [← hia.out]
    rintro e w5 ⟨rfl, rfl⟩
    go_wp2_with fail
    refine (kept_any _ _ _ _ n ids _ hn1 hn2 hI4.out).mono ?_
    rw [← hib.out]
    rintro e w6 ⟨rfl, rfl⟩
    go_wp2_with fail
    refine (build_yes _ _ _ _ _ _ _ _ _ _ _ _ _ _ _ n ids dues _ hn1 hn3 hn2 hI4.out hD4.out (fun j hj => hwfH.out j (by omega)) (fun j hj => hdrH.out j (by omega)) (fun i hi => (hFine.out i hi).2)).mono ?_
    rintro e w7 ⟨s, C, Z, M, O, R, shv, rfl, hMd, hS7, hb7⟩
    obtain ⟨K, dv, D, hM7⟩ := hMd.out
    have hT7 := (hb7.block w.heap.size (hp_lt hT4)).trans hT4
    have hB7 := hB4.trans (hb7.mono hz4)
    have hz7 := hB7.size
    clear hb7 hT4 q0 q1 q2 q3 q4 q5 q6 q7 q8 q9 hMd
    rw [← hrm.out]
    go_wp2_with fail
    refine (at_l now _ hnw.out).mono ?_
    rintro e w8 ⟨rfl, hb8⟩
    have hT8 := (hb8.block _ (hp_lt hT7)).trans hT7
    have hM8 := hM7.grown hb8
    have hB8 := hB7.trans (hb8.mono hz7)
    have hz8 := hB8.size
    clear hb8 hT7 hM7
    go_wp2_with fail
    have hbm := (Below.refl _ w8).alloc (Nat.le_refl _) (.cells #[.int .u64 (now % 1000000000), .int .i64 (now / 1000000000), .pointer none] 43)
    have hMm := hM8.grown hbm
    have hBm := hB8.trans (hbm.mono hz8)
    have hTm := (hbm.block _ (hp_lt hT8)).trans hT8
    have hzm := hBm.size
    have hf0 : Hid (0 < n → now < dues 0) := fun h => (hFine.out 0 h).1
    refine (draw_any haH.out hMm hS7 hf0.out).mono ?_
    rintro e w9 ⟨b1, fv1, g1, cap1, lim1, rfl, hg1, hgl1, hc1, hd1, hG1, hb9⟩
    have hTi := (hb9.block w8.heap.size (by simp)).trans (hp_new w8 _ _ rfl)
    have hT9 := (hb9.block _ (hp_lt hTm)).trans hTm
    have hM9 := hMm.grown hb9
    have hB9 := hBm.trans (hb9.mono hzm)
    have hz9 := hB9.size
    have hbl1 := got_lt hM9 hG1
    have t0 := hp_cell hTi 0
    have t1 := hp_cell hTi 1
    have t2 := hp_cell hTi 2
    simp at t0 t1 t2
    have hKlo : Hid (∀ j, j < n → K j < (w8.alloc (.cells #[.int .u64 (now % 1000000000), .int .i64 (now / 1000000000), .pointer none] 43)).heap.size) := fun j hj => hp_lt (hMm.2.2.2.2.2.2.2.2.2.2.2 j hj)
    have hOlo : O < (w8.alloc (.cells #[.int .u64 (now % 1000000000), .int .i64 (now / 1000000000), .pointer none] 43)).heap.size := hp_lt hMm.2.2.2.1
    clear hb9 hTm hMm hTi hM8 hT8 hbm
    go_wp2_with fail
    refine (draw_any hbH.out hM9 hS7 hf0.out).mono ?_
    rintro e w10 ⟨b2, fv2, g2, cap2, lim2, rfl, hg2, hgl2, hc2, hd2, hG2, hb10⟩
    have hT10 := (hb10.block _ (hp_lt hT9)).trans hT9
    have hM10 := hM9.grown hb10
    have hB10 := hB9.trans (hb10.mono hz9)
    have hz10 := hB10.size
    have hG1' := hG1.grown (Nat.le_refl _) hb10
    have k0 := (hb10.cell (p := ⟨g1, _, none⟩) hgl1).trans hc1
    have k1 := (hb10.cell (p := ⟨g1, _, none⟩) hgl1).trans hd1
    have hgl1' : g1 < w10.heap.size := Nat.lt_of_lt_of_le hgl1 hb10.size
    clear t0 t1 t2 hT9 hM9 hG1 hc1 hd1 hb10
    obtain ⟨q0, q1, q2, q3, q4, q5, q6, q7, q8, q9⟩ := shape_cells hT10
    simp only [Bool.toNat_false, Bool.toNat_true, Nat.mul_zero, Nat.mul_one, Nat.zero_add] at k0 k1 hc2 hd2
    go_wp2_with fail
    refine (drawOf_any (.pointer (some ⟨b1, 0, none⟩)) lim1 _).mono ?_
    rintro e w11 ⟨rfl, hb11⟩
    have hT11 := (hb11.block _ (hp_lt hT10)).trans hT10
    have hM11 := hM10.grown hb11
    have hB11 := hB10.trans (hb11.mono hz10)
    have hz11 := hB11.size
    have hG1x := hG1'.grown (Nat.le_refl _) hb11
    have hG2x := hG2.grown (Nat.le_refl _) hb11
    have j0 := (hb11.cell (p := ⟨g2, _, none⟩) hgl2).trans hc2
    have j1 := (hb11.cell (p := ⟨g2, _, none⟩) hgl2).trans hd2
    clear q0 q1 q2 q3 q4 q5 q6 q7 q8 q9 k0 k1 hc2 hd2 hT10 hM10 hG1' hG2 hb11
    go_wp2_with fail
    refine (drawOf_any (.pointer (some ⟨b2, 0, none⟩)) lim2 _).mono ?_
    rintro e w12 ⟨rfl, hb12⟩
    have hT12 := (hb12.block _ (hp_lt hT11)).trans hT11
    have hM12 := hM11.grown hb12
    have hB12 := hB11.trans (hb12.mono hz11)
    have hz12 := hB12.size
    have hG1y := hG1x.grown (Nat.le_refl _) hb12
    have hG2y := hG2x.grown (Nat.le_refl _) hb12
    clear j0 j1 hT11 hM11 hG1x hG2x hb12
    have heqS := got_share hM12 hFine.out hG1y hG2y hKlo.out hOlo hbl1
    have heqO := got_over hM12 hG1y hOlo
    rw [← hia.out, ← hib.out, ← hrm.out] at heqS
    rw [← hia.out, ← hrm.out] at heqO
    have c3 : w12.cell? ⟨s, 3, none⟩ = some (.pointer (some ⟨C, 0, none⟩)) := hp_cell hM12.1 3
    have c6 : w12.cell? ⟨C, 6, none⟩ = some (.pointer (some ⟨O, 0, none⟩)) := hp_cell hM12.2.2.2.2.1 6
    have F1 : Hid (∀ (hs' : Bool) (wx : World), Below w12.heap.size w12 wx → Calls Try.prog 21 #[fv1, .int .u64 a, .pointer (some ⟨b1, 0, none⟩), .bool (!ia && rm), .agg #[.bool hs', .string lt, .string sh, .string cl, .string ov, .bool true, .int .i64 bnd, .int .i64 r, .int .i64 c, .int .i64 p], .int .i64 now] wx fun e w' => e = .returned (.bool true) ∧ Below wx.heap.size wx w') := fun hs' wx hb => by
      rw [hia.out, hrm.out]
      exact fresh_got hnw.out (hG1y.grown (Nat.le_refl _) hb)
    have F2 : Hid (∀ (hs' : Bool) (wx : World), Below w12.heap.size w12 wx → Calls Try.prog 21 #[fv2, .int .u64 b, .pointer (some ⟨b2, 0, none⟩), .bool (!ib && rm), .agg #[.bool hs', .string lt, .string sh, .string cl, .string ov, .bool true, .int .i64 bnd, .int .i64 r, .int .i64 c, .int .i64 p], .int .i64 now] wx fun e w' => e = .returned (.bool true) ∧ Below wx.heap.size wx w') := fun hs' wx hb => by
      rw [hib.out, hrm.out]
      exact fresh_got hnw.out (hG2y.grown (Nat.le_refl _) hb)
    clear hM12 hG1y hG2y hia hib hrm hKlo hOlo hbl1 hI4 hD4 hS7 hf0 hFine
    obtain ⟨q0, q1, q2, q3, q4, q5, q6, q7, q8, q9⟩ := shape_cells hT12
    rcases (show (ia = true ∧ ib = true ∧ a = b) ∨ (ia = true ∧ ib = true ∧ ¬ a = b) ∨ (ia = true ∧ ib = false) ∨ (ia = false ∧ ib = true) ∨ (ia = false ∧ ib = false) by cases ia <;> cases ib <;> by_cases h : a = b <;> simp [h]) with ⟨rfl, rfl, rfl⟩ | ⟨rfl, rfl, hab⟩ | ⟨rfl, rfl⟩ | ⟨rfl, rfl⟩ | ⟨rfl, rfl⟩ <;> cases rm
    all_goals
      simp [share] at heqS heqO
      go_wp2_with fail
      refine (overflow_any s C (.pointer (some ⟨O, 0, none⟩)) _ c3 c6).mono ?_
      rintro e w13 ⟨rfl, rfl⟩
      go_wp2_with fail
      refine (F1.out _ _ (Below.refl _ _)).mono ?_
      rintro e w14 ⟨rfl, hb14⟩
      have hT14 := (hb14.block _ (hp_lt hT12)).trans hT12
      have hB14 := hB12.trans (hb14.mono hz12)
      have hz14 := hB14.size
      clear q0 q1 q2 q3 q4 q5 q6 q7 q8 q9 heqS heqO c3 c6
      obtain ⟨q0, q1, q2, q3, q4, q5, q6, q7, q8, q9⟩ := shape_cells hT14
      go_wp2_with fail
      refine (F2.out _ _ hb14).mono ?_
      rintro e w15 ⟨rfl, hb15⟩
      go_wp2_with fail
      go_ret
      exact ⟨rfl, hB14.trans (hb15.mono hz14)⟩

end Go.Proofs.Qxb6614313a
