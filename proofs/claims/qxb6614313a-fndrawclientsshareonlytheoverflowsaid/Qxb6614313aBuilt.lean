/-
  DERIVED. Seat b6614313a: buildDrawSection's walk.
-/
import Derived.Test.Qxb6614313aBuild
import Derived.Test.Qxb6614313aState
namespace Go.Proofs.Qxb6614313a
open Go.RowKit Go.Maps

/-- The shared bucket's pointer: there just if the shape says so. -/
def SharedIs (base : Nat) (hsh : Bool) (v : Value) (w : World) : Prop := (hsh = false ∧ v = .pointer none) ∨ (hsh = true ∧ ∃ k, base ≤ k ∧ k < w.heap.size ∧ v = .pointer (some ⟨k, 0, none⟩))

theorem SharedIs.grown {base : Nat} {hsh : Bool} {v : Value} {w w' : World} (h : SharedIs base hsh v w) (hs : w.heap.size ≤ w'.heap.size) : SharedIs base hsh v w' := by
  rcases h with h | ⟨h1, k, h2, h3, h4⟩
  · exact .inl h
  · exact .inr ⟨h1, k, h2, by omega, h4⟩

set_option maxHeartbeats 2000000 in
theorem build_yes (hsh : Bool) (lt sh cl ov : ByteArray) (bnd r c p : Int) (io dO : Option Addr) (li ci ld cd n : Nat) (ids dues : Nat → Int) (w : World) (hi : n ≤ li) (hd : n ≤ ld) (hN : n ≤ 4096) (hI : Ints .u64 io n ids w) (hD : Ints .i64 dO n dues w)
    (hwf : ∀ j, j < n → (Lit.int .u64 (ids j)).wf = true) (hdr : ∀ j, j < n → -9223372036854775808 ≤ dues j ∧ dues j ≤ 9223372036854775807) (hne : ∀ i, i < n → ∀ j, j < i → ids j ≠ ids i) :
    Calls Try.prog 15 #[.agg #[.bool hsh, .string lt, .string sh, .string cl, .string ov, .bool true, .int .i64 bnd, .int .i64 r, .int .i64 c, .int .i64 p], .slice io li ci, .slice dO ld cd, .int .i64 n] w fun e w' =>
      ∃ s C Z M O R shv, e = .returned (.pointer (some ⟨s, 0, none⟩)) ∧ Made w.heap.size s C Z M O R n shv lt sh cl ov bnd r c p ids dues w' ∧ SharedIs w.heap.size hsh shv w' ∧ Below w.heap.size w w' := by
  have hIH : Hid (Ints .u64 io n ids w) := hI
  have hDH : Hid (Ints .i64 dO n dues w) := hD
  have hneH : Hid (∀ i, i < n → ∀ j, j < i → ids j ≠ ids i) := hne
  have hwfH : Hid (∀ j, j < n → (Lit.int .u64 (ids j)).wf = true) := hwf
  have hdrH : Hid (∀ j, j < n → -9223372036854775808 ≤ dues j ∧ dues j ≤ 9223372036854775807) := hdr
  clear hI hD hne hwf hdr
  cases hsh
  all_goals
    go_enter Try.func15, Try.ntmps15
    go_wp2_with fail
    refine (newSection_l lt sh cl ov _).mono ?_
    rintro e w1 ⟨s, R, rfl, hs, hR0, hRs, hR, hS, hb1⟩
    have hB1 : Below w.heap.size w w1 := ((Below.refl _ w).alloc (Nat.le_refl _) _).trans (hb1.mono (by simp))
    have hq1 := (hb1.block w.heap.size (by simp)).trans (hp_new _ _ _ rfl)
    simp only [World.size_alloc] at hs hR0
    clear hb1
  · have q0 := hp_cell hq1 0
    simp at q0
    obtain ⟨w2, hw2⟩ : ∃ w2, w2 = w1 := ⟨_, rfl⟩
    obtain ⟨shv, hshv⟩ : ∃ v, v = Value.pointer none := ⟨_, rfl⟩
    have hS2 : w1.heap[s]? = some (.cells (secCells shv (.pointer none) R lt) 80) := by rw [hshv]; exact hS
    have hR2 := hR
    have hq2 := hq1
    have hB2 := hB1
    have hsh2 : SharedIs w.heap.size false shv w1 := .inl ⟨rfl, hshv⟩
    rw [← hw2] at hS2 hR2 hq2 hB2 hsh2 q0 ⊢
    clear hw2 hq1 hR hS hB1 hshv
    have hs2 := hp_lt hS2
    have q5 := hp_cell hq2 5
    have q6 := hp_cell hq2 6
    have q7 := hp_cell hq2 7
    have q8 := hp_cell hq2 8
    have q9 := hp_cell hq2 9
    simp at q5 q6 q7 q8 q9
    clear hq2
    go_wp2_with fail
    refine (giveClients_any s R bnd r c p _ _ (hp_cell hS2 3) (hp_frozen hS2 3) (hp_cell hS2 4) hs2).mono ?_
    rintro e w3 ⟨rfl, C, Z, M, O, hgv⟩
    have hM0 : Made w.heap.size s C Z M O R 0 shv lt sh cl ov bnd r c p ids dues w3 := made_start hR2 hRs hS2 hgv
    have hwz2 := hB2.size
    obtain ⟨gZ, gM, gO, gC, _, _, _, _, _, _, _, _, _, hbs, _⟩ := hgv
    have hB3 : Below w.heap.size w w3 := hB2.trans (hbs.mono (by omega))
    have hsh3 : SharedIs w.heap.size _ shv w3 := hsh2.grown hbs.size
    have gM' : w.heap.size ≤ M := by omega
    have gC' : w.heap.size ≤ C := by omega
    clear q5 q6 q7 q8 q9 hS2 hR2 hbs hB2 hs2 hsh2
    go_wp2_with fail
    go_loopw [10] (fun i wr => ∃ j : Nat, j ≤ n ∧ i = .int .i64 j ∧ Made w.heap.size s C Z M O R j shv lt sh cl ov bnd r c p ids dues wr ∧ Below w.heap.size w wr ∧ w3.heap.size ≤ wr.heap.size) (fun i _ => n - (intOf i).toNat)
    case atStart => exact ⟨0, by omega, rfl, hM0, hB3, Nat.le_refl _⟩
    case round =>
      obtain ⟨j, hj, rfl, hMd, hBr, hsz⟩ := hrel
      by_cases hlt : j < n
      · obtain ⟨b, o, rfl, hb, hc⟩ := hIH.out (by omega)
        obtain ⟨b', o', rfl, hb', hc'⟩ := hDH.out (by omega)
        have c1 := (hBr.cell (p := ⟨b, o + j, none⟩) hb).trans (hc j hlt)
        have c2 := (hBr.cell (p := ⟨b', o' + j, none⟩) hb').trans (hc' j hlt)
        have hji : j < li := by omega
        have hjd : j < ld := by omega
        clear hc hc'
        have hMH : Hid (Made w.heap.size s C Z M O R j shv lt sh cl ov bnd r c p ids dues wr) := hMd
        obtain ⟨K, dv, D, m1, m2, m3, m4, m5, m6, m7, m8, m9, m10, m11, m12⟩ := hMd
        go_wp2_with fail
        go_region_with (go_at_call 27; refine (keep_any w.heap.size s C Z M O R j bnd r c p (ids j) (dues j) dv _ D _ _ (hdrH.out j hlt) (hwfH.out j hlt) (by omega) (by exact m1) rfl (by exact m5) (by exact m3) (by exact m6) (by exact m8) gC' gM').mono ?_; rintro e w4 ⟨rfl, hkp⟩)
        all_goals
          go_wp2_with fail
          have hkb := hkp
          obtain ⟨_, _, _, _, _, _, _, _, hbk⟩ := hkb
          have hbk' : Below w.heap.size wr w4 := ⟨hbk.os, hbk.tape, hbk.output, hbk.size, hbk.block⟩
          go_roundw
          case rel => exact ⟨j + 1, by omega, by go_num, made_step (w := wr.drew) (hneH.out j hlt) m1 m2 m3 m4 m5 m6 m7 m8 m10 m11 m12 hkp, hBr.trans hbk', Nat.le_trans hsz hbk'.size⟩
          case measure => simp [intOf]; omega
      · go_wp2_with fail
        obtain rfl : j = n := by omega
        go_ret
        exact ⟨s, C, Z, M, O, R, shv, rfl, hMd, hsh3.grown hsz, hBr⟩
  · have q0 := hp_cell hq1 0
    have q7 := hp_cell hq1 7
    have q8 := hp_cell hq1 8
    have q9 := hp_cell hq1 9
    simp at q0 q7 q8 q9
    go_wp2_with fail
    refine (giveShared_l s R r c p (.pointer none) lt _ hS).mono ?_
    rintro e w2 ⟨rfl, k, hk1, hk2, hS2, hkp2, hbs2⟩
    have hwz1 := hB1.size
    obtain ⟨shv, hshv⟩ : ∃ v, v = Value.pointer (some ⟨k, 0, none⟩) := ⟨_, rfl⟩
    rw [← hshv] at hS2
    have hR2 := (hkp2 R (hp_lt hR) hRs).trans hR
    have hq2 := (hkp2 w.heap.size (hp_lt hq1) (by omega)).trans hq1
    have hB2 : Below w.heap.size w w2 := hB1.trans (hbs2.mono (by omega))
    have hsh2 : SharedIs w.heap.size true shv w2 := .inr ⟨rfl, k, by omega, hk2, hshv⟩
    clear hq1 hR hS hB1 hshv q0 q7 q8 q9 hkp2 hbs2 hk1 hk2
    have hs2 := hp_lt hS2
    have q5 := hp_cell hq2 5
    have q6 := hp_cell hq2 6
    have q7 := hp_cell hq2 7
    have q8 := hp_cell hq2 8
    have q9 := hp_cell hq2 9
    simp at q5 q6 q7 q8 q9
    clear hq2
    go_wp2_with fail
    refine (giveClients_any s R bnd r c p _ _ (hp_cell hS2 3) (hp_frozen hS2 3) (hp_cell hS2 4) hs2).mono ?_
    rintro e w3 ⟨rfl, C, Z, M, O, hgv⟩
    have hM0 : Made w.heap.size s C Z M O R 0 shv lt sh cl ov bnd r c p ids dues w3 := made_start hR2 hRs hS2 hgv
    have hwz2 := hB2.size
    obtain ⟨gZ, gM, gO, gC, _, _, _, _, _, _, _, _, _, hbs, _⟩ := hgv
    have hB3 : Below w.heap.size w w3 := hB2.trans (hbs.mono (by omega))
    have hsh3 : SharedIs w.heap.size _ shv w3 := hsh2.grown hbs.size
    have gM' : w.heap.size ≤ M := by omega
    have gC' : w.heap.size ≤ C := by omega
    clear q5 q6 q7 q8 q9 hS2 hR2 hbs hB2 hs2 hsh2
    go_wp2_with fail
    go_loopw [10] (fun i wr => ∃ j : Nat, j ≤ n ∧ i = .int .i64 j ∧ Made w.heap.size s C Z M O R j shv lt sh cl ov bnd r c p ids dues wr ∧ Below w.heap.size w wr ∧ w3.heap.size ≤ wr.heap.size) (fun i _ => n - (intOf i).toNat)
    case atStart => exact ⟨0, by omega, rfl, hM0, hB3, Nat.le_refl _⟩
    case round =>
      obtain ⟨j, hj, rfl, hMd, hBr, hsz⟩ := hrel
      by_cases hlt : j < n
      · obtain ⟨b, o, rfl, hb, hc⟩ := hIH.out (by omega)
        obtain ⟨b', o', rfl, hb', hc'⟩ := hDH.out (by omega)
        have c1 := (hBr.cell (p := ⟨b, o + j, none⟩) hb).trans (hc j hlt)
        have c2 := (hBr.cell (p := ⟨b', o' + j, none⟩) hb').trans (hc' j hlt)
        have hji : j < li := by omega
        have hjd : j < ld := by omega
        clear hc hc'
        have hMH : Hid (Made w.heap.size s C Z M O R j shv lt sh cl ov bnd r c p ids dues wr) := hMd
        obtain ⟨K, dv, D, m1, m2, m3, m4, m5, m6, m7, m8, m9, m10, m11, m12⟩ := hMd
        go_wp2_with fail
        go_region_with (go_at_call 27; refine (keep_any w.heap.size s C Z M O R j bnd r c p (ids j) (dues j) dv _ D _ _ (hdrH.out j hlt) (hwfH.out j hlt) (by omega) (by exact m1) rfl (by exact m5) (by exact m3) (by exact m6) (by exact m8) gC' gM').mono ?_; rintro e w4 ⟨rfl, hkp⟩)
        all_goals
          go_wp2_with fail
          have hkb := hkp
          obtain ⟨_, _, _, _, _, _, _, _, hbk⟩ := hkb
          have hbk' : Below w.heap.size wr w4 := ⟨hbk.os, hbk.tape, hbk.output, hbk.size, hbk.block⟩
          go_roundw
          case rel => exact ⟨j + 1, by omega, by go_num, made_step (w := wr.drew) (hneH.out j hlt) m1 m2 m3 m4 m5 m6 m7 m8 m10 m11 m12 hkp, hBr.trans hbk', Nat.le_trans hsz hbk'.size⟩
          case measure => simp [intOf]; omega
      · go_wp2_with fail
        obtain rfl : j = n := by omega
        go_ret
        exact ⟨s, C, Z, M, O, R, shv, rfl, hMd, hsh3.grown hsz, hBr⟩

end Go.Proofs.Qxb6614313a
