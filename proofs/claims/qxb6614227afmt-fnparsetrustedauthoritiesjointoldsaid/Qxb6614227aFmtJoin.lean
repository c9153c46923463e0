/-
  DERIVED. Seat b6614227aF: the law's own walk: it returns true.
-/
import Derived.Test.Qxb6614227aFmtParse
import Derived.Test.Qxb6614227aFmtList
namespace Go.Proofs.Qxb6614227aFmt
open Go.RowKit Go.Extern.Stop Go.Stop Go.Extern

theorem parse_laid (F : Interp) (hT : ∀ i : Int, 0 ≤ i → i ≤ 70000 → (FmtStop.textOf (F "fmt.Sprintf" (r3 i) 0)).size ≤ 1000) (g n : Nat) (zs : List Int) (w : World) (hF : F.answers w.tape) (hN : n ≤ 65535) (h : Laid g n zs w) :
    Calls Tryf.prog 21 #[.slice (some ⟨g, 0, none⟩) (2 + n) (2 + n)] w fun e w' => (∃ v, e = .returned v ∧ Viol w.heap.size w' (pj zs) v) ∧ Below w.heap.size w w' := by
  obtain ⟨h1, h2, h3, h4, h5, h6⟩ := h
  exact parse_any F hT g n zs ((n : Int) / 256) ((n : Int) % 256) w hF h2 hN (by omega) (by omega) (by omega) h1 h3 h4 h5 h6

set_option maxHeartbeats 400000 in
theorem zz_parse (F : Interp) (hT : ∀ i : Int, 0 ≤ i → i ≤ 70000 → (FmtStop.textOf (F "fmt.Sprintf" (r3 i) 0)).size ≤ 1000) (g n : Nat) (zs : List Int) (w : World) (hF : F.answers w.tape) (hN : n ≤ 65535) (h : Laid g n zs w) :
    Calls Tryf.prog 14 #[.slice (some ⟨g, 0, none⟩) (2 + n) (2 + n)] w fun e w' => (∃ v, e = .returned v ∧ Viol w.heap.size w' (pj zs) v) ∧ Below w.heap.size w w' := by
  go_enter Tryf.func14, Tryf.ntmps14
  go_wp2_with (go_at_call 21; refine (parse_laid F hT g n zs _ hF hN h).mono ?_; rintro e w1 ⟨⟨v, rfl, hv⟩, hb⟩)
  go_ret
  exact ⟨⟨_, rfl, hv⟩, hb⟩

theorem Viol.grown {base base' r : Nat} {w w' : World} {v : Value} (h : Viol base w r v) (hb : Below w.heap.size w w') (hB : base' ≤ base) : Viol base' w' r v := by
  rcases h with h | ⟨h0, k, h1, h2, h3, h4⟩
  · exact .inl h
  · exact .inr ⟨h0, k, by omega, Nat.lt_of_lt_of_le h2 hb.size, h3, (hb.cell (p := ⟨k, 0, none⟩) h2).trans h4⟩

theorem ruleText_eq : ∀ (r s : Fin 4), r ≠ 0 → s ≠ 0 → ((ruleText r.val).toList == (ruleText s.val).toList) = (r.val == s.val) := by decide +kernel

/-- zzSameRule tells whether two outcomes are one. -/
theorem same_viol (base r s : Nat) (x y : Value) (w : World) (hr : r ≤ 3) (hs : s ≤ 3) (hx : Viol base w r x) (hy : Viol base w s y) :
    Calls Tryf.prog 16 #[x, y] w fun e w' => e = .returned (.bool (r == s)) ∧ Below w.heap.size w w' := by
  rcases hx with ⟨rfl, rfl⟩ | ⟨h0, k, _, _, rfl, hk⟩
  · rcases hy with ⟨rfl, rfl⟩ | ⟨h1, l, _, _, rfl, hl⟩
    · refine (same_nil_nil w).mono ?_
      rintro e w' ⟨rfl, rfl⟩
      exact ⟨rfl, Below.refl _ _⟩
    · refine (same_nil_some _ w).mono ?_
      rintro e w' ⟨rfl, rfl⟩
      have : ((0 : Nat) == s) = false := by simp; omega
      exact ⟨by rw [this], Below.refl _ _⟩
  · rcases hy with ⟨rfl, rfl⟩ | ⟨h1, l, _, _, rfl, hl⟩
    · refine (same_some_nil _ w).mono ?_
      rintro e w' ⟨rfl, rfl⟩
      have : (r == (0 : Nat)) = false := by simp; omega
      exact ⟨by rw [this], Below.refl _ _⟩
    · refine (same_some_some k l _ _ w hk hl).mono ?_
      rintro e w' ⟨rfl, q, rfl⟩
      have := ruleText_eq ⟨r, by omega⟩ ⟨s, by omega⟩ (by intro h; apply h0; simpa using congrArg Fin.val h) (by intro h; apply h1; simpa using congrArg Fin.val h)
      exact ⟨by rw [this], ⟨rfl, rfl, rfl, Nat.le_refl _, fun _ _ => rfl⟩⟩

theorem same_true (base r s : Nat) (x y : Value) (w : World) (hr : r ≤ 3) (hs : s ≤ 3) (hx : Viol base w r x) (hy : Viol base w s y) (e : r = s) :
    Calls Tryf.prog 16 #[x, y] w fun e w' => e = .returned (.bool true) ∧ Below w.heap.size w w' := by
  refine (same_viol base r s x y w hr hs hx hy).mono ?_
  rintro e w' ⟨rfl, h⟩
  subst e
  exact ⟨by simp, h⟩

theorem pj_le3 (l : List Int) : pj l ≤ 3 := pj_le _ _

theorem viol_it {w : World} {r : Nat} {v : Value} (h : Viol 0 w r v) (e : r = 3) : ∃ k, k < w.heap.size ∧ v = .pointer (some ⟨k, 0, none⟩) ∧ w.cell? ⟨k, 0, none⟩ = some (.string ⟨#[116, 114, 117, 115, 116, 101, 100, 95, 99, 97, 95, 107, 101, 121, 115, 95, 105, 100, 101, 110, 116, 105, 102, 105, 101, 114, 95, 116, 121, 112, 101]⟩) := by
  subst e
  rcases h with ⟨h, _⟩ | ⟨_, k, _, h0, h1, h2⟩
  · omega
  · exact ⟨k, h0, h1, h2⟩
theorem viol_vb {w : World} {r : Nat} {v : Value} (h : Viol 0 w r v) (e : r = 2) : ∃ k, k < w.heap.size ∧ v = .pointer (some ⟨k, 0, none⟩) ∧ w.cell? ⟨k, 0, none⟩ = some (.string ⟨#[118, 101, 99, 116, 111, 114, 95, 98, 111, 117, 110, 100, 115]⟩) := by
  subst e
  rcases h with ⟨h, _⟩ | ⟨_, k, _, h0, h1, h2⟩
  · omega
  · exact ⟨k, h0, h1, h2⟩
theorem viol_lm {w : World} {r : Nat} {v : Value} (h : Viol 0 w r v) (e : r = 1) : ∃ k, k < w.heap.size ∧ v = .pointer (some ⟨k, 0, none⟩) ∧ w.cell? ⟨k, 0, none⟩ = some (.string ⟨#[108, 101, 110, 103, 116, 104, 95, 109, 105, 115, 109, 97, 116, 99, 104]⟩) := by
  subst e
  rcases h with ⟨h, _⟩ | ⟨_, k, _, h0, h1, h2⟩
  · omega
  · exact ⟨k, h0, h1, h2⟩

theorem src_nil (w : World) : Src none 0 0 [] w := ⟨rfl, fun _ => ⟨rfl, rfl⟩, fun _ h _ => (by cases h), fun _ h => (by cases h), fun _ h => (by cases h)⟩

set_option maxHeartbeats 400000 in
theorem join_long (ao bo : Option Addr) (la ca lb cb : Nat) (t : Int) (w : World) (hla : la ≤ maxLen) (hlb : lb ≤ maxLen) (h : 32767 < la ∨ 32767 < lb) :
    Calls Tryf.prog 5 #[.slice ao la ca, .slice bo lb cb, .int .u8 t] w fun e w' => e = .returned (.bool true) ∧ Below w.heap.size w w' := by
  go_enter Tryf.func5, Tryf.ntmps5
  go_wp2_with (go_at_call 13; refine (len_any ao bo la ca lb cb t _ hla hlb).mono ?_; rintro e w' ⟨⟨b, rfl⟩, rfl⟩)
  all_goals go_ret
  all_goals exact ⟨rfl, Below.refl _ _⟩

set_option maxHeartbeats 400000 in
theorem len_ok (ao bo : Option Addr) (la ca lb cb : Nat) (t : Int) (w : World) (ha : la ≤ 32767) (hb : lb ≤ 32767) :
    Calls Tryf.prog 13 #[.slice ao la ca, .slice bo lb cb, .int .u8 t] w fun e w' => e = .returned (.bool true) ∧ w' = w := by
  go_enter Tryf.func13, Tryf.ntmps13
  go_wp2
  go_ret
  exact ⟨rfl, rfl⟩

theorem list_a (ao : Option Addr) (la ca : Nat) (A : List Int) (w : World) (hla : la ≤ 32767) (ha : Src ao la ca A w) :
    Calls Tryf.prog 15 #[.slice ao la ca, .bool false, .int .u8 0, .slice none 0 0] w fun e w' => e = .returned (.slice (some ⟨w.heap.size, 0, none⟩) (2 + la) (2 + la)) ∧ Laid w.heap.size la A w' ∧ Below w.heap.size w w' := by
  refine (list_plain ao none la ca 0 0 A [] 0 w hla (by omega) ha (src_nil w)).mono ?_
  rintro e w' ⟨rfl, h1, h2⟩
  rw [List.append_nil] at h1
  exact ⟨rfl, h1, h2⟩

theorem list_b (bo : Option Addr) (lb cb : Nat) (B : List Int) (w : World) (hlb : lb ≤ 32767) (hb : Src bo lb cb B w) :
    Calls Tryf.prog 15 #[.slice none 0 0, .bool false, .int .u8 0, .slice bo lb cb] w fun e w' => e = .returned (.slice (some ⟨w.heap.size, 0, none⟩) (2 + lb) (2 + lb)) ∧ Laid w.heap.size lb B w' ∧ Below w.heap.size w w' := by
  refine (list_plain none bo 0 0 lb cb [] B 0 w (by omega) hlb (src_nil w) hb).mono ?_
  rintro e w' ⟨rfl, h1, h2⟩
  rw [Nat.zero_add, List.nil_append] at h1
  refine ⟨by rw [Nat.zero_add], h1, h2⟩

set_option maxHeartbeats 1000000 in
theorem join_short (F : Interp) (hT : ∀ i : Int, 0 ≤ i → i ≤ 70000 → (FmtStop.textOf (F "fmt.Sprintf" (r3 i) 0)).size ≤ 1000) (ao bo : Option Addr) (la ca lb cb : Nat) (A B : List Int) (t : Int) (w : World) (hF : F.answers w.tape)
    (hla : la ≤ 32767) (hlb : lb ≤ 32767) (ht : 0 ≤ t ∧ t ≤ 255) (ha : Src ao la ca A w) (hb : Src bo lb cb B w) :
    Calls Tryf.prog 5 #[.slice ao la ca, .slice bo lb cb, .int .u8 t] w fun e w' => e = .returned (.bool true) ∧ Below w.heap.size w w' := by
  go_enter Tryf.func5, Tryf.ntmps5
  go_wp2_with (go_at_call 13; refine (len_ok ao bo la ca lb cb t _ hla hlb).mono ?_; rintro e w ⟨rfl, rfl⟩)
  -- a alone
  refine (list_a ao la ca A _ hla ha).mono ?_
  rintro e w1 ⟨rfl, hl1, hb1⟩
  have hF1 : F.answers w1.tape := by rw [hb1.tape]; exact hF
  go_wp2_with fail
  refine (zz_parse F hT _ la A _ hF1 (by omega) hl1).mono ?_
  rintro e w2 ⟨⟨va, rfl, hva⟩, hb2⟩
  have hB2 := hb1.trans (hb2.mono hb1.size)
  have hF2 : F.answers w2.tape := by rw [hB2.tape]; exact hF
  -- b alone
  go_wp2_with fail
  refine (list_b bo lb cb B _ hlb (hb.grown hB2)).mono ?_
  rintro e w3 ⟨rfl, hl3, hb3⟩
  have hB3 := hB2.trans (hb3.mono hB2.size)
  have hF3 : F.answers w3.tape := by rw [hB3.tape]; exact hF
  go_wp2_with fail
  refine (zz_parse F hT _ lb B _ hF3 (by omega) hl3).mono ?_
  rintro e w4 ⟨⟨vb, rfl, hvb⟩, hb4⟩
  have hB4 := hB3.trans (hb4.mono hB3.size)
  have hF4 : F.answers w4.tape := by rw [hB4.tape]; exact hF
  -- both
  go_wp2_with fail
  refine (list_plain ao bo la ca lb cb A B 0 _ hla hlb (ha.grown hB4) (hb.grown hB4)).mono ?_
  rintro e w5 ⟨rfl, hl5, hb5⟩
  have hB5 := hB4.trans (hb5.mono hB4.size)
  have hF5 : F.answers w5.tape := by rw [hB5.tape]; exact hF
  go_wp2_with fail
  refine (zz_parse F hT _ (la + lb) (A ++ B) _ hF5 (by omega) hl5).mono ?_
  rintro e w6 ⟨⟨vab, rfl, hvab⟩, hb6⟩
  have hB6 := hB5.trans (hb6.mono hB5.size)
  have hF6 : F.answers w6.tape := by rw [hB6.tape]; exact hF
  -- both, t between
  go_wp2_with fail
  refine (list_mid ao bo la ca lb cb A B t _ hla hlb ht (ha.grown hB6) (hb.grown hB6)).mono ?_
  rintro e w7 ⟨rfl, hl7, hb7⟩
  have hB7 := hB6.trans (hb7.mono hB6.size)
  have hF7 : F.answers w7.tape := by rw [hB7.tape]; exact hF
  go_wp2_with fail
  refine (zz_parse F hT _ (la + lb + 1) (A ++ t :: B) _ hF7 (by omega) hl7).mono ?_
  rintro e w8 ⟨⟨vat, rfl, hvat⟩, hb8⟩
  have hB8 := hB7.trans (hb8.mono hB7.size)
  have ga : Viol 0 w8 (pj A) va := hva.grown (((((hb3.trans (hb4.mono hb3.size)).trans (hb5.mono (by have := hb3.size; have := hb4.size; omega))).trans (hb6.mono (by have := hb3.size; have := hb4.size; have := hb5.size; omega))).trans (hb7.mono (by have := hb3.size; have := hb4.size; have := hb5.size; have := hb6.size; omega))).trans (hb8.mono (by have := hb3.size; have := hb4.size; have := hb5.size; have := hb6.size; have := hb7.size; omega))) (Nat.zero_le _)
  have gb : Viol 0 w8 (pj B) vb := hvb.grown (((hb5.trans (hb6.mono hb5.size)).trans (hb7.mono (by have := hb5.size; have := hb6.size; omega))).trans (hb8.mono (by have := hb5.size; have := hb6.size; have := hb7.size; omega))) (Nat.zero_le _)
  have gab : Viol 0 w8 (pj (A ++ B)) vab := hvab.grown (hb7.trans (hb8.mono hb7.size)) (Nat.zero_le _)
  have gat : Viol 0 w8 (pj (A ++ t :: B)) vat := hvat.grown (Below.refl _ _) (Nat.zero_le _)
  clear hva hvb hvab hvat hl1 hl3 hl5 hl7 hF1 hF2 hF3 hF4 hF5 hF6 hF7 hb1 hb2 hb3 hb4 hb5 hb6 hb7 hb8 hB2 hB3 hB4 hB5 hB6 hB7 hT hF ha hb
  by_cases hA : pj A = 0
  · obtain ⟨_, rfl⟩ : pj A = 0 ∧ va = .pointer none := by
      rcases ga with h | ⟨h, _⟩
      · exact h
      · exact absurd hA h
    have eab : Hid (pj (A ++ B) = pj B) := join_ok hA
    have eat : Hid (pj (A ++ t :: B) = pj (t :: B)) := join_ok hA
    clear hA ga
    by_cases h3 : 3 < t
    · obtain ⟨k, hlt, rfl, hk⟩ := viol_it gat (by rw [eat.out, pj_cons, if_neg (by omega), if_neg (by omega), if_neg (by omega)])
      clear eat gat
      go_wp2_with (go_at_call 16; refine (same_true 0 _ _ _ _ _ (pj_le3 _) (pj_le3 _) gab gb eab.out).mono ?_; rintro e w9 ⟨rfl, hb9⟩; have hk9 := (hb9.cell (p := ⟨k, 0, none⟩) hlt).trans hk)
      go_ret
      exact ⟨rfl, hB8.trans (hb9.mono hB8.size)⟩
    · by_cases h0 : t = 0
      · subst h0
        have e0 : Hid (pj (A ++ 0 :: B) = pj B) := by
          show pj (A ++ 0 :: B) = pj B
          rw [eat.out, pj_cons, if_pos rfl]
        clear eat
        go_wp2_with fail
        refine (same_true 0 _ _ _ _ _ (pj_le3 _) (pj_le3 _) gab gb eab.out).mono ?_
        rintro e w9 ⟨rfl, hb9⟩
        go_wp2_with fail
        refine (same_true 0 _ _ _ _ _ (pj_le3 _) (pj_le3 _) (gat.grown hb9 (Nat.le_refl _)) (gb.grown hb9 (Nat.le_refl _)) e0.out).mono ?_
        rintro e w10 ⟨rfl, hb10⟩
        go_wp2
        go_ret
        exact ⟨rfl, (hB8.trans (hb9.mono hB8.size)).trans (hb10.mono (by have := hB8.size; have := hb9.size; omega))⟩
      · have h0' : (t == 0) = false := by simpa using h0
        clear eat
        go_wp2_with (go_at_call 16; refine (same_true 0 _ _ _ _ _ (pj_le3 _) (pj_le3 _) gab gb eab.out).mono ?_; rintro e w9 ⟨rfl, hb9⟩)
        go_ret
        exact ⟨rfl, hB8.trans (hb9.mono hB8.size)⟩
  · have hle := pj_le3 A
    by_cases hA1 : pj A = 1
    · obtain ⟨k, hlt, rfl, hk⟩ := viol_lm ga hA1
      clear hA hA1 ga
      go_wp2_with fail
      go_ret
      exact ⟨rfl, hB8⟩
    · have eab : Hid (pj (A ++ B) = pj A) := join_bad (by omega)
      have eat : Hid (pj (A ++ t :: B) = pj A) := join_bad (by omega)
      have h23 : pj A = 2 ∨ pj A = 3 := by omega
      rcases h23 with h2 | h2
      · obtain ⟨k, hlt, rfl, hk⟩ := viol_vb ga h2
        clear h2 hA hA1
        go_wp2_with fail
        refine (same_true 0 _ _ _ _ _ (pj_le3 _) (pj_le3 _) gab ga eab.out).mono ?_
        rintro e w9 ⟨rfl, hb9⟩
        go_wp2_with fail
        refine (same_true 0 _ _ _ _ _ (pj_le3 _) (pj_le3 _) (gat.grown hb9 (Nat.le_refl _)) (ga.grown hb9 (Nat.le_refl _)) eat.out).mono ?_
        rintro e w10 ⟨rfl, hb10⟩
        go_wp2
        go_ret
        exact ⟨rfl, (hB8.trans (hb9.mono hB8.size)).trans (hb10.mono (by have := hB8.size; have := hb9.size; omega))⟩
      · obtain ⟨k, hlt, rfl, hk⟩ := viol_it ga h2
        clear h2 hA hA1
        go_wp2_with fail
        refine (same_true 0 _ _ _ _ _ (pj_le3 _) (pj_le3 _) gab ga eab.out).mono ?_
        rintro e w9 ⟨rfl, hb9⟩
        go_wp2_with fail
        refine (same_true 0 _ _ _ _ _ (pj_le3 _) (pj_le3 _) (gat.grown hb9 (Nat.le_refl _)) (ga.grown hb9 (Nat.le_refl _)) eat.out).mono ?_
        rintro e w10 ⟨rfl, hb10⟩
        go_wp2
        go_ret
        exact ⟨rfl, (hB8.trans (hb9.mono hB8.size)).trans (hb10.mono (by have := hB8.size; have := hb9.size; omega))⟩

end Go.Proofs.Qxb6614227aFmt
