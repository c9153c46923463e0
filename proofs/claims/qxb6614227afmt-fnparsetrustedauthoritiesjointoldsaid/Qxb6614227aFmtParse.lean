/-
  DERIVED. Seat b6614227aF: parseTrustedAuthorities computes 'pj'.
-/
import Derived.Test.Qxb6614227aFmtHeld
import Derived.Deep.RegionWith
namespace Go.Proofs.Qxb6614227aFmt
open Go.RowKit Go.Extern.Stop Go.Stop Go.Extern

attribute [local go_sem] Tryf.call32 Tryf.guard Tryf.fmt1 Tryf.fmt1r Tryf.fmt2 Tryf.fmt2r Tryf.fmt3 Tryf.fmt3r Tryf.act3_100 Tryf.op3_100 Tryf.act5_100 Tryf.op5_100

/-- What Sprintf is asked where an entry is cut short. -/
def r3 (i : Int) : List (List UInt8) := [[116, 114, 117, 115, 116, 101, 100, 32, 97, 117, 116, 104, 111, 114, 105, 116, 121, 32, 37, 100], Tryf.shape3, digits 8 (i % 18446744073709551616).toNat]

def ruleText : Nat → ByteArray
  | 1 => lmText
  | 2 => vbText
  | _ => itText

/-- v is what a reading of outcome r hands back. -/
def Viol (base : Nat) (w : World) (r : Nat) (v : Value) : Prop :=
  (r = 0 ∧ v = .pointer none) ∨ (r ≠ 0 ∧ ∃ k, base ≤ k ∧ k < w.heap.size ∧ v = .pointer (some ⟨k, 0, none⟩) ∧ w.cell? ⟨k, 0, none⟩ = some (.string (ruleText r)))

theorem empty_pos (L : Nat) (ao : Option Addr) (m cp : Nat) (w : World) (hm : 0 < m) (hc : w.cell? ⟨L, 0, none⟩ = some (.slice ao m cp)) :
    Calls Tryf.prog 28 #[.pointer (some ⟨L, 0, none⟩)] w fun e w' => e = .returned (.bool false) ∧ w' = w := by
  refine (empty_any L ao m cp w hc).mono ?_
  rintro e w' ⟨rfl, rfl⟩
  have : ((m : Int) == 0) = false := by simp; omega
  exact ⟨by rw [this], rfl⟩

theorem empty_zero (L : Nat) (ao : Option Addr) (cp : Nat) (w : World) (hc : w.cell? ⟨L, 0, none⟩ = some (.slice ao 0 cp)) :
    Calls Tryf.prog 28 #[.pointer (some ⟨L, 0, none⟩)] w fun e w' => e = .returned (.bool true) ∧ w' = w := by
  refine (empty_any L ao 0 cp w hc).mono ?_
  rintro e w' ⟨rfl, rfl⟩
  exact ⟨rfl, rfl⟩

theorem empty_eq (L : Nat) (ao : Option Addr) (m cp : Nat) (w : World) (hm : m = 0) (hc : w.cell? ⟨L, 0, none⟩ = some (.slice ao m cp)) :
    Calls Tryf.prog 28 #[.pointer (some ⟨L, 0, none⟩)] w fun e w' => e = .returned (.bool true) ∧ w' = w := by
  subst hm
  exact empty_zero L ao cp w hc

/-- The new violation. -/
theorem viol_new {base k r : Nat} {w : World} (hr : r ≠ 0) (h1 : base ≤ k) (h2 : k < w.heap.size) (hc : w.cell? ⟨k, 0, none⟩ = some (.string (ruleText r))) : Viol base w r (.pointer (some ⟨k, 0, none⟩)) :=
  .inr ⟨hr, k, h1, h2, rfl, hc⟩

set_option maxHeartbeats 400000 in
theorem parse_any (F : Interp) (hT : ∀ i : Int, 0 ≤ i → i ≤ 70000 → (FmtStop.textOf (F "fmt.Sprintf" (r3 i) 0)).size ≤ 1000) (bd n : Nat) (xs : List Int) (hi lo : Int) (w : World) (hF : F.answers w.tape)
    (hn : xs.length = n) (hN : n ≤ 65535) (h0 : 0 ≤ hi ∧ hi ≤ 255) (h1 : 0 ≤ lo ∧ lo ≤ 255) (hhl : hi * 256 + lo = n) (hbd : bd < w.heap.size)
    (hc0 : w.cell? ⟨bd, 0, none⟩ = some (.int .u8 hi)) (hc1 : w.cell? ⟨bd, 1, none⟩ = some (.int .u8 lo)) (hcs : ∀ t, t < n → w.cell? ⟨bd, 2 + t, none⟩ = some (.int .u8 (xs.getD t 0))) (hxs : ∀ y ∈ xs, 0 ≤ y ∧ y ≤ 255) :
    Calls Tryf.prog 21 #[.slice (some ⟨bd, 0, none⟩) (2 + n) (2 + n)] w fun e w' => (∃ v, e = .returned v ∧ Viol w.heap.size w' (pj xs) v) ∧ Below w.heap.size w w' := by
  have hF' := answers_open hF
  have hH : Hid (hi * 256 + lo = n) := hhl
  have hcH : Hid (∀ t, t < n → w.cell? ⟨bd, 2 + t, none⟩ = some (.int .u8 (xs.getD t 0))) := hcs
  have hnH : Hid (xs.length = n) := hn
  clear hhl hcs hn
  go_enter Tryf.func21, Tryf.ntmps21
  go_wp2_with (first
    | (go_at_call 30; refine (vec_ok w.heap.size bd 0 (2 + n) n hi lo _ h0 h1 hH.out (by omega) (by omega) (by go_simp) (by go_simp) (by go_simp) (by go_simp)).mono ?_; rintro e w' ⟨rfl, rfl⟩)
    | (go_at_call 27; refine (end_ok _ _ _ _).mono ?_; rintro e w' ⟨rfl, rfl⟩))
  go_loopw [7] (fun i wr => ∃ (j o : Nat) (ys : List Int), i = .int .i64 j ∧ j + ys.length ≤ n ∧ Held bd (w.heap.size + 1) o ys wr ∧ pj ys = pj xs ∧ Below w.heap.size w wr ∧ w.heap.size + 1 < wr.heap.size) (fun i _ => n - (intOf i).toNat)
  case atStart =>
    have hb0 : Below w.heap.size w ((((w.alloc (.cells #[.slice (some ⟨bd, curAfter 0 (2 + n) (2 + n), none⟩) 0 0] 51)).alloc (.cells #[.slice (some ⟨bd, curAfter 0 (2 + n) 2, none⟩) n n] 51)).alloc (.cells #[.slice (some ⟨bd, curAfter 0 (2 + n) (2 + n), none⟩) 0 0] 51)).drew) := ((((Below.refl _ w).alloc (Nat.le_refl _) _).alloc (by simp) _).alloc (by simp; omega) _).drew
    refine ⟨0, curAfter 0 (2 + n) 2, xs, rfl, ?_, ⟨?_, ?_, ?_, hxs⟩, rfl, hb0, ?_⟩
    · have := hnH.out; omega
    · rw [hnH.out]; go_simp
    · go_simp
    · intro t ht
      rw [hnH.out] at ht
      have e : curAfter 0 (2 + n) 2 = 2 := by unfold curAfter; rw [if_neg (by omega)]
      refine (hb0.cell (p := ⟨bd, curAfter 0 (2 + n) 2 + t, none⟩) hbd).trans ?_
      rw [e]
      exact hcH.out t ht
    · simp
  case round =>
    obtain ⟨j, o, ys, rfl, hjl, hh, hpj, hbel, hsz⟩ := hrel
    have hpH : Hid (pj ys = pj xs) := hpj
    clear hpj hcH hc0 hc1 hH
    have hne : bd ≠ w.heap.size + 1 := by omega
    cases ys with
    | nil =>
      go_wp2_with (go_at_call 28; refine (empty_zero _ _ 0 _ (by exact hh.1)).mono ?_; rintro e w' ⟨rfl, rfl⟩)
      go_ret
      exact ⟨⟨_, rfl, .inl ⟨by rw [← hpH.out]; rfl, rfl⟩⟩, hbel⟩
    | cons t r =>
      simp only [List.length_cons] at hjl
      by_cases h0 : t = 0
      · subst h0
        go_wp2_with (first
          | (go_at_call 28; refine (empty_pos _ _ (r.length + 1) (r.length + 1) _ (by omega) (by exact hh.1)).mono ?_; rintro e w' ⟨rfl, rfl⟩)
          | (go_at_call 24; refine (uint8_held _ bd o 0 r _ hne (by exact hh)).mono ?_; rintro e w1 ⟨rfl, ⟨o1, hh1⟩, hon1⟩))
        go_roundw
        case rel => exact ⟨j + 1, o1, r, by go_num, by omega, hh1, by rw [← hpH.out, pj_cons, if_pos rfl], hbel.trans (hon1.1 _ (by omega)), by have := hon1.2.1; omega⟩
        case measure => simp [intOf]; omega
      · have h0' : (t == 0) = false := by simpa using h0
        by_cases h1 : t = 1 ∨ t = 3
        · by_cases h2 : r.length < 20
          · have hpv : pj xs = 1 := by rw [← hpH.out, pj_cons, if_neg h0, if_pos h1, if_pos h2]
            have hpV : Hid (pj xs = 1) := hpv
            clear hpv
            have hFr := answers_open (F := F) (tape := wr.tape) (by rw [hbel.tape]; exact hF)
            rcases h1 with rfl | rfl
            all_goals
              go_wp2_with (first
                | (go_at_call 28; refine (empty_pos _ _ (r.length + 1) (r.length + 1) _ (by omega) (by exact hh.1)).mono ?_; rintro e w' ⟨rfl, rfl⟩)
                | (go_at_call 24; refine (uint8_held _ bd o _ r _ hne (by exact hh)).mono ?_; rintro e w1 ⟨rfl, ⟨o1, hh1⟩, hon1⟩; have hF1 := answers_open (F := F) (tape := w1.tape) (by rw [(hon1.1 0 (Nat.zero_le _)).tape]; exact hFr))
                | (go_at_call 31; refine (bytes_no_held _ bd o1 r _ h2 (by exact hh1)).mono ?_; rintro e w' ⟨rfl, rfl⟩))
              apply rows_value Tryf.nextTurns
              case hr =>
                go_simp
                exact ⟨rfl, rfl⟩
              case h =>
                go_wp2_with (go_at_call 25; refine (cut_any _ _ (by exact hT (j : Int) (by omega) (by omega))).mono ?_; rintro e w' ⟨rfl, t', u', rfl⟩)
                go_ret
                have hs1 := hon1.2.1
                refine ⟨⟨_, rfl, ?_⟩, ?_⟩
                · rw [hpV.out]
                  exact viol_new (by decide) (by omega) (by simp) (by go_simp; rfl)
                · exact (((hbel.trans (hon1.1 _ (by omega))).alloc (by omega) _).alloc (by simp; omega) _).drew
          · have hpv : pj (r.drop 20) = pj xs := by rw [← hpH.out, pj_cons, if_neg h0, if_pos h1, if_neg h2]
            have hpV : Hid (pj (r.drop 20) = pj xs) := hpv
            clear hpv
            have hFr := answers_open (F := F) (tape := wr.tape) (by rw [hbel.tape]; exact hF)
            rcases h1 with rfl | rfl
            all_goals
              go_wp2_with (first
                | (go_at_call 28; refine (empty_pos _ _ (r.length + 1) (r.length + 1) _ (by omega) (by exact hh.1)).mono ?_; rintro e w' ⟨rfl, rfl⟩)
                | (go_at_call 24; refine (uint8_held _ bd o _ r _ hne (by exact hh)).mono ?_; rintro e w1 ⟨rfl, ⟨o1, hh1⟩, hon1⟩; have hF1 := answers_open (F := F) (tape := w1.tape) (by rw [(hon1.1 0 (Nat.zero_le _)).tape]; exact hFr))
                | (go_at_call 31; refine (bytes_ok_held _ bd o1 r _ (by omega) hne (by exact hh1)).mono ?_; rintro e w2 ⟨rfl, ⟨o2, hh2⟩, hon2⟩))
              go_roundw
              case rel => exact ⟨j + 1, o2, r.drop 20, by go_num, by simp; omega, hh2, hpV.out, (hbel.trans (hon1.1 _ (by omega))).trans (hon2.1 _ (by omega)), by have := hon1.2.1; have := hon2.2.1; omega⟩
              case measure => simp [intOf]; omega
        · have h1' : (t == 1) = false := by simp; omega
          have h3' : (t == 3) = false := by simp; omega
          by_cases h2 : t = 2
          · subst h2
            have hFr := answers_open (F := F) (tape := wr.tape) (by rw [hbel.tape]; exact hF)
            by_cases h4 : r.length < 2 ∨ r.length < 2 + len2 r
            · have hpv : pj xs = 1 := by
                rw [← hpH.out, pj_cons, if_neg (by decide), if_neg (by decide), if_pos rfl]
                by_cases h5 : r.length < 2
                · rw [if_pos h5]
                · rw [if_neg h5, if_pos (by omega)]
              have hpV : Hid (pj xs = 1) := hpv
              clear hpv
              go_wp2_with (first
                | (go_at_call 28; refine (empty_pos _ _ (r.length + 1) (r.length + 1) _ (by omega) (by exact hh.1)).mono ?_; rintro e w' ⟨rfl, rfl⟩)
                | (go_at_call 24; refine (uint8_held _ bd o _ r _ hne (by exact hh)).mono ?_; rintro e w1 ⟨rfl, ⟨o1, hh1⟩, hon1⟩; have hF1 := answers_open (F := F) (tape := w1.tape) (by rw [(hon1.1 0 (Nat.zero_le _)).tape]; exact hFr))
                | (go_at_call 30; refine (vec_no_held _ bd o1 r _ (by omega) h4 (by exact hh1.alloc (by have := hon1.2.1; omega) (by have := hon1.2.1; omega) _)).mono ?_; rintro e w2 ⟨rfl, hon2⟩; have hF2 := answers_open (F := F) (tape := w2.tape) (by rw [(hon2.1 0 (Nat.zero_le _)).tape]; exact hF1); obtain ⟨hnc, hnf, hns⟩ := name_facts (by have := hon1.2.1; omega) hon2))
              apply rows_value Tryf.nextTurns
              case hr =>
                go_simp
                exact ⟨rfl, rfl⟩
              case h =>
                go_wp2_with (go_at_call 25; refine (cut_any _ _ (by exact hT (j : Int) (by omega) (by omega))).mono ?_; rintro e w' ⟨rfl, t', u', rfl⟩)
                go_ret
                have hs1 := hon1.2.1
                refine ⟨⟨_, rfl, ?_⟩, ?_⟩
                · rw [hpV.out]
                  exact viol_new (by decide) (by omega) (by simp) (by go_simp; rfl)
                · exact ((((((hbel.trans (hon1.1 _ (by omega))).alloc (by omega) _).trans (hon2.1 _ (by omega))).setCell (by simp; omega) _).alloc (by simp; omega) _).alloc (by simp; omega) _).drew
            · obtain ⟨h5, h6⟩ : 2 ≤ r.length ∧ 2 + len2 r ≤ r.length := by omega
              by_cases h7 : len2 r = 0
              · have hpv : pj xs = 2 := by
                  rw [← hpH.out, pj_cons, if_neg (by decide), if_neg (by decide), if_pos rfl, if_neg (by omega), if_neg (by omega), if_pos h7]
                have hpV : Hid (pj xs = 2) := hpv
                have h7H : Hid (len2 r = 0) := h7
                clear hpv h7
                go_wp2_with (first
                  | (go_at_call 28; refine (empty_pos _ _ (r.length + 1) (r.length + 1) _ (by omega) (by exact hh.1)).mono ?_; rintro e w' ⟨rfl, rfl⟩)
                  | (go_at_call 24; refine (uint8_held _ bd o _ r _ hne (by exact hh)).mono ?_; rintro e w1 ⟨rfl, ⟨o1, hh1⟩, hon1⟩; have hF1 := answers_open (F := F) (tape := w1.tape) (by rw [(hon1.1 0 (Nat.zero_le _)).tape]; exact hFr)))
                refine (vec_ok_held _ bd o1 r _ (by omega) h5 h6 hne (by exact hh1.alloc (by have := hon1.2.1; omega) (by have := hon1.2.1; omega) _)).mono ?_
                rintro e w2 ⟨⟨o3, rfl⟩, ⟨o2, hh2⟩, hon2⟩
                have hF2 := answers_open (F := F) (tape := w2.tape) (by rw [(hon2.1 0 (Nat.zero_le _)).tape]; exact hF1)
                obtain ⟨hnc, hnf, hns⟩ := name_facts (by have := hon1.2.1; omega) hon2
                go_wp2_with (first
                  | (go_at_call 28; refine (empty_eq _ (some ⟨bd, o3, none⟩) (len2 r) (len2 r) _ h7H.out (by go_simp)).mono ?_; rintro e w' ⟨rfl, rfl⟩)
                  | (go_at_call 29; refine (bounds_any F _ (j : Int) _ (by exact hF2) (by go_simp)).mono ?_; rintro e w' ⟨rfl, t', u', rfl⟩))
                go_ret
                have hs1 := hon1.2.1
                refine ⟨⟨_, rfl, ?_⟩, ?_⟩
                · rw [hpV.out]
                  exact viol_new (by decide) (by omega) (by simp) (by go_simp; rfl)
                · exact ((((((hbel.trans (hon1.1 _ (by omega))).alloc (by omega) _).trans (hon2.1 _ (by omega))).setCell (by simp; omega) _).alloc (by simp; omega) _).alloc (by simp; omega) _).drew
              · have hpv : pj (r.drop (2 + len2 r)) = pj xs := by
                  rw [← hpH.out, pj_cons, if_neg (by decide), if_neg (by decide), if_pos rfl, if_neg (by omega), if_neg (by omega), if_neg h7]
                have hpV : Hid (pj (r.drop (2 + len2 r)) = pj xs) := hpv
                clear hpv
                go_wp2_with (first
                  | (go_at_call 28; refine (empty_pos _ _ (r.length + 1) (r.length + 1) _ (by omega) (by exact hh.1)).mono ?_; rintro e w' ⟨rfl, rfl⟩)
                  | (go_at_call 24; refine (uint8_held _ bd o _ r _ hne (by exact hh)).mono ?_; rintro e w1 ⟨rfl, ⟨o1, hh1⟩, hon1⟩; have hF1 := answers_open (F := F) (tape := w1.tape) (by rw [(hon1.1 0 (Nat.zero_le _)).tape]; exact hFr)))
                refine (vec_ok_held _ bd o1 r _ (by omega) h5 h6 hne (by exact hh1.alloc (by have := hon1.2.1; omega) (by have := hon1.2.1; omega) _)).mono ?_
                rintro e w2 ⟨⟨o3, rfl⟩, ⟨o2, hh2⟩, hon2⟩
                obtain ⟨hnc, hnf, hns⟩ := name_facts (by have := hon1.2.1; omega) hon2
                go_wp2_with (first
                  | (go_at_call 28; refine (empty_pos _ (some ⟨bd, o3, none⟩) (len2 r) (len2 r) _ (by omega) (by go_simp)).mono ?_; rintro e w' ⟨rfl, rfl⟩))
                go_roundw
                case rel =>
                  have hs1 := hon1.2.1
                  exact ⟨j + 1, o2, r.drop (2 + len2 r), by go_num, by simp; omega, hh2.set (by omega) (by omega) _, hpV.out, (((hbel.trans (hon1.1 _ (by omega))).alloc (by omega) _).trans (hon2.1 _ (by omega))).setCell (by simp; omega) _, by simp; omega⟩
                case measure => simp [intOf]; omega
          · have h2' : (t == 2) = false := by simpa using h2
            have hpv : pj xs = 3 := by rw [← hpH.out, pj_cons, if_neg h0, if_neg h1, if_neg h2]
            have hpV : Hid (pj xs = 3) := hpv
            clear hpv
            have hFr := answers_open (F := F) (tape := wr.tape) (by rw [hbel.tape]; exact hF)
            go_wp2_with (first
              | (go_at_call 28; refine (empty_pos _ _ (r.length + 1) (r.length + 1) _ (by omega) (by exact hh.1)).mono ?_; rintro e w' ⟨rfl, rfl⟩)
              | (go_at_call 24; refine (uint8_held _ bd o _ r _ hne (by exact hh)).mono ?_; rintro e w1 ⟨rfl, ⟨o1, hh1⟩, hon1⟩; have hF1 := answers_open (F := F) (tape := w1.tape) (by rw [(hon1.1 0 (Nat.zero_le _)).tape]; exact hFr)))
            apply rows_value Tryf.nextTurns
            case hr =>
              go_simp
              exact ⟨rfl, rfl⟩
            case h =>
              go_wp2
              go_ret
              have hs1 := hon1.2.1
              refine ⟨⟨_, rfl, ?_⟩, ?_⟩
              · rw [hpV.out]
                exact viol_new (by decide) (by omega) (by simp) (by go_simp; rfl)
              · exact (((hbel.trans (hon1.1 _ (by omega))).alloc (by omega) _).alloc (by simp; omega) _).drew

end Go.Proofs.Qxb6614227aFmt
