/-
  DERIVED. Seat b6614463a: past, and the two laws' walks.
-/
import Derived.Test.Qxb6614463aRows
import Derived.WalkKit
import Derived.WalkSpells
import Derived.WalkLawsBesides
import Derived.Laws.BitsAllLaws
namespace Go.Proofs.Qxb6614463a
open Go.RowKit

theorem ret_bool {b c : Bool} (h : b = c) : Ending.returned (.bool b) = .returned (.bool c) := by rw [h]

theorem wrap_in (x : Int) (h0 : 0 ≤ x) (h1 : x < 18446744073709551616) : IntKind.u64.wrap x = x := by
  rw [IntKind.wrap_u64]
  omega

theorem half (m : Int) (h0 : 0 ≤ m) (h1 : m < 18446744073709551616) : IntKind.u64.wrap (m.tdiv 2) = m / 2 := by
  rw [Int.tdiv_eq_ediv_of_nonneg h0]
  exact wrap_in _ (by omega) (by omega)

set_option maxHeartbeats 400000 in
theorem past_yes (m l : Int) (w : World) (hm : 0 ≤ m) (hM : m < 18446744073709551616) (h : m < 2 * l) :
    Calls Try.prog 6 #[.int .u64 m, .int .u64 l] w fun e w' => e = .returned (.bool true) ∧ w' = w := by
  have hh : Hid (IntKind.u64.wrap (m.tdiv 2) = m / 2) := half m hm hM
  clear hM
  go_enter Try.func6, Try.ntmps6
  go_wp2
  go_ret
  refine ⟨ret_bool ?_, rfl⟩
  simp only [hh.out]
  simp
  omega

set_option maxHeartbeats 400000 in
theorem past_no (m l : Int) (w : World) (hm : 0 ≤ m) (hM : m < 18446744073709551616) (h : 2 * l ≤ m) :
    Calls Try.prog 6 #[.int .u64 m, .int .u64 l] w fun e w' => e = .returned (.bool false) ∧ w' = w := by
  have hh : Hid (IntKind.u64.wrap (m.tdiv 2) = m / 2) := half m hm hM
  clear hM
  go_enter Try.func6, Try.ntmps6
  go_wp2
  go_ret
  refine ⟨ret_bool ?_, rfl⟩
  simp only [hh.out]
  simp
  omega

set_option maxHeartbeats 400000 in
theorem zz_yes (m l : Int) (w : World) (hm : 0 ≤ m) (hM : m < 18446744073709551616) (h : m < 2 * l) :
    Calls Try.prog 5 #[.int .u64 m, .int .u64 l] w fun e w' => e = .returned (.bool true) ∧ w' = w := by
  go_enter Try.func5, Try.ntmps5
  go_wp2_with (go_at_call 6; refine (past_yes m l _ hm hM h).mono ?_; rintro e w ⟨rfl, rfl⟩)
  go_ret
  exact ⟨rfl, rfl⟩

set_option maxHeartbeats 400000 in
theorem zz_no (m l : Int) (w : World) (hm : 0 ≤ m) (hM : m < 18446744073709551616) (h : 2 * l ≤ m) :
    Calls Try.prog 5 #[.int .u64 m, .int .u64 l] w fun e w' => e = .returned (.bool false) ∧ w' = w := by
  go_enter Try.func5, Try.ntmps5
  go_wp2_with (go_at_call 6; refine (past_no m l _ hm hM h).mono ?_; rintro e w ⟨rfl, rfl⟩)
  go_ret
  exact ⟨rfl, rfl⟩

theorem bounds (x : Int) (h : (Lit.int .u64 x).wf = true) : 0 ≤ x ∧ x < 18446744073709551616 := by
  simp [Lit.wf, IntKind.min, IntKind.max, IntKind.signed, IntKind.bits] at h
  omega

set_option maxHeartbeats 400000 in
theorem splits (m l : Int) (w : World) (hm : 0 ≤ m ∧ m < 18446744073709551616) (hl : 0 ≤ l ∧ l < 18446744073709551616) :
    Calls Try.prog 3 #[.int .u64 m, .int .u64 l] w fun e w' => e = .returned (.bool true) ∧ w' = w := by
  obtain ⟨hm0, hm1⟩ := hm
  obtain ⟨hl0, hl1⟩ := hl
  by_cases h : m < l
  · go_enter Try.func3, Try.ntmps3
    go_wp2_with fail
    refine (zz_yes m l _ hm0 hm1 (by omega)).mono ?_
    rintro e w ⟨rfl, rfl⟩
    go_wp2
    go_ret
    exact ⟨rfl, rfl⟩
  · have hsub := wrap_in (m - l) (by omega) (by omega)
    rcases Int.lt_trichotomy m (2 * l) with h3 | h3 | h3
    · have hne : (l == m - l) = false := by simp; omega
      go_enter Try.func3, Try.ntmps3
      go_wp2_with fail
      refine (zz_yes m l _ hm0 hm1 (by omega)).mono ?_
      rintro e w ⟨rfl, rfl⟩
      go_wp2_with fail
      refine (zz_no m (m - l) _ hm0 hm1 (by omega)).mono ?_
      rintro e w ⟨rfl, rfl⟩
      go_wp2
      go_ret
      exact ⟨rfl, rfl⟩
    · have hne : (l == m - l) = true := by simp; omega
      have h3' : Hid (m = 2 * l) := h3
      clear h3
      go_enter Try.func3, Try.ntmps3
      go_wp2_with fail
      refine (zz_no m l _ hm0 hm1 (by have := h3'.out; omega)).mono ?_
      rintro e w ⟨rfl, rfl⟩
      go_wp2_with fail
      refine (zz_no m (m - l) _ hm0 hm1 (by have := h3'.out; omega)).mono ?_
      rintro e w ⟨rfl, rfl⟩
      go_wp2
      go_ret
      exact ⟨rfl, rfl⟩
    · have hne : (l == m - l) = false := by simp; omega
      go_enter Try.func3, Try.ntmps3
      go_wp2_with fail
      refine (zz_no m l _ hm0 hm1 (by omega)).mono ?_
      rintro e w ⟨rfl, rfl⟩
      go_wp2_with fail
      refine (zz_yes m (m - l) _ hm0 hm1 (by omega)).mono ?_
      rintro e w ⟨rfl, rfl⟩
      go_wp2
      go_ret
      exact ⟨rfl, rfl⟩

set_option maxHeartbeats 400000 in
theorem scales_great (m l : Int) (w : World) (h : 9223372036854775808 ≤ m ∨ 9223372036854775808 ≤ l) :
    Calls Try.prog 4 #[.int .u64 m, .int .u64 l] w fun e w' => e = .returned (.bool true) ∧ w' = w := by
  by_cases h1 : 9223372036854775808 ≤ m
  · go_enter Try.func4, Try.ntmps4
    go_wp2_with fail
    go_ret
    exact ⟨rfl, rfl⟩
  · have h2 : 9223372036854775808 ≤ l := by omega
    go_enter Try.func4, Try.ntmps4
    go_wp2_with fail
    go_ret
    exact ⟨rfl, rfl⟩

set_option maxHeartbeats 400000 in
theorem scales (m l : Int) (w : World) (hm : 0 ≤ m ∧ m < 9223372036854775808) (hl : 0 ≤ l ∧ l < 9223372036854775808) :
    Calls Try.prog 4 #[.int .u64 m, .int .u64 l] w fun e w' => e = .returned (.bool true) ∧ w' = w := by
  obtain ⟨hm0, hm1⟩ := hm
  obtain ⟨hl0, hl1⟩ := hl
  have e1 := wrap_in (2 * m) (by omega) (by omega)
  have e2 := wrap_in (2 * l) (by omega) (by omega)
  have e3 := wrap_in (2 * m + 1) (by omega) (by omega)
  have e4 := wrap_in (2 * l + 1) (by omega) (by omega)
  by_cases hp : m < 2 * l
  · by_cases ho : m < l
    · go_enter Try.func4, Try.ntmps4
      go_wp2_with fail
      refine (zz_yes (m) (l) _ (by omega) (by omega) (by omega)).mono ?_
      rintro e w ⟨rfl, rfl⟩
      go_wp2_with fail
      refine (zz_yes (2 * m) (2 * l) _ (by omega) (by omega) (by omega)).mono ?_
      rintro e w ⟨rfl, rfl⟩
      go_wp2_with fail
      refine (zz_yes (2 * m + 1) (2 * l) _ (by omega) (by omega) (by omega)).mono ?_
      rintro e w ⟨rfl, rfl⟩
      go_wp2_with fail
      refine (zz_yes (2 * m + 1) (2 * l + 1) _ (by omega) (by omega) (by omega)).mono ?_
      rintro e w ⟨rfl, rfl⟩
      go_wp2
      go_ret
      exact ⟨rfl, rfl⟩
    · have e5 := wrap_in (2 * m + 1 - (2 * l + 1)) (by omega) (by omega)
      go_enter Try.func4, Try.ntmps4
      go_wp2_with fail
      refine (zz_yes (m) (l) _ (by omega) (by omega) (by omega)).mono ?_
      rintro e w ⟨rfl, rfl⟩
      go_wp2_with fail
      refine (zz_yes (2 * m) (2 * l) _ (by omega) (by omega) (by omega)).mono ?_
      rintro e w ⟨rfl, rfl⟩
      go_wp2_with fail
      refine (zz_yes (2 * m + 1) (2 * l) _ (by omega) (by omega) (by omega)).mono ?_
      rintro e w ⟨rfl, rfl⟩
      go_wp2_with fail
      refine (zz_yes (2 * m + 1) (2 * l + 1) _ (by omega) (by omega) (by omega)).mono ?_
      rintro e w ⟨rfl, rfl⟩
      go_wp2_with fail
      refine (zz_no (2 * m + 1) (2 * m + 1 - (2 * l + 1)) _ (by omega) (by omega) (by omega)).mono ?_
      rintro e w ⟨rfl, rfl⟩
      go_wp2
      go_ret
      exact ⟨rfl, rfl⟩
  · have e5 := wrap_in (2 * m + 1 - (2 * l + 1)) (by omega) (by omega)
    by_cases hq : m ≤ 2 * l
    · go_enter Try.func4, Try.ntmps4
      go_wp2_with fail
      refine (zz_no (m) (l) _ (by omega) (by omega) (by omega)).mono ?_
      rintro e w ⟨rfl, rfl⟩
      go_wp2_with fail
      refine (zz_no (2 * m) (2 * l) _ (by omega) (by omega) (by omega)).mono ?_
      rintro e w ⟨rfl, rfl⟩
      go_wp2_with fail
      refine (zz_no (2 * m + 1) (2 * l) _ (by omega) (by omega) (by omega)).mono ?_
      rintro e w ⟨rfl, rfl⟩
      go_wp2_with fail
      refine (zz_yes (2 * m + 1) (2 * l + 1) _ (by omega) (by omega) (by omega)).mono ?_
      rintro e w ⟨rfl, rfl⟩
      go_wp2_with fail
      refine (zz_no (2 * m + 1) (2 * m + 1 - (2 * l + 1)) _ (by omega) (by omega) (by omega)).mono ?_
      rintro e w ⟨rfl, rfl⟩
      go_wp2
      go_ret
      exact ⟨rfl, rfl⟩
    · go_enter Try.func4, Try.ntmps4
      go_wp2_with fail
      refine (zz_no (m) (l) _ (by omega) (by omega) (by omega)).mono ?_
      rintro e w ⟨rfl, rfl⟩
      go_wp2_with fail
      refine (zz_no (2 * m) (2 * l) _ (by omega) (by omega) (by omega)).mono ?_
      rintro e w ⟨rfl, rfl⟩
      go_wp2_with fail
      refine (zz_no (2 * m + 1) (2 * l) _ (by omega) (by omega) (by omega)).mono ?_
      rintro e w ⟨rfl, rfl⟩
      go_wp2_with fail
      refine (zz_no (2 * m + 1) (2 * l + 1) _ (by omega) (by omega) (by omega)).mono ?_
      rintro e w ⟨rfl, rfl⟩
      go_wp2_with fail
      refine (zz_yes (2 * m + 1) (2 * m + 1 - (2 * l + 1)) _ (by omega) (by omega) (by omega)).mono ?_
      rintro e w ⟨rfl, rfl⟩
      go_wp2
      go_ret
      exact ⟨rfl, rfl⟩

end Go.Proofs.Qxb6614463a
