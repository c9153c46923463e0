/-
  DERIVED. Seat b6614313a: package time's functions at the moments that this law makes (no monotonic reading, no location).
-/
import Derived.Test.Qxb6614313aRows
import Derived.WalkKit
import Derived.WalkSpells
import Derived.WalkLawsBesides
import Derived.Laws.BitsAllLaws
namespace Go.Proofs.Qxb6614313a
open Go.RowKit

theorem and_mono (x : Int) (h0 : 0 ≤ x) (h1 : x < 1073741824) : bits BinOp.and IntKind.u64 x 9223372036854775808 = 0 := by
  obtain ⟨n, rfl⟩ := Int.eq_ofNat_of_zero_le h0
  have hn : n < 1073741824 := by omega
  have e := u64_and_nat n 9223372036854775808 (by omega) (by omega)
  have e2 : n &&& 9223372036854775808 = 0 := by
    have := nat_bit 63 n
    simp only [show (2 : Nat) ^ 63 = 9223372036854775808 from by decide] at this
    rw [this, Nat.div_eq_of_lt (by omega)]
  rw [e2] at e
  exact e

theorem and_nsec (x : Int) (h0 : 0 ≤ x) (h1 : x < 1073741824) : bits BinOp.and IntKind.u64 x 1073741823 = x := by
  obtain ⟨n, rfl⟩ := Int.eq_ofNat_of_zero_le h0
  have hn : n < 1073741824 := by omega
  have e := u64_and_nat n 1073741823 (by omega) (by omega)
  have e2 : n &&& 1073741823 = n := by
    have := Nat.and_two_pow_sub_one_eq_mod n 30
    simp only [show (2 : Nat) ^ 30 - 1 = 1073741823 from by decide, show (2 : Nat) ^ 30 = 1073741824 from by decide] at this
    rw [this, Nat.mod_eq_of_lt hn]
  rw [e2] at e
  exact e

theorem i32_small (x : Int) (h0 : -1073741824 < x) (h1 : x < 1073741824) : IntKind.i32.wrap x = x := by
  simp only [IntKind.wrap, IntKind.bits, IntKind.signed]
  simp
  omega

set_option maxHeartbeats 400000 in
theorem nsec_any (b o : Nat) (x : Int) (w : World) (h0 : 0 ≤ x) (h1 : x < 1073741824) (hc : w.cell? ⟨b, o, none⟩ = some (.int .u64 x)) :
    Calls Try.prog 34 #[.pointer (some ⟨b, o, none⟩)] w fun e w' => e = .returned (.int .i32 x) ∧ w' = w := by
  have ha := and_nsec x h0 h1
  have hw := i32_small x (by omega) h1
  go_enter Try.func34, Try.ntmps34
  go_wp2
  go_ret
  exact ⟨rfl, rfl⟩

set_option maxHeartbeats 400000 in
theorem sec_any (b o : Nat) (x s : Int) (w : World) (h0 : 0 ≤ x) (h1 : x < 1073741824) (hc : w.cell? ⟨b, o, none⟩ = some (.int .u64 x)) (hs : w.cell? ⟨b, o + 1, none⟩ = some (.int .i64 s)) :
    Calls Try.prog 33 #[.pointer (some ⟨b, o, none⟩)] w fun e w' => e = .returned (.int .i64 s) ∧ w' = w := by
  have ha := and_mono x h0 h1
  go_enter Try.func33, Try.ntmps33
  go_wp2
  go_ret
  exact ⟨rfl, rfl⟩

set_option maxHeartbeats 400000 in
theorem addSec_any (b : Nat) (x d : Int) (w : World) (h0 : 0 ≤ x) (h1 : x < 1073741824) (hd : -10000000000 < d ∧ d < 10000000000) (hc : w.cell? ⟨b, 0, none⟩ = some (.int .u64 x)) (hs : w.cell? ⟨b, 1, none⟩ = some (.int .i64 0)) (hf : w.frozen? ⟨b, 1, none⟩ = false) :
    Calls Try.prog 36 #[.pointer (some ⟨b, 0, none⟩), .int .i64 d] w fun e w' => e = .returned (.tuple #[]) ∧ w' = w.setCell ⟨b, 1, none⟩ (.int .i64 d) := by
  have ha := and_mono x h0 h1
  go_enter Try.func36, Try.ntmps36
  go_wp2
  go_end0
  exact ⟨rfl, rfl⟩

theorem andNot_zero : bits BinOp.andNot IntKind.u64 0 1073741823 = 0 := by
  have e := u64_andNot_nat 0 1073741823 (by omega) (by omega)
  rw [Nat.zero_and] at e
  exact e

theorem or_zero (x : Int) (h0 : 0 ≤ x) (h1 : x < 1073741824) : bits BinOp.or IntKind.u64 0 x = x := by
  obtain ⟨n, rfl⟩ := Int.eq_ofNat_of_zero_le h0
  have e := u64_or_nat 0 n (by omega) (by omega)
  rw [Nat.zero_or] at e
  exact e

/-- A moment's three cells. -/
def timeObj (N S : Int) : Obj := .cells #[.int .u64 N, .int .i64 S, .pointer none] 43

set_option maxHeartbeats 1000000 in
theorem add_pos (d S N : Int) (w : World) (hS : d.tdiv 1000000000 = S) (hN : d.tmod 1000000000 = N) (h0 : 0 ≤ N) (h1 : N < 1000000000) (h2 : -10000000000 < S ∧ S < 10000000000) :
    Calls Try.prog 28 #[.agg #[.int .u64 0, .int .i64 0, .pointer none], .int .i64 d] w fun e w' => e = .returned (.agg #[.int .u64 N, .int .i64 S, .pointer none]) ∧ w' = (w.alloc (timeObj N S)).alloc (timeObj N S) := by
  have han := andNot_zero
  have hor := or_zero N h0 (by omega)
  have ha := and_mono N h0 (by omega)
  go_enter Try.func28, Try.ntmps28
  go_wp2_with (first
    | (go_at_call 34; refine (nsec_any _ 0 0 _ (by omega) (by omega) (by go_simp)).mono ?_; rintro e w' ⟨rfl, rfl⟩)
    | (go_at_call 36; refine (addSec_any _ N S _ (by omega) (by omega) h2 (by go_simp) (by go_simp) (by go_simp)).mono ?_; rintro e w' ⟨rfl, rfl⟩))
  exact bodyPost_ret (v := .agg #[.int .u64 N, .int .i64 S, .pointer none]) (by simp [results, Try.results28, go_sem]) rfl ⟨rfl, rfl⟩

set_option maxHeartbeats 1000000 in
theorem add_neg (d S N : Int) (w : World) (hS : d.tdiv 1000000000 = S) (hN : d.tmod 1000000000 = N) (h0 : N < 0) (h1 : -1000000000 < N) (h2 : -9999999999 < S ∧ S < 10000000000) :
    Calls Try.prog 28 #[.agg #[.int .u64 0, .int .i64 0, .pointer none], .int .i64 d] w fun e w' => e = .returned (.agg #[.int .u64 (N + 1000000000), .int .i64 (S - 1), .pointer none]) ∧ w' = (w.alloc (timeObj (N + 1000000000) (S - 1))).alloc (timeObj (N + 1000000000) (S - 1)) := by
  have han := andNot_zero
  have hor := or_zero (N + 1000000000) (by omega) (by omega)
  have ha := and_mono (N + 1000000000) (by omega) (by omega)
  go_enter Try.func28, Try.ntmps28
  go_wp2_with (first
    | (go_at_call 34; refine (nsec_any _ 0 0 _ (by omega) (by omega) (by go_simp)).mono ?_; rintro e w' ⟨rfl, rfl⟩)
    | (go_at_call 36; refine (addSec_any _ (N + 1000000000) (S - 1) _ (by omega) (by omega) (by omega) (by go_simp) (by go_simp) (by go_simp)).mono ?_; rintro e w' ⟨rfl, rfl⟩))
  exact bodyPost_ret (v := .agg #[.int .u64 (N + 1000000000), .int .i64 (S - 1), .pointer none]) (by simp [results, Try.results28, go_sem]) rfl ⟨rfl, rfl⟩

theorem trunc_parts (d : Int) : d = d.tdiv 1000000000 * 1000000000 + d.tmod 1000000000 ∧ (0 ≤ d → 0 ≤ d.tmod 1000000000) ∧ (d ≤ 0 → d.tmod 1000000000 ≤ 0) ∧ -1000000000 < d.tmod 1000000000 ∧ d.tmod 1000000000 < 1000000000 := by
  by_cases h : 0 ≤ d
  · rw [Int.tdiv_eq_ediv_of_nonneg h, Int.tmod_eq_emod_of_nonneg h]
    omega
  · obtain ⟨e, rfl⟩ : ∃ e : Int, d = -e := ⟨-d, by omega⟩
    have he : 0 ≤ e := by omega
    rw [Int.neg_tdiv, Int.neg_tmod, Int.tdiv_eq_ediv_of_nonneg he, Int.tmod_eq_emod_of_nonneg he]
    omega

theorem add_any (d : Int) (w : World) (h : -9223372036854775808 ≤ d ∧ d ≤ 9223372036854775807) :
    Calls Try.prog 28 #[.agg #[.int .u64 0, .int .i64 0, .pointer none], .int .i64 d] w fun e w' => e = .returned (.agg #[.int .u64 (d % 1000000000), .int .i64 (d / 1000000000), .pointer none]) ∧ w' = (w.alloc (timeObj (d % 1000000000) (d / 1000000000))).alloc (timeObj (d % 1000000000) (d / 1000000000)) := by
  obtain ⟨t1, t2, t3, t4, t5⟩ := trunc_parts d
  by_cases hN : 0 ≤ d.tmod 1000000000
  · have e1 : d.tmod 1000000000 = d % 1000000000 := by omega
    have e2 : d.tdiv 1000000000 = d / 1000000000 := by omega
    exact add_pos d _ _ w e2 e1 (by omega) (by omega) (by omega)
  · have e1 : d % 1000000000 = d.tmod 1000000000 + 1000000000 := by omega
    have e2 : d / 1000000000 = d.tdiv 1000000000 - 1 := by omega
    rw [e1, e2]
    exact add_neg d _ _ w rfl rfl (by omega) (by omega) (by omega)

set_option maxHeartbeats 400000 in
theorem at_any (d : Int) (w : World) (h : -9223372036854775808 ≤ d ∧ d ≤ 9223372036854775807) :
    Calls Try.prog 16 #[.int .i64 d] w fun e w' => e = .returned (.agg #[.int .u64 (d % 1000000000), .int .i64 (d / 1000000000), .pointer none]) ∧ w' = ((w.alloc (timeObj (d % 1000000000) (d / 1000000000))).alloc (timeObj (d % 1000000000) (d / 1000000000))).alloc (timeObj (d % 1000000000) (d / 1000000000)) := by
  go_enter Try.func16, Try.ntmps16
  go_wp2_with (go_at_call 28; refine (add_any d _ h).mono ?_; rintro e w' ⟨rfl, rfl⟩)
  exact bodyPost_ret (v := .agg #[.int .u64 (d % 1000000000), .int .i64 (d / 1000000000), .pointer none]) (by simp [results, Try.results16, go_sem]) rfl ⟨rfl, rfl⟩

theorem and_two (x y : Int) (h0 : 0 ≤ x) (h1 : x < 1073741824) (h2 : 0 ≤ y) (h3 : y < 1073741824) : bits BinOp.and IntKind.u64 (bits BinOp.and IntKind.u64 x y) 9223372036854775808 = 0 := by
  obtain ⟨n, rfl⟩ := Int.eq_ofNat_of_zero_le h0
  obtain ⟨m, rfl⟩ := Int.eq_ofNat_of_zero_le h2
  rw [u64_and_nat n m (by omega) (by omega)]
  have hle : n &&& m ≤ n := Nat.and_le_left
  exact and_mono _ (by omega) (by omega)

set_option maxHeartbeats 1000000 in
theorem after_sec (N S N' S' : Int) (w : World) (h0 : 0 ≤ N ∧ N < 1000000000) (h1 : 0 ≤ N' ∧ N' < 1000000000) (h : S' < S) :
    Calls Try.prog 40 #[.agg #[.int .u64 N, .int .i64 S, .pointer none], .agg #[.int .u64 N', .int .i64 S', .pointer none]] w fun e w' => e = .returned (.bool true) ∧ w' = (w.alloc (timeObj N S)).alloc (timeObj N' S') := by
  have h2 := and_two N N' (by omega) (by omega) (by omega) (by omega)
  go_enter Try.func40, Try.ntmps40
  go_wp2_with fail
  refine (sec_any _ 0 N S _ (by omega) (by omega) (by go_simp) (by go_simp)).mono ?_
  rintro e w1 ⟨rfl, rfl⟩
  go_wp2_with fail
  refine (sec_any _ 0 N' S' _ (by omega) (by omega) (by go_simp) (by go_simp)).mono ?_
  rintro e w2 ⟨rfl, rfl⟩
  go_wp2_with fail
  go_ret
  exact ⟨rfl, rfl⟩

set_option maxHeartbeats 1000000 in
theorem after_nsec (N S N' : Int) (w : World) (h0 : 0 ≤ N ∧ N < 1000000000) (h1 : 0 ≤ N' ∧ N' < 1000000000) (h : N' < N) :
    Calls Try.prog 40 #[.agg #[.int .u64 N, .int .i64 S, .pointer none], .agg #[.int .u64 N', .int .i64 S, .pointer none]] w fun e w' => e = .returned (.bool true) ∧ w' = (w.alloc (timeObj N S)).alloc (timeObj N' S) := by
  have h2 := and_two N N' (by omega) (by omega) (by omega) (by omega)
  go_enter Try.func40, Try.ntmps40
  go_wp2_with fail
  refine (sec_any _ 0 N S _ (by omega) (by omega) (by go_simp) (by go_simp)).mono ?_
  rintro e w1 ⟨rfl, rfl⟩
  go_wp2_with fail
  refine (sec_any _ 0 N' S _ (by omega) (by omega) (by go_simp) (by go_simp)).mono ?_
  rintro e w2 ⟨rfl, rfl⟩
  go_wp2_with fail
  refine (nsec_any _ 0 N _ (by omega) (by omega) (by go_simp)).mono ?_
  rintro e w3 ⟨rfl, rfl⟩
  go_wp2_with fail
  refine (nsec_any _ 0 N' _ (by omega) (by omega) (by go_simp)).mono ?_
  rintro e w4 ⟨rfl, rfl⟩
  go_wp2_with fail
  go_ret
  exact ⟨by simp, rfl⟩

/-- A later moment is after an earlier one. -/
theorem after_yes (a b : Int) (w : World) (h : b < a) :
    Calls Try.prog 40 #[.agg #[.int .u64 (a % 1000000000), .int .i64 (a / 1000000000), .pointer none], .agg #[.int .u64 (b % 1000000000), .int .i64 (b / 1000000000), .pointer none]] w fun e w' => e = .returned (.bool true) ∧ w' = (w.alloc (timeObj (a % 1000000000) (a / 1000000000))).alloc (timeObj (b % 1000000000) (b / 1000000000)) := by
  by_cases hs : b / 1000000000 < a / 1000000000
  · exact after_sec _ _ _ _ w (by omega) (by omega) hs
  · have e : b / 1000000000 = a / 1000000000 := by omega
    rw [e]
    exact after_nsec _ _ _ w (by omega) (by omega) (by omega)

end Go.Proofs.Qxb6614313a
