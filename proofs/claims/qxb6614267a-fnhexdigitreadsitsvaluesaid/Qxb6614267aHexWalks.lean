/-
  DERIVED. Seat b6614267a: the digits of base sixteen: what each function on the road computes.
-/
import Derived.Test.Qxb6614267aRows
import Derived.WalkKit
import Derived.WalkSpells
import Derived.WalkLawsBesides
import Derived.Laws.BitsAllLaws
namespace Go.Proofs.Qxb6614267a
open Go.RowKit

/-- b is a digit of base sixteen, and d its value. -/
def Dig (b d : Int) : Prop := (48 ≤ b ∧ b ≤ 57 ∧ d = b - 48) ∨ (97 ≤ b ∧ b ≤ 102 ∧ d = b - 87) ∨ (65 ≤ b ∧ b ≤ 70 ∧ d = b - 55)
def NoDig (b : Int) : Prop := b < 48 ∨ (57 < b ∧ b < 65) ∨ (70 < b ∧ b < 97) ∨ 102 < b

theorem dig_or (b : Int) : (∃ d, Dig b d) ∨ NoDig b := by
  unfold Dig NoDig
  by_cases h1 : 48 ≤ b ∧ b ≤ 57
  · exact .inl ⟨b - 48, .inl ⟨h1.1, h1.2, rfl⟩⟩
  · by_cases h2 : 97 ≤ b ∧ b ≤ 102
    · exact .inl ⟨b - 87, .inr (.inl ⟨h2.1, h2.2, rfl⟩)⟩
    · by_cases h3 : 65 ≤ b ∧ b ≤ 70
      · exact .inl ⟨b - 55, .inr (.inr ⟨h3.1, h3.2, rfl⟩)⟩
      · exact .inr (by omega)

theorem ret_bool {b c : Bool} (h : b = c) : Ending.returned (.bool b) = .returned (.bool c) := by rw [h]

set_option maxHeartbeats 400000 in
theorem isDigit_yes (b : Int) (w : World) (h1 : 48 ≤ b) (h2 : b ≤ 57) :
    Calls Try.prog 21 #[.int .u8 b] w fun e w' => e = .returned (.bool true) ∧ w' = w := by
  go_enter Try.func21, Try.ntmps21
  go_wp2
  all_goals go_ret
  all_goals refine ⟨ret_bool ?_, rfl⟩
  all_goals (first | rfl | (simp; omega) | (exfalso; omega))

set_option maxHeartbeats 400000 in
theorem isDigit_no (b : Int) (w : World) (h : b < 48 ∨ 57 < b) :
    Calls Try.prog 21 #[.int .u8 b] w fun e w' => e = .returned (.bool false) ∧ w' = w := by
  go_enter Try.func21, Try.ntmps21
  go_wp2
  all_goals go_ret
  all_goals refine ⟨ret_bool ?_, rfl⟩
  all_goals (first | rfl | (simp; omega) | (exfalso; omega))

set_option maxHeartbeats 400000 in
theorem isHex_yes (b d : Int) (w : World) (h : Dig b d) :
    Calls Try.prog 16 #[.int .u8 b] w fun e w' => e = .returned (.bool true) ∧ w' = w := by
  rcases h with ⟨h1, h2, _⟩ | ⟨h1, h2, _⟩ | ⟨h1, h2, _⟩
  · go_enter Try.func16, Try.ntmps16
    go_wp2_with (go_at_call 21; refine (isDigit_yes b _ h1 h2).mono ?_; rintro e w' ⟨rfl, rfl⟩)
    all_goals go_ret
    all_goals refine ⟨ret_bool ?_, rfl⟩
    all_goals (first | rfl | (simp; omega) | (exfalso; omega))
  · go_enter Try.func16, Try.ntmps16
    go_wp2_with (go_at_call 21; refine (isDigit_no b _ (by omega)).mono ?_; rintro e w' ⟨rfl, rfl⟩)
    all_goals go_ret
    all_goals refine ⟨ret_bool ?_, rfl⟩
    all_goals (first | rfl | (simp; omega) | (exfalso; omega))
  · go_enter Try.func16, Try.ntmps16
    go_wp2_with (go_at_call 21; refine (isDigit_no b _ (by omega)).mono ?_; rintro e w' ⟨rfl, rfl⟩)
    all_goals go_ret
    all_goals refine ⟨ret_bool ?_, rfl⟩
    all_goals (first | rfl | (simp; omega) | (exfalso; omega))

set_option maxHeartbeats 400000 in
theorem isHex_no (b : Int) (w : World) (h : NoDig b) :
    Calls Try.prog 16 #[.int .u8 b] w fun e w' => e = .returned (.bool false) ∧ w' = w := by
  unfold NoDig at h
  go_enter Try.func16, Try.ntmps16
  go_wp2_with (go_at_call 21; refine (isDigit_no b _ (by omega)).mono ?_; rintro e w' ⟨rfl, rfl⟩)
  all_goals go_ret
  all_goals refine ⟨ret_bool ?_, rfl⟩
  all_goals (first | rfl | (simp; omega) | (exfalso; omega))

set_option maxHeartbeats 400000 in
theorem zzIsHex_yes (b d : Int) (w : World) (h : Dig b d) :
    Calls Try.prog 7 #[.int .u8 b] w fun e w' => e = .returned (.bool true) ∧ w' = w := by
  go_enter Try.func7, Try.ntmps7
  go_wp2_with (go_at_call 16; refine (isHex_yes b d _ h).mono ?_; rintro e w' ⟨rfl, rfl⟩)
  go_ret
  exact ⟨rfl, rfl⟩

set_option maxHeartbeats 400000 in
theorem zzIsHex_no (b : Int) (w : World) (h : NoDig b) :
    Calls Try.prog 7 #[.int .u8 b] w fun e w' => e = .returned (.bool false) ∧ w' = w := by
  go_enter Try.func7, Try.ntmps7
  go_wp2_with (go_at_call 16; refine (isHex_no b _ h).mono ?_; rintro e w' ⟨rfl, rfl⟩)
  go_ret
  exact ⟨rfl, rfl⟩

theorem below17 (k : Nat) (h : k ≤ 16) : k = 0 ∨ k = 1 ∨ k = 2 ∨ k = 3 ∨ k = 4 ∨ k = 5 ∨ k = 6 ∨ k = 7 ∨ k = 8 ∨ k = 9 ∨ k = 10 ∨ k = 11 ∨ k = 12 ∨ k = 13 ∨ k = 14 ∨ k = 15 ∨ k = 16 := by omega

theorem low_at (k : Nat) (h : k < 16) : ∃ L : Int, (∀ h', (((⟨#[48, 49, 50, 51, 52, 53, 54, 55, 56, 57, 97, 98, 99, 100, 101, 102]⟩ : ByteArray)[k]'h').toNat : Int) = L) ∧ ((k < 10 ∧ L = 48 + k) ∨ (10 ≤ k ∧ L = 87 + k)) := by
  refine ⟨if k < 10 then 48 + (k : Int) else 87 + k, fun h' => ?_, by split <;> omega⟩
  rcases below17 k (by omega) with rfl | rfl | rfl | rfl | rfl | rfl | rfl | rfl | rfl | rfl | rfl | rfl | rfl | rfl | rfl | rfl | rfl
  all_goals first | omega | rfl

theorem up_at (k : Nat) (h : k < 16) : ∃ L : Int, (∀ h', (((⟨#[48, 49, 50, 51, 52, 53, 54, 55, 56, 57, 65, 66, 67, 68, 69, 70]⟩ : ByteArray)[k]'h').toNat : Int) = L) ∧ ((k < 10 ∧ L = 48 + k) ∨ (10 ≤ k ∧ L = 55 + k)) := by
  refine ⟨if k < 10 then 48 + (k : Int) else 55 + k, fun h' => ?_, by split <;> omega⟩
  rcases below17 k (by omega) with rfl | rfl | rfl | rfl | rfl | rfl | rfl | rfl | rfl | rfl | rfl | rfl | rfl | rfl | rfl | rfl | rfl
  all_goals first | omega | rfl

set_option maxHeartbeats 2000000 in
theorem place_no (b : Int) (w : World) (h : NoDig b) :
    Calls Try.prog 6 #[.int .u8 b] w fun e w' => e = .returned (.tuple #[.int .i64 0, .bool false]) ∧ w' = w := by
  unfold NoDig at h
  go_enter Try.func6, Try.ntmps6
  go_wp2
  go_loop [4] (fun i => ∃ k : Nat, k ≤ 16 ∧ i = .int .i64 k) (fun i => 16 - (intOf i).toNat)
  case atStart => exact ⟨0, by omega, rfl⟩
  case round =>
    obtain ⟨k, hk, rfl⟩ := hrel
    by_cases hlt : k < 16
    · obtain ⟨L, hL, hLf⟩ := low_at k hlt
      obtain ⟨U, hU, hUf⟩ := up_at k hlt
      have h1 : (L == b) = false := by simp; omega
      have h2 : (U == b) = false := by simp; omega
      go_wp2
      go_round
      case rel => exact ⟨k + 1, by omega, by go_num⟩
      case measure => simp [intOf]; omega
    · go_wp2
      go_ret2
      exact ⟨rfl, rfl⟩

set_option maxHeartbeats 2000000 in
theorem place_yes (b d : Int) (w : World) (h : Dig b d) :
    Calls Try.prog 6 #[.int .u8 b] w fun e w' => e = .returned (.tuple #[.int .i64 d, .bool true]) ∧ w' = w := by
  have hH : Hid (Dig b d) := h
  have hd : 0 ≤ d ∧ d ≤ 15 := by unfold Dig at h; omega
  clear h
  go_enter Try.func6, Try.ntmps6
  go_wp2
  go_loop [4] (fun i => ∃ k : Nat, (k : Int) ≤ d ∧ i = .int .i64 k) (fun i => 16 - (intOf i).toNat)
  case atStart => exact ⟨0, by omega, rfl⟩
  case round =>
    obtain ⟨k, hk, rfl⟩ := hrel
    have hlt : k < 16 := by omega
    obtain ⟨L, hL, hLf⟩ := low_at k hlt
    obtain ⟨U, hU, hUf⟩ := up_at k hlt
    by_cases hkd : (k : Int) = d
    · have h12 : (L == b) = true ∨ ((L == b) = false ∧ (U == b) = true) := by
        have := hH.out
        unfold Dig at this
        simp
        omega
      have hkH : Hid ((k : Int) = d) := hkd
      clear hkd
      rcases h12 with h1 | ⟨h1, h2⟩
      all_goals
        go_wp2
        go_ret2
        exact ⟨by rw [← hkH.out]; rfl, rfl⟩
    · have h1 : (L == b) = false := by
        have := hH.out
        unfold Dig at this
        simp
        omega
      have h2 : (U == b) = false := by
        have := hH.out
        unfold Dig at this
        simp
        omega
      go_wp2
      go_round
      case rel => exact ⟨k + 1, by omega, by go_num⟩
      case measure => simp [intOf]; omega

end Go.Proofs.Qxb6614267a
