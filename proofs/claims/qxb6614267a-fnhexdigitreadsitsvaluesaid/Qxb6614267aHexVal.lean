/-
  DERIVED. Seat b6614267a: hexValue reads four digits; the law's walk.
-/
import Derived.Test.Qxb6614267aHexWalks
namespace Go.Proofs.Qxb6614267a
open Go.RowKit

/-- The value of the first k digits. -/
def rv (d : Nat → Int) : Nat → Int
  | 0 => 0
  | k + 1 => rv d k * 16 + d k

theorem rv_bound (d : Nat → Int) (h : ∀ t, t < 4 → 0 ≤ d t ∧ d t ≤ 15) : ∀ k, k < 4 → 0 ≤ rv d k ∧ rv d k ≤ 4095 := by
  have h0 := h 0 (by omega)
  have h1 := h 1 (by omega)
  have h2 := h 2 (by omega)
  intro k hk
  match k, hk with
  | 0, _ => simp [rv]
  | 1, _ => simp [rv]; omega
  | 2, _ => simp [rv]; omega
  | 3, _ => simp [rv]; omega

theorem dig_bound {b d : Int} (h : Dig b d) : 0 ≤ d ∧ d ≤ 15 := by unfold Dig at h; omega

theorem or_mul16 (a b : Nat) (h : b < 16) : a * 16 ||| b = a * 16 + b := by
  rw [show a * 16 = a <<< 4 from by rw [Nat.shiftLeft_eq]]
  rw [Nat.shiftLeft_add_eq_or_of_lt (by simpa using h)]

theorem or_hex (x y : Int) (h0 : 0 ≤ x ∧ x ≤ 4095) (h1 : 0 ≤ y ∧ y ≤ 15) : bits BinOp.or IntKind.i32 (x * 16) y = x * 16 + y := by
  obtain ⟨a, rfl⟩ := Int.eq_ofNat_of_zero_le h0.1
  obtain ⟨b, rfl⟩ := Int.eq_ofNat_of_zero_le h1.1
  rw [show ((a : Int) * 16) = ((a * 16 : Nat) : Int) from by omega]
  have ho := or_mul16 a b (by omega)
  show IntKind.i32.wrap ((BitVec.ofInt 32 ((a * 16 : Nat) : Int) ||| BitVec.ofInt 32 (b : Int)).toNat : Int) = _
  rw [BitVec.toNat_or, ofInt_u32 (a * 16) (by omega), ofInt_u32 b (by omega), ho]
  simp only [IntKind.wrap, IntKind.bits, IntKind.signed]
  simp
  omega

set_option maxHeartbeats 1000000 in
theorem hexValue_any (g : Nat) (c d : Nat → Int) (w : World) (hc : ∀ t, t < 4 → w.cell? ⟨g, t, none⟩ = some (.int .u8 (c t))) (hd : ∀ t, t < 4 → Dig (c t) (d t)) :
    Calls Try.prog 17 #[.slice (some ⟨g, 0, none⟩) 4 4] w fun e w' => e = .returned (.int .i32 (rv d 4)) ∧ w' = w := by
  have hdH : Hid (∀ t, t < 4 → Dig (c t) (d t)) := hd
  have hcH : Hid (∀ t, t < 4 → w.cell? ⟨g, t, none⟩ = some (.int .u8 (c t))) := hc
  clear hd hc
  go_enter Try.func17, Try.ntmps17
  go_wp2
  go_loop [3, 8] (fun r i => ∃ k : Nat, k ≤ 4 ∧ i = .int .i64 k ∧ r = .int .i32 (rv d k)) (fun _ i => 4 - (intOf i).toNat)
  case atStart => exact ⟨0, by omega, rfl, rfl⟩
  case round =>
    obtain ⟨k, hk, rfl, rfl⟩ := hrel
    by_cases hlt : k < 4
    · have hb := rv_bound d (fun t ht => dig_bound (hdH.out t ht)) k hlt
      have hdk := hdH.out k hlt
      have hck := hcH.out k hlt
      obtain ⟨r, hr⟩ : ∃ r, r = rv d k := ⟨_, rfl⟩
      have hrH : Hid (rv d (k + 1) = r * 16 + d k) := by rw [hr]; rfl
      rw [← hr] at hb
      rw [← hr]
      obtain ⟨x, hx⟩ : ∃ x, x = c k := ⟨_, rfl⟩
      obtain ⟨y, hy⟩ : ∃ y, y = d k := ⟨_, rfl⟩
      rw [← hx] at hck hdk
      rw [← hy] at hdk hrH
      clear hr hx hy
      rcases hdk with ⟨h1, h2, hy⟩ | ⟨h1, h2, hy⟩ | ⟨h1, h2, hy⟩
      · have hor := or_hex r (x - 48) hb (by omega)
        have hyH : Hid (y = x - 48) := hy
        clear hy
        go_wp2_with (go_at_call 21; refine (isDigit_yes x _ h1 h2).mono ?_; rintro e w ⟨rfl, rfl⟩)
        go_round
        case rel => exact ⟨k + 1, by omega, by go_num, by rw [hrH.out, hyH.out]⟩
        case measure => simp [intOf]; omega
      · have hor := or_hex r (x - 97 + 10) hb (by omega)
        have hyH : Hid (y = x - 97 + 10) := by show y = x - 97 + 10; omega
        clear hy
        go_wp2_with (go_at_call 21; refine (isDigit_no x _ (by omega)).mono ?_; rintro e w ⟨rfl, rfl⟩)
        go_round
        case rel => exact ⟨k + 1, by omega, by go_num, by rw [hrH.out, hyH.out]⟩
        case measure => simp [intOf]; omega
      · have hor := or_hex r (x - 65 + 10) hb (by omega)
        have hyH : Hid (y = x - 65 + 10) := by show y = x - 65 + 10; omega
        clear hy
        go_wp2_with (go_at_call 21; refine (isDigit_no x _ (by omega)).mono ?_; rintro e w ⟨rfl, rfl⟩)
        go_round
        case rel => exact ⟨k + 1, by omega, by go_num, by rw [hrH.out, hyH.out]⟩
        case measure => simp [intOf]; omega
    · go_wp2
      obtain rfl : k = 4 := by omega
      go_ret
      exact ⟨rfl, rfl⟩

set_option maxHeartbeats 400000 in
theorem zzHexValue_any (g : Nat) (c d : Nat → Int) (w : World) (hc : ∀ t, t < 4 → w.cell? ⟨g, t, none⟩ = some (.int .u8 (c t))) (hd : ∀ t, t < 4 → Dig (c t) (d t)) :
    Calls Try.prog 8 #[.slice (some ⟨g, 0, none⟩) 4 4] w fun e w' => e = .returned (.int .i32 (rv d 4)) ∧ w' = w := by
  go_enter Try.func8, Try.ntmps8
  go_wp2_with (go_at_call 17; refine (hexValue_any g c d _ hc hd).mono ?_; rintro e w' ⟨rfl, rfl⟩)
  go_ret
  exact ⟨rfl, rfl⟩

/-- Four cells of a new block. -/
theorem four_cells (w : World) (T : TypeId) (x0 x1 x2 x3 : Int) (c : Nat → Int) (h0 : c 0 = x0) (h1 : c 1 = x1) (h2 : c 2 = x2) (h3 : c 3 = x3) :
    ∀ t, t < 4 → (w.alloc (.cells #[.int .u8 x0, .int .u8 x1, .int .u8 x2, .int .u8 x3] T)).cell? ⟨w.heap.size, t, none⟩ = some (.int .u8 (c t)) := by
  subst h0 h1 h2 h3
  intro t ht
  match t, ht with
  | 0, _ => simp
  | 1, _ => simp
  | 2, _ => simp
  | 3, _ => simp

/-- The value of 000b. -/
theorem one_val (b d : Int) (w : World) (T : TypeId) (h : Dig b d) :
    Calls Try.prog 8 #[.slice (some ⟨w.heap.size, 0, none⟩) 4 4] (w.alloc (.cells #[.int .u8 48, .int .u8 48, .int .u8 48, .int .u8 b] T)) fun e w' => e = .returned (.int .i32 d) ∧ w' = w.alloc (.cells #[.int .u8 48, .int .u8 48, .int .u8 48, .int .u8 b] T) := by
  have hz : Dig 48 0 := .inl ⟨by omega, by omega, by omega⟩
  refine (zzHexValue_any w.heap.size (fun t => if t = 3 then b else 48) (fun t => if t = 3 then d else 0) _ (four_cells w T 48 48 48 b _ rfl rfl rfl rfl) (fun t ht => ?_)).mono ?_
  · match t, ht with
    | 0, _ => exact hz
    | 1, _ => exact hz
    | 2, _ => exact hz
    | 3, _ => exact h
  · rintro e w' ⟨rfl, rfl⟩
    exact ⟨by simp [rv], rfl⟩

/-- The value of bbbb. -/
theorem four_val (b d : Int) (w : World) (T : TypeId) (h : Dig b d) (H : Nat) (hH : w.heap.size = H) :
    Calls Try.prog 8 #[.slice (some ⟨H, 0, none⟩) 4 4] (w.alloc (.cells #[.int .u8 b, .int .u8 b, .int .u8 b, .int .u8 b] T)) fun e w' => e = .returned (.int .i32 (d * 4369)) ∧ w' = w.alloc (.cells #[.int .u8 b, .int .u8 b, .int .u8 b, .int .u8 b] T) := by
  subst hH
  refine (zzHexValue_any w.heap.size (fun _ => b) (fun _ => d) _ (four_cells w T b b b b _ rfl rfl rfl rfl) (fun t ht => h)).mono ?_
  rintro e w' ⟨rfl, rfl⟩
  have : rv (fun _ => d) 4 = d * 4369 := by simp [rv]; omega
  exact ⟨by rw [this], rfl⟩

set_option maxHeartbeats 400000 in
theorem law_no (b : Int) (w : World) (h : NoDig b) :
    Calls Try.prog 3 #[.int .u8 b] w fun e w' => e = .returned (.bool true) ∧ w' = w := by
  go_enter Try.func3, Try.ntmps3
  go_wp2_with (first
    | (go_at_call 6; refine (place_no b _ h).mono ?_; rintro e w ⟨rfl, rfl⟩)
    | (go_at_call 7; refine (zzIsHex_no b _ h).mono ?_; rintro e w ⟨rfl, rfl⟩))
  go_ret
  exact ⟨rfl, rfl⟩

set_option maxHeartbeats 400000 in
theorem law_yes (b d : Int) (w : World) (h : Dig b d) :
    Calls Try.prog 3 #[.int .u8 b] w fun e w' => e = .returned (.bool true) ∧ Grown w w' := by
  have hd := dig_bound h
  go_enter Try.func3, Try.ntmps3
  go_wp2_with (first
    | (go_at_call 6; refine (place_yes b d _ h).mono ?_; rintro e w ⟨rfl, rfl⟩)
    | (go_at_call 7; refine (zzIsHex_yes b d _ h).mono ?_; rintro e w ⟨rfl, rfl⟩))
  refine (one_val b d _ _ h).mono ?_
  rintro e w1 ⟨rfl, rfl⟩
  go_wp2_with fail
  refine (four_val b d _ _ h _ (by simp)).mono ?_
  rintro e w2 ⟨rfl, rfl⟩
  go_wp2
  go_ret
  exact ⟨rfl, ((Grown.refl _).alloc _ _).alloc _ _⟩

theorem law_any (b : Int) (w : World) : Calls Try.prog 3 #[.int .u8 b] w fun e w' => e = .returned (.bool true) ∧ Grown w w' := by
  rcases dig_or b with ⟨d, h⟩ | h
  · exact law_yes b d w h
  · refine (law_no b w h).mono ?_
    rintro e w' ⟨rfl, rfl⟩
    exact ⟨rfl, Grown.refl _⟩

end Go.Proofs.Qxb6614267a
