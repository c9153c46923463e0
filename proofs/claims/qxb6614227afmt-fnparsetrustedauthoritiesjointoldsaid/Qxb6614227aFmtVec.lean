/-
  DERIVED. Seat b6614227aF: vector16, end, the rule's comparison, the bound on the lengths.
-/
import Derived.Test.Qxb6614227aFmtCur
import Derived.Deep.QuietTactic
import Derived.BigQuiet
import Derived.Deep.RegionHeld3
import Derived.Deep.RegionWith
import Derived.Laws.BitsAllLaws
namespace Go.Proofs.Qxb6614227aFmt
open Go.RowKit

theorem or_mul8 (a b : Nat) (h : b < 256) : a * 256 ||| b = a * 256 + b := by
  rw [show a * 256 = a <<< 8 from by rw [Nat.shiftLeft_eq]]
  rw [Nat.shiftLeft_add_eq_or_of_lt (by simpa using h)]

/-- 'int(x)<<8 | int(y)' of two bytes. -/
theorem wrap_small (x : Int) (h0 : 0 ≤ x) (h1 : x ≤ 65535) : IntKind.i64.wrap x = x := by
  simp only [IntKind.wrap, IntKind.bits, IntKind.signed]
  simp
  omega

theorem or_bytes (x y : Int) (h0 : 0 ≤ x ∧ x ≤ 255) (h1 : 0 ≤ y ∧ y ≤ 255) : bits BinOp.or IntKind.i64 (x * 256) y = x * 256 + y := by
  obtain ⟨a, rfl⟩ := Int.eq_ofNat_of_zero_le h0.1
  obtain ⟨b, rfl⟩ := Int.eq_ofNat_of_zero_le h1.1
  rw [show ((a : Int) * 256) = ((a * 256 : Nat) : Int) from by omega]
  have ho := or_mul8 a b (by omega)
  show IntKind.i64.wrap ((BitVec.ofInt 64 ((a * 256 : Nat) : Int) ||| BitVec.ofInt 64 (b : Int)).toNat : Int) = _
  rw [BitVec.toNat_or, ofInt_u64 (a * 256) (by omega), ofInt_u64 b (by omega), ho]
  simp only [IntKind.wrap, IntKind.bits, IntKind.signed]
  simp
  omega

set_option maxHeartbeats 400000 in
theorem vec_short (L : Nat) (ao : Option Addr) (m cp : Nat) (w : World) (hm : m < 2) (hc : w.cell? ⟨L, 0, none⟩ = some (.slice ao m cp)) :
    Calls Tryf.prog 30 #[.pointer (some ⟨L, 0, none⟩)] w fun e w' => e = .returned (.tuple #[.slice none 0 0, .bool false]) ∧ w' = w := by
  go_enter Tryf.func30, Tryf.ntmps30
  go_wp2
  go_ret2
  exact ⟨rfl, rfl⟩

set_option maxHeartbeats 1000000 in
theorem vec_no (L bd o m k : Nat) (y0 y1 : Int) (w : World) (h0 : 0 ≤ y0 ∧ y0 ≤ 255) (h1 : 0 ≤ y1 ∧ y1 ≤ 255) (hk : y0 * 256 + y1 = k) (h2 : 2 ≤ m) (hm : m < 2 + k) (hM : m ≤ 70000) (hc : w.cell? ⟨L, 0, none⟩ = some (.slice (some ⟨bd, o, none⟩) m m))
   (hy0 : w.cell? ⟨bd, o, none⟩ = some (.int .u8 y0)) (hy1 : w.cell? ⟨bd, o + 1, none⟩ = some (.int .u8 y1)) :
    Calls Tryf.prog 30 #[.pointer (some ⟨L, 0, none⟩)] w fun e w' => e = .returned (.tuple #[.slice none 0 0, .bool false]) ∧ w' = w.drew := by
  have hmm : (2 : Int) ≤ (m : Int) := by omega
  have hm0 : 0 < m := by omega
  have hm1 : (1 : Int) < (m : Int) := by omega
  have hk1 : k ≤ 65535 := by omega
  have hor : bits BinOp.or IntKind.i64 (y0 * 256) y1 = (k : Int) := by rw [or_bytes y0 y1 h0 h1, hk]
  have hw0 := wrap_small y0 (by omega) (by omega)
  have hw1 := wrap_small y1 (by omega) (by omega)
  have hw2 := wrap_small (y0 * 256) (by omega) (by omega)
  clear hk h0 h1
  go_enter Tryf.func30, Tryf.ntmps30
  go_wp2
  go_region_held3 (fun w' => w'.cell? ⟨L, 0, none⟩ = some (.slice (some ⟨bd, o, none⟩) m m) ∧ w'.cell? ⟨bd, o, none⟩ = some (.int .u8 y0) ∧ w'.cell? ⟨bd, o + 1, none⟩ = some (.int .u8 y1)) (go_keep)
    (first | (go_at_call 33; refine (contents_no L (some ⟨bd, o, none⟩) m m k _ (by omega) (by omega) (by omega) (by go_simp)).mono ?_; rintro e w' ⟨rfl, rfl⟩))
  all_goals go_wp2
  all_goals go_ret2
  all_goals exact ⟨rfl, rfl⟩

set_option maxHeartbeats 1000000 in
theorem vec_ok (L bd o m k : Nat) (y0 y1 : Int) (w : World) (h0 : 0 ≤ y0 ∧ y0 ≤ 255) (h1 : 0 ≤ y1 ∧ y1 ≤ 255) (hk : y0 * 256 + y1 = k) (hm : 2 + k ≤ m) (hM : m ≤ 70000) (hc : w.cell? ⟨L, 0, none⟩ = some (.slice (some ⟨bd, o, none⟩) m m)) (hf : w.frozen? ⟨L, 0, none⟩ = false)
   (hy0 : w.cell? ⟨bd, o, none⟩ = some (.int .u8 y0)) (hy1 : w.cell? ⟨bd, o + 1, none⟩ = some (.int .u8 y1)) :
    Calls Tryf.prog 30 #[.pointer (some ⟨L, 0, none⟩)] w fun e w' => e = .returned (.tuple #[.slice (some ⟨bd, curAfter o (2 + k) 2, none⟩) k k, .bool true]) ∧ w' = (w.setCell ⟨L, 0, none⟩ (.slice (some ⟨bd, curAfter o m (2 + k), none⟩) (m - (2 + k)) (m - (2 + k)))).drew := by
  have hmm : (2 : Int) ≤ (m : Int) := by omega
  have hm0 : 0 < m := by omega
  have hm1 : (1 : Int) < (m : Int) := by omega
  have hk1 : k ≤ 65535 := by omega
  have hor : bits BinOp.or IntKind.i64 (y0 * 256) y1 = (k : Int) := by rw [or_bytes y0 y1 h0 h1, hk]
  have hw0 := wrap_small y0 (by omega) (by omega)
  have hw1 := wrap_small y1 (by omega) (by omega)
  have hw2 := wrap_small (y0 * 256) (by omega) (by omega)
  clear hk h0 h1
  go_enter Tryf.func30, Tryf.ntmps30
  go_wp2
  go_region_with (first | (go_at_call 33; refine (contents_ok L bd o m k _ (by omega) (by omega) (by go_simp) (by go_simp)).mono ?_; rintro e w' ⟨rfl, rfl⟩))
  all_goals go_wp2
  all_goals go_ret2
  all_goals exact ⟨rfl, rfl⟩

end Go.Proofs.Qxb6614227aFmt
