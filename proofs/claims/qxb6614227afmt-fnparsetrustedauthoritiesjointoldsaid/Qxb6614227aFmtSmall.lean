/-
  DERIVED. Seat b6614227aF: end, the rule's comparison, the bound on the lengths; what fmt's stop is asked; the violations that are made.
-/
import Derived.Test.Qxb6614227aFmtCur
import Derived.Deep.QuietTactic
import Derived.BigQuiet
import Derived.Stop.CallBack
import Derived.Stop.IfaceNil
import GoSem.ClaimData
namespace Go.Proofs.Qxb6614227aFmt
open Go.RowKit Go.Extern.Stop Go.Stop Go.Extern

set_option maxHeartbeats 400000 in
theorem end_ok (ao : Option Addr) (cp : Nat) (s : ByteArray) (w : World) :
    Calls Tryf.prog 27 #[.slice ao 0 cp, .string s, .bool true] w fun e w' => e = .returned (.pointer none) ∧ w' = w.alloc (.cells #[.slice ao 0 cp] 51) := by
  go_enter Tryf.func27, Tryf.ntmps27
  go_wp2_with (go_at_call 28; refine (empty_any w.heap.size ao 0 cp _ (by go_simp)).mono ?_; rintro e w' ⟨rfl, rfl⟩)
  go_ret
  exact ⟨rfl, rfl⟩

set_option maxHeartbeats 400000 in
theorem same_nil_nil (w : World) :
    Calls Tryf.prog 16 #[.pointer none, .pointer none] w fun e w' => e = .returned (.bool true) ∧ w' = w := by
  go_enter Tryf.func16, Tryf.ntmps16
  go_wp2
  go_ret
  exact ⟨rfl, rfl⟩

set_option maxHeartbeats 400000 in
theorem same_nil_some (a : Addr) (w : World) :
    Calls Tryf.prog 16 #[.pointer none, .pointer (some a)] w fun e w' => e = .returned (.bool false) ∧ w' = w := by
  go_enter Tryf.func16, Tryf.ntmps16
  go_wp2
  go_ret
  exact ⟨rfl, rfl⟩

set_option maxHeartbeats 400000 in
theorem same_some_nil (a : Addr) (w : World) :
    Calls Tryf.prog 16 #[.pointer (some a), .pointer none] w fun e w' => e = .returned (.bool false) ∧ w' = w := by
  go_enter Tryf.func16, Tryf.ntmps16
  go_wp2
  go_ret
  exact ⟨rfl, rfl⟩

set_option maxHeartbeats 400000 in
theorem same_some_some (k l : Nat) (s t : ByteArray) (w : World) (h1 : w.cell? ⟨k, 0, none⟩ = some (.string s)) (h2 : w.cell? ⟨l, 0, none⟩ = some (.string t)) :
    Calls Tryf.prog 16 #[.pointer (some ⟨k, 0, none⟩), .pointer (some ⟨l, 0, none⟩)] w fun e w' => e = .returned (.bool (s.toList == t.toList)) ∧ ∃ n, w' = w.drewN n := by
  go_enter Tryf.func16, Tryf.ntmps16
  go_wp2
  go_quiet (fail)
  go_wp2
  go_ret
  exact ⟨rfl, _, rfl⟩

set_option maxHeartbeats 400000 in
theorem len_any (ao bo : Option Addr) (la ca lb cb : Nat) (t : Int) (w : World) (ha : la ≤ maxLen) (hb : lb ≤ maxLen) :
    Calls Tryf.prog 13 #[.slice ao la ca, .slice bo lb cb, .int .u8 t] w fun e w' => (∃ b, e = .returned (.bool b)) ∧ w' = w := by
  unfold maxLen at ha hb
  go_enter Tryf.func13, Tryf.ntmps13
  go_wp2
  all_goals go_ret
  all_goals exact ⟨⟨_, rfl⟩, rfl⟩

end Go.Proofs.Qxb6614227aFmt
