/-
  DERIVED. Seat b6614313a: keptStateHolds.
-/
import Derived.Test.Qxb6614313aChecks
import Derived.Test.Qxb6614313aTime
namespace Go.Proofs.Qxb6614313a
open Go.RowKit

/-- What holds of the first n where keptStateHolds says yes. -/
def Fine (now : Int) (ids dues : Nat → Int) (n : Nat) : Prop := ∀ i, i < n → now < dues i ∧ ∀ j, j < i → ids j ≠ ids i

theorem drewN_drewN (w : World) (a b : Nat) : ∃ c, (w.drewN a).drewN b = w.drewN c := by
  induction b with
  | zero => exact ⟨a, rfl⟩
  | succ b ih =>
    obtain ⟨c, hc⟩ := ih
    refine ⟨c + 1, ?_⟩
    show ((w.drewN a).drewN b).drew = (w.drewN c).drew
    rw [hc]

set_option maxHeartbeats 1000000 in
theorem state_any (now : Int) (io dO : Option Addr) (li ci ld cd n : Nat) (ids dues : Nat → Int) (w : World) (hi : n ≤ li) (hd : n ≤ ld) (hN : n ≤ 4096) (hI : Ints .u64 io n ids w) (hD : Ints .i64 dO n dues w) :
    Calls Try.prog 13 #[.int .i64 now, .slice io li ci, .slice dO ld cd, .int .i64 n] w fun e w' => (∃ b, e = .returned (.bool b) ∧ (b = true → Fine now ids dues n)) ∧ ∃ q, w' = w.drewN q := by
  have hIH : Hid (Ints .u64 io n ids w) := hI
  have hDH : Hid (Ints .i64 dO n dues w) := hD
  clear hI hD
  go_enter Try.func13, Try.ntmps13
  go_wp2
  go_loopw [9] (fun i wr => ∃ k q : Nat, k ≤ n ∧ i = .int .i64 k ∧ Fine now ids dues k ∧ wr = w.drewN q) (fun i _ => n - (intOf i).toNat)
  case atStart => exact ⟨0, 0, by omega, rfl, fun i h => by omega, rfl⟩
  case round =>
    obtain ⟨k, q, hk, rfl, hF, rfl⟩ := hrel
    have hFH : Hid (Fine now ids dues k) := hF
    clear hF
    by_cases hlt : k < n
    · obtain ⟨b, o, rfl, _, hc⟩ := hDH.out (by omega)
      obtain ⟨b', o', rfl, _, hc'⟩ := hIH.out (by omega)
      have hck := hc k hlt
      have hkd : k < ld := by omega
      by_cases hdue : dues k ≤ now
      · go_wp2
        go_ret
        exact ⟨⟨_, rfl, fun h => by cases h⟩, q, rfl⟩
      · have hcH : Hid (∀ t, t < n → w.cell? ⟨b', o' + t, none⟩ = some (.int .u64 (ids t))) := hc'
        have hcD : Hid (∀ t, t < n → w.cell? ⟨b, o + t, none⟩ = some (.int .i64 (dues t))) := hc
        clear hc hc'
        by_cases h0 : k = 0
        · subst h0
          have hck0 : w.cell? ⟨b, o, none⟩ = some (.int .i64 (dues 0)) := by simpa using hck
          clear hck
          go_wp2_with fail
          go_quiet (fail)
          go_wp2_with fail
          obtain ⟨q1, hq1⟩ := drewN_drewN w q nq
          rw [hq1]
          clear hq1
          go_loopw [10] (fun j wr => j = .int .i64 0 ∧ wr = w.drewN q1) (fun _ _ => 0)
          case atStart => exact ⟨rfl, rfl⟩
          case round =>
            obtain ⟨rfl, rfl⟩ := hrel
            go_wp2
            go_roundw
            case rel => exact ⟨1, q1, by omega, by go_num, fun i h => by (obtain rfl : i = 0 := by omega); exact ⟨by omega, fun j hj => by omega⟩, rfl⟩
            case measure => simp [intOf]; omega
        · obtain ⟨k', rfl⟩ : ∃ k', k = k' + 1 := ⟨k - 1, by omega⟩
          have hcm := hcD.out (k' / 2) (by omega)
          have hml : k' / 2 < ld := by omega
          go_wp2_with fail
          go_quiet (fail)
          go_wp2_with fail
          · obtain ⟨q1, hq1⟩ := drewN_drewN w q nq
            go_ret
            exact ⟨⟨_, rfl, fun h => by cases h⟩, q1, hq1⟩
          · obtain ⟨q1, hq1⟩ := drewN_drewN w q nq
            rw [hq1]
            clear hq1
            go_loopw [10] (fun j wr => ∃ m q2 : Nat, m ≤ k' + 1 ∧ j = .int .i64 m ∧ (∀ t, t < m → ids t ≠ ids (k' + 1)) ∧ wr = w.drewN q2) (fun j _ => k' + 1 - (intOf j).toNat)
            case atStart => exact ⟨0, q1, by omega, rfl, fun t h => by omega, rfl⟩
            case round =>
              obtain ⟨m, q2, hm, rfl, hne, rfl⟩ := hrel
              have hneH : Hid (∀ t, t < m → ids t ≠ ids (k' + 1)) := hne
              clear hne
              by_cases hmk : m < k' + 1
              · have hcm1 := hcH.out m (by omega)
                have hck1 := hcH.out (k' + 1) hlt
                have hmi : m < li := by omega
                have hki : k' + 1 < li := by omega
                have hki' : (k' : Int) + 1 < (li : Int) := by omega
                by_cases he : ids m = ids (k' + 1)
                · have he' : (ids m == ids (k' + 1)) = true := by simpa using he
                  clear he
                  go_wp2_with fail
                  go_quiet (fail)
                  go_wp2_with fail
                  obtain ⟨q3, hq3⟩ := drewN_drewN w q2 nq
                  go_ret
                  exact ⟨⟨_, rfl, fun h => by cases h⟩, q3, hq3⟩
                · have he' : (ids m == ids (k' + 1)) = false := by simpa using he
                  have heH : Hid (ids m ≠ ids (k' + 1)) := he
                  clear he
                  go_wp2_with fail
                  go_quiet (fail)
                  go_wp2_with fail
                  go_roundw
                  case rel =>
                    refine ⟨m + 1, _, by omega, by go_num, ?_, rfl⟩
                    intro t ht
                    by_cases htm : t = m
                    · subst htm
                      exact heH.out
                    · exact hneH.out t (by omega)
                  case measure => simp [intOf]; omega
              · go_wp2_with fail
                go_roundw
                case rel =>
                  refine ⟨k' + 2, q2, by omega, by go_num, ?_, rfl⟩
                  intro i hi'
                  by_cases he : i = k' + 1
                  · subst he
                    exact ⟨by omega, fun j hj => hneH.out j (by omega)⟩
                  · exact hFH.out i (by omega)
                case measure => simp [intOf]; omega
    · go_wp2
      go_ret
      obtain rfl : k = n := by omega
      exact ⟨⟨_, rfl, fun _ => hFH.out⟩, q, rfl⟩

end Go.Proofs.Qxb6614313a
