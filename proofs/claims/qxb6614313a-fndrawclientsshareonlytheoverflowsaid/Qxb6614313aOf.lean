/-
  DERIVED. Seat b6614313a: bucketOf.
-/
import Derived.Test.Qxb6614313aBuild
import Derived.Test.Qxb6614313aDrop
import Derived.Deep.CutRange
namespace Go.Proofs.Qxb6614313a
open Go.RowKit Go.Maps

theorem zero47 (w : World) : (zeroValue 47).run Try.prog w = .ok (.pointer none) w := by kernel_rfl

theorem ptrElem_lit {v : Value} {k : Nat} {ps : List MemPlace} (h : ptrElem v = some (.lit (.int .i64 k), ps)) : v = .pointer (some ⟨k, 0, none⟩) := by
  unfold ptrElem at h
  split at h
  · cases h
  · injection h with h
    injection h with h _
    injection h with h
    injection h with _ h
    rw [show _ = k from Int.ofNat.inj h]
  · cases h

theorem ptrElem_nil {v : Value} {ps : List MemPlace} (h : ptrElem v = some (.nil, ps)) : v = .pointer none := by
  unfold ptrElem at h
  split at h
  · rfl
  · injection h with h
    injection h with h _
    cases h
  · cases h

set_option maxHeartbeats 1000000 in
theorem of_kept (C Z M O R k n : Nat) (bnd N S x : Int) (dv : Value) (D : DataW Unit) (s0 s1 s2 : ByteArray) (w : World) (hx : (Lit.int .u64 x).wf = true) (hC : w.heap[C]? = some (cliObj Z M O R bnd dv)) (hR : w.heap[R]? = some (reasonsObj s0 s1 s2)) (hM : w.ownsMap Try.prog 30 ptrElem M n D)
    (hat : D.atKey (.int .u64 x) .nil = .lit (.int .i64 k)) :
    Calls Try.prog 38 #[.pointer (some ⟨C, 0, none⟩), .int .u64 x, .agg #[.int .u64 N, .int .i64 S, .pointer none]] w fun e w' => e = .returned (.tuple #[.pointer (some ⟨k, 0, none⟩), .string s1, .pointer none]) ∧ Below w.heap.size w w' := by
  have hc := hp_lt hC
  have hr := hp_lt hR
  have c4 : w.cell? ⟨C, 4, none⟩ = some (.map (some M)) := hp_cell hC 4
  have c7 : w.cell? ⟨C, 7, none⟩ = some (.pointer (some ⟨R, 0, none⟩)) := hp_cell hC 7
  have r1 : w.cell? ⟨R, 1, none⟩ = some (.string s1) := hp_cell hR 1
  obtain ⟨v, ps, hrun, hv⟩ := (hM.alloc (.cells #[.int .u64 N, .int .i64 S, .pointer none] 43)).lookup law30 Try.underlying84 (zero47 _) rfl (keyOf_int_mk Try.underlying30 hx)
  rw [hat] at hv
  obtain rfl := ptrElem_lit hv
  clear hv hat hM hC hR
  go_enter Try.func38, Try.ntmps38
  go_wp2_with fail
  go_quiet (fail)
  go_wp2_with fail
  go_ret3
  exact ⟨rfl, below_drewN ((Below.refl _ w).alloc (Nat.le_refl _) _) _⟩

set_option maxHeartbeats 1000000 in
theorem of_full (C Z M O R n : Nat) (bnd x b : Int) (dv : Value) (D : DataW Unit) (s0 s1 s2 : ByteArray) (w : World) (hx : (Lit.int .u64 x).wf = true) (hC : w.heap[C]? = some (cliObj Z M O R bnd dv)) (hR : w.heap[R]? = some (reasonsObj s0 s1 s2)) (hM : w.ownsMap Try.prog 30 ptrElem M n D)
    (hat : D.atKey (.int .u64 x) .nil = .nil) (hsize : Maps.size D = n) (hbn : bnd ≤ n)
    (hdrop : ∀ w0, Below w.heap.size w w0 → Calls Try.prog 39 #[.pointer (some ⟨C, 0, none⟩), .agg #[.int .u64 (b % 1000000000), .int .i64 (b / 1000000000), .pointer none]] w0 fun e w' => e = .returned (.tuple #[]) ∧ Below w0.heap.size w0 w') :
    Calls Try.prog 38 #[.pointer (some ⟨C, 0, none⟩), .int .u64 x, .agg #[.int .u64 (b % 1000000000), .int .i64 (b / 1000000000), .pointer none]] w fun e w' => e = .returned (.tuple #[.pointer (some ⟨O, 0, none⟩), .string s2, .pointer none]) ∧ Below w.heap.size w w' := by
  have hc := hp_lt hC
  have hr := hp_lt hR
  have c4 : w.cell? ⟨C, 4, none⟩ = some (.map (some M)) := hp_cell hC 4
  obtain ⟨v, ps, hrun, hv⟩ := (hM.alloc (.cells #[.int .u64 (b % 1000000000), .int .i64 (b / 1000000000), .pointer none] 43)).lookup law30 Try.underlying84 (zero47 _) rfl (keyOf_int_mk Try.underlying30 hx)
  rw [hat] at hv
  obtain rfl := ptrElem_nil hv
  have hm := hM.lt
  clear hv hat
  go_enter Try.func38, Try.ntmps38
  go_wp2_with fail
  refine (hdrop _ ((Below.refl _ w).alloc (Nat.le_refl _) _)).mono ?_
  rintro e w1 ⟨rfl, hb1⟩
  have hB1 : Below w.heap.size w w1 := ((Below.refl _ w).alloc (Nat.le_refl _) _).trans (hb1.mono (by simp))
  have hC1 := (hB1.block C hc).trans hC
  have hR1 := (hB1.block R hr).trans hR
  have hM1 := ownsMap_block hM (hB1.block M hm)
  have d2 : w1.cell? ⟨C, 2, none⟩ = some (.int .i64 bnd) := hp_cell hC1 2
  have d4 : w1.cell? ⟨C, 4, none⟩ = some (.map (some M)) := hp_cell hC1 4
  have d6 : w1.cell? ⟨C, 6, none⟩ = some (.pointer (some ⟨O, 0, none⟩)) := hp_cell hC1 6
  have d7 : w1.cell? ⟨C, 7, none⟩ = some (.pointer (some ⟨R, 0, none⟩)) := hp_cell hC1 7
  have r2 : w1.cell? ⟨R, 2, none⟩ = some (.string s2) := hp_cell hR1 2
  have hlen : ∀ (q : Nat) (ty : TypeId), (Builtin.len_ #[84] ty #[.map (some M)]).run Try.prog (w1.drewN q) = .ok (.int .i64 n) (w1.drewN q) := by
    intro q ty
    have hq : (w1.drewN q).ownsMap Try.prog 30 ptrElem M n D := ownsMap_block hM1 rfl
    rw [hq.len Try.underlying84 ty, hsize]
  have hlen0 : ∀ (ty : TypeId), (Builtin.len_ #[84] ty #[.map (some M)]).run Try.prog w1 = .ok (.int .i64 n) w1 := by
    intro ty
    rw [hM1.len Try.underlying84 ty, hsize]
  clear hM hM1 hC1 hR1 hC hR hrun c4 hb1 hdrop
  go_wp2_with fail
  go_quiet (fail)
  go_wp2_with fail
  go_quiet (fail)
  go_wp2_with fail
  go_ret3
  exact ⟨rfl, below_drewN (below_drewN hB1 _) _⟩

set_option maxHeartbeats 1000000 in
theorem of_room (C Z M O R n : Nat) (bnd r c p x b : Int) (dv : Value) (D : DataW Unit) (s0 s1 s2 : ByteArray) (w : World) (hx : (Lit.int .u64 x).wf = true) (hC : w.heap[C]? = some (cliObj Z M O R bnd dv)) (hR : w.heap[R]? = some (reasonsObj s0 s1 s2)) (hZ : w.heap[Z]? = some (sizeObj r c p)) (hM : w.ownsMap Try.prog 30 ptrElem M n D)
    (hat : D.atKey (.int .u64 x) .nil = .nil) (hsize : Maps.size D = n) (hbn : n < bnd)
    (hdrop : ∀ w0, Below w.heap.size w w0 → Calls Try.prog 39 #[.pointer (some ⟨C, 0, none⟩), .agg #[.int .u64 (b % 1000000000), .int .i64 (b / 1000000000), .pointer none]] w0 fun e w' => e = .returned (.tuple #[]) ∧ Below w0.heap.size w0 w') :
    Calls Try.prog 38 #[.pointer (some ⟨C, 0, none⟩), .int .u64 x, .agg #[.int .u64 (b % 1000000000), .int .i64 (b / 1000000000), .pointer none]] w fun e w' => ∃ f, e = .returned (.tuple #[.pointer (some ⟨f, 0, none⟩), .string s1, .pointer (some ⟨f, 0, none⟩)]) ∧ w.heap.size ≤ f ∧ w'.heap[f]? = some (clientObj r c p (b % 1000000000) (b / 1000000000) 0 x 0 0) ∧ Below w.heap.size w w' := by
  have hc := hp_lt hC
  have hr := hp_lt hR
  have hz := hp_lt hZ
  have c4 : w.cell? ⟨C, 4, none⟩ = some (.map (some M)) := hp_cell hC 4
  obtain ⟨v, ps, hrun, hv⟩ := (hM.alloc (.cells #[.int .u64 (b % 1000000000), .int .i64 (b / 1000000000), .pointer none] 43)).lookup law30 Try.underlying84 (zero47 _) rfl (keyOf_int_mk Try.underlying30 hx)
  rw [hat] at hv
  obtain rfl := ptrElem_nil hv
  have hm := hM.lt
  clear hv hat
  go_enter Try.func38, Try.ntmps38
  go_wp2_with fail
  refine (hdrop _ ((Below.refl _ w).alloc (Nat.le_refl _) _)).mono ?_
  rintro e w1 ⟨rfl, hb1⟩
  have hB1 : Below w.heap.size w w1 := ((Below.refl _ w).alloc (Nat.le_refl _) _).trans (hb1.mono (by simp))
  have hT1 := (hb1.block w.heap.size (by simp)).trans (hp_new _ _ _ rfl)
  have hC1 := (hB1.block C hc).trans hC
  have hR1 := (hB1.block R hr).trans hR
  have hZ1 := (hB1.block Z hz).trans hZ
  have hM1 := ownsMap_block hM (hB1.block M hm)
  have t0 : w1.cell? ⟨w.heap.size, 0, none⟩ = some (.int .u64 (b % 1000000000)) := hp_cell hT1 0
  have t1 : w1.cell? ⟨w.heap.size, 1, none⟩ = some (.int .i64 (b / 1000000000)) := hp_cell hT1 1
  have t2 : w1.cell? ⟨w.heap.size, 2, none⟩ = some (.pointer none) := hp_cell hT1 2
  have d0 : w1.cell? ⟨C, 0, none⟩ = some (.pointer (some ⟨Z, 0, none⟩)) := hp_cell hC1 0
  have d2 : w1.cell? ⟨C, 2, none⟩ = some (.int .i64 bnd) := hp_cell hC1 2
  have d4 : w1.cell? ⟨C, 4, none⟩ = some (.map (some M)) := hp_cell hC1 4
  have d7 : w1.cell? ⟨C, 7, none⟩ = some (.pointer (some ⟨R, 0, none⟩)) := hp_cell hC1 7
  have r1 : w1.cell? ⟨R, 1, none⟩ = some (.string s1) := hp_cell hR1 1
  have z0 : w1.cell? ⟨Z, 0, none⟩ = some (.int .i64 r) := hp_cell hZ1 0
  have z1 : w1.cell? ⟨Z, 1, none⟩ = some (.int .i64 c) := hp_cell hZ1 1
  have z2 : w1.cell? ⟨Z, 2, none⟩ = some (.int .i64 p) := hp_cell hZ1 2
  have hlen0 : ∀ (ty : TypeId), (Builtin.len_ #[84] ty #[.map (some M)]).run Try.prog w1 = .ok (.int .i64 n) w1 := by
    intro ty
    rw [hM1.len Try.underlying84 ty, hsize]
  have hlen : ∀ (q : Nat) (ty : TypeId), (Builtin.len_ #[84] ty #[.map (some M)]).run Try.prog (w1.drewN q) = .ok (.int .i64 n) (w1.drewN q) := by
    intro q ty
    have hq : (w1.drewN q).ownsMap Try.prog 30 ptrElem M n D := ownsMap_block hM1 rfl
    rw [hq.len Try.underlying84 ty, hsize]
  have lC : C < w1.heap.size := hp_lt hC1
  have lR : R < w1.heap.size := hp_lt hR1
  have lZ : Z < w1.heap.size := hp_lt hZ1
  have lT : w.heap.size < w1.heap.size := hp_lt hT1
  clear hM hM1 hC1 hR1 hZ hZ1 hT1 hrun c4 hb1 hdrop
  have lC1 : C < w1.heap.size + 1 := by omega
  have lC2 : C < w1.heap.size + 1 + 1 := by omega
  have lC2' : C < w1.heap.size + 2 := by omega
  have lR1 : R < w1.heap.size + 1 := by omega
  have lR2 : R < w1.heap.size + 1 + 1 := by omega
  have lR2' : R < w1.heap.size + 2 := by omega
  go_wp2_with fail
  go_quiet (fail)
  go_upto_region 7 with fail
  go_cut [8] from 9 to 73 (fun v wc => ∃ f, v = .pointer (some ⟨f, 0, none⟩) ∧ w.heap.size ≤ f ∧ wc.heap[f]? = some (clientObj r c p (b % 1000000000) (b / 1000000000) 0 x 0 0) ∧ Below w.heap.size w wc)
  case first =>
    clear hC hR
    go_region_with (go_at_call 35; refine (newBucket_x Z r c p (b % 1000000000) (b / 1000000000) _ (by simpa using lZ) ⟨by go_simp, by go_simp, by go_simp⟩).mono ?_; rintro e w2 ⟨rfl, rfl⟩)
    all_goals
      go_wp2_with fail
      go_meet
      refine ⟨_, rfl, ?_, ?_, ?_⟩
      · omega
      · simp only [hp_drew]
        exact hp_new _ _ _ (by simp)
      · have lq : w.heap.size ≤ (w1.drewN (nq + 1)).heap.size := Nat.le_of_lt lT
        repeat' first | exact below_drewN hB1 _ | apply Below.drew | (refine Below.alloc ?_ (by simp <;> omega) _)
  case rest =>
    obtain ⟨f, rfl, hf, hF, hBc⟩ := hcut
    have hC2 := (hBc.block C hc).trans hC
    have hR2 := (hBc.block R hr).trans hR
    have e7 : wc.cell? ⟨C, 7, none⟩ = some (.pointer (some ⟨R, 0, none⟩)) := hp_cell hC2 7
    have e1 : wc.cell? ⟨R, 1, none⟩ = some (.string s1) := hp_cell hR2 1
    clear hC hR hC2 hR2 t0 t1 t2 d0 d2 d4 d7 r1 z0 z1 z2 hlen hlen0
    go_wp2_with fail
    go_quiet (fail)
    go_wp2_with fail
    go_ret3
    exact ⟨f, rfl, hf, hF, below_drewN hBc _⟩

end Go.Proofs.Qxb6614313a
