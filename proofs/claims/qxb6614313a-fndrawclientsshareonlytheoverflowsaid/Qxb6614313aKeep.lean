/-
  DERIVED. Seat b6614313a: ZZKeep, its first statement: the client is made.
-/
import Derived.Test.Qxb6614313aGive
import Derived.Deep.CutRange
import Derived.Deep.RegionLaw
import Derived.Deep.AppendLies
import Derived.Maps.OwnSet
namespace Go.Proofs.Qxb6614313a
open Go.RowKit Go.Maps

/-- The clients' eight cells; dv: the dues. -/
def cliObj (Z M O R : Nat) (bnd : Int) (dv : Value) : Obj := .cells #[.pointer (some ⟨Z, 0, none⟩), .string ⟨#[]⟩, .int .i64 bnd, .int .u64 0, .map (some M), dv, .pointer (some ⟨O, 0, none⟩), .pointer (some ⟨R, 0, none⟩)] 86

/-- A client's eleven cells: taken t, due at (N, S). -/
def clientObj (r c p bN bS t id N S : Int) : Obj := .cells #[.int .u64 (IntKind.u64.wrap r), .int .u64 (IntKind.u64.wrap c), .int .u64 (IntKind.u64.wrap p), .int .u64 bN, .int .i64 bS, .pointer none, .int .u64 t, .int .u64 id, .int .u64 N, .int .i64 S, .pointer none] 60

theorem newBucket_x (Z : Nat) (r c p N S : Int) (w : World) (hZ : Z < w.heap.size) (h : Size Z r c p w) :
    Calls Try.prog 35 #[.pointer (some ⟨Z, 0, none⟩), .agg #[.int .u64 N, .int .i64 S, .pointer none]] w fun e w' => e = .returned (.pointer (some ⟨w.heap.size + 1, 0, none⟩)) ∧ w' = ((w.alloc (timeObj N S)).alloc (.cells #[.int .u64 (IntKind.u64.wrap r), .int .u64 (IntKind.u64.wrap c), .int .u64 (IntKind.u64.wrap p), .int .u64 N, .int .i64 S, .pointer none, .int .u64 0] 58)).drew :=
  newBucket_any Z r c p N S w hZ h

/-- A pointer as a map's element: its block's number. -/
def ptrElem : Value → Option (DataW Unit × List MemPlace)
  | .pointer none => some (.nil, [])
  | .pointer (some ⟨k, 0, none⟩) => some (.lit (.int .i64 k), [])
  | _ => none

theorem law30 : Keyed Try.prog 30 := int_keyed Try.underlying30
theorem Try.info47 : (Try.prog.info? 47).map (fun i => (i.zero, i.size, i.bytes)) = some (some (.pointer none), 1, 8) := by kernel_rfl

theorem ownsMap_block {w w' : World} {b n : Nat} {D : DataW Unit} (h : w.ownsMap Try.prog 30 ptrElem b n D) (e : w'.heap[b]? = w.heap[b]?) : w'.ownsMap Try.prog 30 ptrElem b n D := by
  obtain ⟨es, clock, hb, rest⟩ := h
  exact ⟨es, clock, e.trans hb, rest⟩

theorem ownsRow_block {w w' : World} {base n : Nat} {v : Value} {xs : List Value} (h : w.ownsRow base 47 1 v n xs) (e : ∀ g, v.ownBlock = some g → w'.heap[g]? = w.heap[g]?) : w'.ownsRow base 47 1 v n xs := by
  obtain ⟨h1, h2 | ⟨g, cap, cur, rfl, hb, hg, rest⟩⟩ := h
  · exact ⟨h1, .inl h2⟩
  · exact ⟨h1, .inr ⟨g, cap, cur, rfl, hb, (e g rfl).trans hg, rest⟩⟩

/-- The row of the dues is none of the blocks of other types. -/
theorem ownsRow_ne {w : World} {base n k : Nat} {v : Value} {xs : List Value} {cs : Array Value} {T : TypeId} (h : w.ownsRow base 47 1 v n xs) (hk : w.heap[k]? = some (.cells cs T)) (hT : T ≠ 47) : v.ownBlock ≠ some k := by
  intro e
  obtain ⟨_, ⟨rfl, _⟩ | ⟨g, cap, cur, rfl, _, hg, _⟩⟩ := h
  · cases e
  · obtain rfl : g = k := Option.some.inj e
    rw [hk] at hg
    exact hT (by injection hg with hg; injection hg)

theorem ownsRow_neMap {w : World} {base n m k : Nat} {v : Value} {xs : List Value} {D : DataW Unit} (h : w.ownsRow base 47 1 v n xs) (hk : w.ownsMap Try.prog 30 ptrElem k m D) : v.ownBlock ≠ some k := by
  intro e
  obtain ⟨es, clock, hb, _⟩ := hk
  obtain ⟨_, ⟨rfl, _⟩ | ⟨g, cap, cur, rfl, _, hg, _⟩⟩ := h
  · cases e
  · obtain rfl : g = k := Option.some.inj e
    rw [hb] at hg
    cases hg

theorem one_new (w : World) (x : Value) (T : TypeId) : ∀ j u, ([x] : List Value)[j]? = some u → (w.alloc (.cells #[x] T)).cell? ((⟨w.heap.size, 0, none⟩ : Addr).add j) = some u := by
  intro j u hj
  match j, hj with
  | 0, hj => simp at hj; subst hj; simp [Addr.add]
  | j + 1, hj => simp at hj

theorem hp_set {w : World} {k j : Nat} {cs : Array Value} {T : TypeId} (h : w.heap[k]? = some (.cells cs T)) (v : Value) : (w.setCell ⟨k, j, none⟩ v).heap[k]? = some (.cells (cs.setIfInBounds j v) T) := by
  simp [World.setCell, Array.getElem?_modify, h]

theorem grown_drew {w w' : World} {row : Option Nat} (h : w.drew.grownBy w' row) : w.grownBy w' row := ⟨h.os, h.tape, h.output, h.size, h.block⟩

/-- What ZZKeep leaves. -/
def KeptPost (base C Z M O R n : Nat) (bnd : Int) (dv : Value) (xs : List Value) (D : DataW Unit) (r c p id d : Int) (w w' : World) : Prop :=
  ∃ k dv', w.heap.size ≤ k ∧ w'.heap[k]? = some (clientObj r c p 0 0 1 id (d % 1000000000) (d / 1000000000)) ∧ w'.heap[C]? = some (cliObj Z M O R bnd dv') ∧
    w'.ownsMap Try.prog 30 ptrElem M (n + 1) (D.put (.int .u64 id) (.lit (.int .i64 k))) ∧ w'.ownsRow base 47 1 dv' (n + 1) (xs ++ [.pointer (some ⟨k, 0, none⟩)]) ∧
    (∀ b, b < w.heap.size → b ≠ C → b ≠ M → dv.ownBlock ≠ some b → w'.heap[b]? = w.heap[b]?) ∧ Below base w w'

theorem keep_end {base C Z M O R n k g cap : Nat} {bnd r c p id d : Int} {dv : Value} {xs : List Value} {D D' : DataW Unit} {w wc w1 w2 : World} (hbC : base ≤ C) (hbM : base ≤ M)
    (hC : w.heap[C]? = some (cliObj Z M O R bnd dv)) (hM : w.ownsMap Try.prog 30 ptrElem M n D) (hr : w.ownsRow base 47 1 dv n xs) (hk : w.heap.size ≤ k)
    (hK : wc.heap[k]? = some (clientObj r c p 0 0 0 id (d % 1000000000) (d / 1000000000))) (hB : Below w.heap.size w wc) (hM2 : w1.ownsMap Try.prog 30 ptrElem M (n + 1) D') (hD : D' = D.put (.int .u64 id) (.lit (.int .i64 k)))
    (hg2 : (wc.setCell ⟨k, 6, none⟩ (.int .u64 1)).grownBy w1 (some M)) (hown3 : w2.ownsRow base 47 1 (.slice (some ⟨g, 0, none⟩) (n + 1) cap) (n + 1) (xs ++ [.pointer (some ⟨k, 0, none⟩)]))
    (hgrow3 : (w1.alloc (.cells #[.pointer (some ⟨k, 0, none⟩)] 47)).grownBy w2 dv.ownBlock) (hat : dv.ownBlock = some g ∨ g = w1.heap.size + 1) :
    KeptPost base C Z M O R n bnd dv xs D r c p id d w (w2.setCell ⟨C, 5, none⟩ (.slice (some ⟨g, 0, none⟩) (n + 1) cap)) := by
  subst hD
  have hc := hp_lt hC
  have hm := hM.lt
  have hcM : C ≠ M := by intro e; subst e; obtain ⟨es, cl, hb, _⟩ := hM; rw [hC] at hb; cases hb
  have hrC := ownsRow_ne hr hC (by decide)
  have hrM := ownsRow_neMap hr hM
  have hkc := hp_lt hK
  have hwz := hB.size
  have hs1 : wc.heap.size ≤ w1.heap.size := by have := hg2.size; simpa using this
  have hs2 : w1.heap.size + 1 ≤ w2.heap.size := by have := hgrow3.size; simpa using this
  have hrk : dv.ownBlock ≠ some k := by
    intro e
    have := (hr.lt k e).2
    omega
  have step : ∀ b, b < wc.heap.size → b ≠ M → b ≠ C → dv.ownBlock ≠ some b → (w2.setCell ⟨C, 5, none⟩ (.slice (some ⟨g, 0, none⟩) (n + 1) cap)).heap[b]? = (wc.setCell ⟨k, 6, none⟩ (.int .u64 1)).heap[b]? := by
    intro b hb hbM' hbC' hbr
    rw [Below.heap_setCell w2 ⟨C, 5, none⟩ _ b hbC', hgrow3.block b (by simp; omega) (fun e => hbr e.symm), hp_old _ _ _ (by omega), hg2.block b (by simpa using hb) (fun e => hbM' (Option.some.inj e))]
  have hC2 : w2.heap[C]? = some (cliObj Z M O R bnd dv) := by
    rw [hgrow3.block C (by simp; omega) (fun e => hrC e.symm), hp_old _ _ _ (by omega), hg2.block C (by simp; omega) (fun e => hcM (Option.some.inj e)), Below.heap_setCell wc ⟨k, 6, none⟩ _ C (by show C ≠ k; omega), hB.block C hc]
    exact hC
  have hgC : g ≠ C := by
    intro e
    subst e
    rcases hat with h | h
    · exact hrC h
    · omega
  refine ⟨k, .slice (some ⟨g, 0, none⟩) (n + 1) cap, hk, ?_, ?_, ?_, ?_, ?_, ?_⟩
  · rw [step k hkc (by omega) (by omega) hrk]
    exact hp_set hK _
  · exact hp_set hC2 _
  · refine ownsMap_block hM2 ?_
    rw [Below.heap_setCell w2 ⟨C, 5, none⟩ _ M (fun e => hcM e.symm), hgrow3.block M (by simp; omega) (fun e => hrM e.symm), hp_old _ _ _ (by omega)]
  · refine ownsRow_block hown3 ?_
    intro g' hg'
    obtain rfl : g = g' := Option.some.inj hg'
    exact Below.heap_setCell w2 ⟨C, 5, none⟩ _ g hgC
  · intro b hb hbC' hbM' hbr
    rw [step b (by omega) hbM' hbC' hbr, Below.heap_setCell wc ⟨k, 6, none⟩ _ b (by show b ≠ k; omega), hB.block b hb]
  · refine ⟨?_, ?_, ?_, ?_, ?_⟩
    · exact hgrow3.os.trans (hg2.os.trans hB.os)
    · exact hgrow3.tape.trans (hg2.tape.trans hB.tape)
    · exact hgrow3.output.trans (hg2.output.trans hB.output)
    · simp; omega
    · intro b hb
      have hbr : dv.ownBlock ≠ some b := by
        intro e
        have := (hr.lt b e).1
        omega
      rw [step b (by omega) (by omega) (by omega) hbr, Below.heap_setCell wc ⟨k, 6, none⟩ _ b (by show b ≠ k; omega), hB.block b (by omega)]

set_option maxHeartbeats 4000000 in
theorem keep_any (base s C Z M O R n : Nat) (bnd r c p id d : Int) (dv : Value) (xs : List Value) (D : DataW Unit) (cs : Array Value) (w : World) (hd : -9223372036854775808 ≤ d ∧ d ≤ 9223372036854775807) (hid : (Lit.int .u64 id).wf = true) (hn : n ≤ 4096)
    (hS : w.heap[s]? = some (.cells cs 80)) (hs3 : cs[3]? = some (.pointer (some ⟨C, 0, none⟩))) (hC : w.heap[C]? = some (cliObj Z M O R bnd dv)) (hZ : w.heap[Z]? = some (sizeObj r c p))
    (hM : w.ownsMap Try.prog 30 ptrElem M n D) (hr : w.ownsRow base 47 1 dv n xs) (hbC : base ≤ C) (hbM : base ≤ M) :
    Calls Try.prog 27 #[.pointer (some ⟨s, 0, none⟩), .int .u64 id, .int .i64 d] w fun e w' => e = .returned (.tuple #[]) ∧ KeptPost base C Z M O R n bnd dv xs D r c p id d w w' := by
  have hs := hp_lt hS
  have hc := hp_lt hC
  have hz := hp_lt hZ
  have hm := hM.lt
  have h3 := (hp_cell hS 3).trans hs3
  have h0 : w.cell? ⟨C, 0, none⟩ = some (.pointer (some ⟨Z, 0, none⟩)) := hp_cell hC 0
  obtain ⟨i0, hi, hz0, hz1, hz2⟩ := info_parts Try.info47
  have hrS := ownsRow_ne hr hS (by decide)
  have hrC := ownsRow_ne hr hC (by decide)
  have hrM := ownsRow_neMap hr hM
  go_enter Try.func27, Try.ntmps27
  go_upto_region 0 with fail
  go_cut [6] from 7 to 51 (fun v wc => ∃ k, v = .pointer (some ⟨k, 0, none⟩) ∧ w.heap.size ≤ k ∧ wc.heap[k]? = some (clientObj r c p 0 0 0 id (d % 1000000000) (d / 1000000000)) ∧ Below w.heap.size w wc)
  case first =>
    have s1 : s < w.heap.size + 1 := by omega
    have s2 : s < w.heap.size + 1 + 1 := by omega
    have s2' : s < w.heap.size + 2 := by omega
    have s3 : s < w.heap.size + 3 := by omega
    have c1 : C < w.heap.size + 1 := by omega
    have c2 : C < w.heap.size + 1 + 1 := by omega
    have c2' : C < w.heap.size + 2 := by omega
    have c3 : C < w.heap.size + 3 := by omega
    have z1 : Z < w.heap.size + 1 := by omega
    have z2 : Z < w.heap.size + 1 + 1 := by omega
    have z2' : Z < w.heap.size + 2 := by omega
    have z3 : Z < w.heap.size + 3 := by omega
    have zz0 : w.cell? ⟨Z, 0, none⟩ = some (.int .i64 r) := hp_cell hZ 0
    have zz1 : w.cell? ⟨Z, 1, none⟩ = some (.int .i64 c) := hp_cell hZ 1
    have zz2 : w.cell? ⟨Z, 2, none⟩ = some (.int .i64 p) := hp_cell hZ 2
    clear hS hC hZ hM hr hrS hrC hrM hs3
    go_region_with (first
      | (go_at_call 35; refine (newBucket_x Z r c p 0 0 _ (by simp <;> omega) ⟨by go_simp, by go_simp, by go_simp⟩).mono ?_; rintro e w' ⟨rfl, rfl⟩)
      | (go_at_call 16; refine (at_any d _ hd).mono ?_; rintro e w' ⟨rfl, rfl⟩))
    all_goals
      go_wp2_with fail
      go_meet
      refine ⟨_, rfl, ?_, ?_, ?_⟩
      · omega
      · simp only [hp_drew]
        exact hp_new _ _ _ (by simp)
      · repeat' first | exact Below.refl _ _ | apply Below.drew | (refine Below.alloc ?_ (by simp <;> omega) _)
  case rest =>
    obtain ⟨k, rfl, hk, hK, hB⟩ := hcut
    have k6 : wc.cell? ⟨k, 6, none⟩ = some (.int .u64 0) := hp_cell hK 6
    have f6 := hp_frozen hK 6
    have hS1 := (hB.block s hs).trans hS
    have hC1 := (hB.block C hc).trans hC
    have g3 := (hp_cell hS1 3).trans hs3
    have g4 : wc.cell? ⟨C, 4, none⟩ = some (.map (some M)) := hp_cell hC1 4
    have hsk : s ≠ k := by omega
    have hck : C ≠ k := by omega
    have hmk : M ≠ k := by omega
    have hM1 : (wc.setCell ⟨k, 6, none⟩ (.int .u64 1)).ownsMap Try.prog 30 ptrElem M n D := ownsMap_block hM ((Below.heap_setCell wc ⟨k, 6, none⟩ _ M hmk).trans (hB.block M hm))
    clear h3 h0
    go_wp2_with (at_mapUpdate; refine wpList_mapUpdate_own _ rfl _ _ _ 84 rfl 30 47 law30 Try.underlying84 ptrElem M n D rfl hM1 (by unfold maxLen; omega) _ _ _ rfl rfl (keyOf_int_mk Try.underlying30 hid) (.lit (.int .i64 k)) [] rfl ?_; intro w1 hM2 hg2)
    go_frame
    have hsz1 : wc.heap.size ≤ w1.heap.size := by have := hg2.size; simpa using this
    have hwz := hB.size
    have hM0 : ∀ b, b < w.heap.size → b ≠ M → w1.heap[b]? = w.heap[b]? := fun b hb hne => (hg2.block b (by simp; omega) (by intro e; exact hne (Option.some.inj e))).trans ((Below.heap_setCell wc ⟨k, 6, none⟩ _ b (by show b ≠ k; omega)).trans (hB.block b hb))
    have hsM : s ≠ M := by intro e; subst e; obtain ⟨es, cl, hb, _⟩ := hM; rw [hS] at hb; cases hb
    have hcM : C ≠ M := by intro e; subst e; obtain ⟨es, cl, hb, _⟩ := hM; rw [hC] at hb; cases hb
    have hS2 := (hM0 s hs hsM).trans hS
    have hC2 := (hM0 C hc hcM).trans hC
    have g3' := (hp_cell hS2 3).trans hs3
    have g5 : w1.cell? ⟨C, 5, none⟩ = some dv := hp_cell hC2 5
    have f5 := hp_frozen hC2 5
    have hr2 : w1.ownsRow base 47 1 dv n xs := ownsRow_block hr (fun g hg => hM0 g (hr.lt g hg).2 (by intro e; subst e; exact hrM hg))
    have hs1 : s < w1.heap.size := by omega
    have hc1 : C < w1.heap.size := by omega
    clear g3 g4 k6 f6 hM1
    go_region_law ((refine step_append_lies _ (by rfl) (.tmp 46) (.tmp 48) 25 (by rfl) base 47 i0 (.pointer none) 1 8 Try.underlying25 hi hz0 hz1 hz2 rfl (by decide) dv n xs (by rfl) (hr2.alloc _) ⟨w1.heap.size, 0, none⟩ 1 1 [.pointer (some ⟨k, 0, none⟩)] (by rfl) rfl (by exact one_new w1 _ _) (by intro u hu; simp at hu; subst hu; rfl) (by omega) (by unfold maxLen; omega) (by omega) (by simp; omega) (w1.heap.size + 1) (by simp) ?_; intro g cap w2 hown3 hgrow3 hat hlt; have q5 : w2.cell? ⟨C, 5, none⟩ = some dv := (hgrow3.cell_far ⟨C, 5, none⟩ (by simp; omega) (fun e => hrC e.symm)).trans (by go_simp); have q3 : w2.cell? ⟨s, 3, none⟩ = some (.pointer (some ⟨C, 0, none⟩)) := (hgrow3.cell_far ⟨s, 3, none⟩ (by simp; omega) (fun e => hrS e.symm)).trans (by go_simp); have p5 : w2.frozen? ⟨C, 5, none⟩ = false := (hgrow3.frozen_far ⟨C, 5, none⟩ (by simp; omega) (fun e => hrC e.symm)).trans (by go_simp)))
    all_goals
      go_end0
      exact ⟨rfl, keep_end hbC hbM hC hM hr hk hK hB hM2 rfl hg2 hown3 (grown_drew hgrow3) hat⟩

end Go.Proofs.Qxb6614313a
