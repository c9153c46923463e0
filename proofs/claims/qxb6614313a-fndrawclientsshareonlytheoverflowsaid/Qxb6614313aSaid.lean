/-
  DERIVED. Seat b6614313a: THE STATEMENT 'Rows.FnDrawClientsShareOnlyTheOverflowSaid'. The walk is law_yes ¦ law_no; here the arguments are opened, and read again behind the call.
-/
import Derived.Test.Qxb6614313aRows
import Derived.Test.Qxb6614313aLawYes
import Derived.ProofKit
import Derived.WalkKit
import Derived.OpenShut
import Derived.ChangeSlices
import Derived.ChangeSame
import Derived.JoinedOf
import Derived.Carry
namespace Go.Proofs.Qxb6614313a
open Go.ChangeShapes Go.WideShapes Go.ChangeAt Go.RowKit

theorem Try.own : ownKnob Try.prog.godebug = none := by kernel_rfl
theorem Try.laidOut : laidOutB Try.pinned.checked.prog = true := by kernel_rfl
theorem Try.cells30 : Try.prog.cellsOf 30 = 1 := by kernel_rfl
theorem Try.cells2 : Try.prog.cellsOf 2 = 1 := by kernel_rfl
theorem Try.cells32 : Try.prog.cellsOf 32 = 10 := by kernel_rfl
theorem Try.cellTypes32 : Try.prog.cellTypes Try.prog.depth 32 = some [4, 9, 9, 9, 9, 4, 3, 3, 3, 2] := by kernel_rfl

section
variable {P : Program} {w : World} {r : Reach} {base : Nat} {u : TypeId} {v : Value}
theorem cell_bool (hu : P.underlying u = some .bool) (h : Cell.okWide P w r base u v) : ∃ x, v = .bool x := okWide_bool hu (by unfold Value.okWide; rw [hu]; exact h)
theorem cell_string (hu : P.underlying u = some .string) (h : Cell.okWide P w r base u v) : ∃ x, v = .string x := okWide_string hu (by unfold Value.okWide; rw [hu]; exact h)
theorem cell_int {k : IntKind} (hu : P.underlying u = some (.int k)) (h : Cell.okWide P w r base u v) : ∃ x, v = .int k x := okWide_int hu (by unfold Value.okWide; rw [hu]; exact h)
theorem struct_row {t : TypeId} {fs : Array Field} (ht : P.underlying t = some (.struct fs)) (h : Value.okWide P w r base t v) : ∃ cs, v = .agg cs ∧ cs.size = P.cellsOf t ∧ Row.okWide P w r base t cs := by
  unfold Value.okWide at h
  rw [ht] at h
  exact h
theorem row_cell {t : TypeId} {cs : Array Value} {ts : List TypeId} (h : Row.okWide P w r base t cs) (hts : P.cellTypes P.depth t = some ts) (hsz : cs.size = ts.length) (i : Nat) (hi : i < ts.length) (hu : ts[i]? = some u) : ∃ v, cs[i]? = some v ∧ Cell.okWide P w r base u v := by
  obtain ⟨ts', hts', _, hc⟩ := h
  obtain rfl : ts = ts' := Option.some.inj (hts.symm.trans hts')
  have hlt : i < cs.size := by omega
  refine ⟨cs[i], Array.getElem?_eq_getElem hlt, ?_⟩
  obtain ⟨u', hu', hv⟩ := hc i cs[i] (Array.getElem?_eq_getElem hlt)
  rw [Nat.mod_eq_of_lt hi, hu] at hu'
  obtain rfl := Option.some.inj hu'
  exact hv
end

set_option maxRecDepth 100000 in
/-- The shape, written out. -/
theorem shape_arg {W : World} {r : Reach} {base : Nat} {v : Value} (h : Value.okWide Try.prog W r base 32 v) :
    ∃ (hsh hcl : Bool) (lt sh cl ov : ByteArray) (bnd r c p : Int), v = .agg #[.bool hsh, .string lt, .string sh, .string cl, .string ov, .bool hcl, .int .i64 bnd, .int .i64 r, .int .i64 c, .int .i64 p] := by
  obtain ⟨cs, rfl, hsz, hrow⟩ := struct_row (P := Try.prog) (t := 32) (w := W) (r := r) (base := base) (v := v) Try.underlying32 h
  rw [Try.cells32] at hsz
  obtain ⟨v0, e0, k0⟩ := row_cell hrow Try.cellTypes32 hsz 0 (by decide) rfl
  obtain ⟨v1, e1, k1⟩ := row_cell hrow Try.cellTypes32 hsz 1 (by decide) rfl
  obtain ⟨v2, e2, k2⟩ := row_cell hrow Try.cellTypes32 hsz 2 (by decide) rfl
  obtain ⟨v3, e3, k3⟩ := row_cell hrow Try.cellTypes32 hsz 3 (by decide) rfl
  obtain ⟨v4, e4, k4⟩ := row_cell hrow Try.cellTypes32 hsz 4 (by decide) rfl
  obtain ⟨v5, e5, k5⟩ := row_cell hrow Try.cellTypes32 hsz 5 (by decide) rfl
  obtain ⟨v6, e6, k6⟩ := row_cell hrow Try.cellTypes32 hsz 6 (by decide) rfl
  obtain ⟨v7, e7, k7⟩ := row_cell hrow Try.cellTypes32 hsz 7 (by decide) rfl
  obtain ⟨v8, e8, k8⟩ := row_cell hrow Try.cellTypes32 hsz 8 (by decide) rfl
  obtain ⟨v9, e9, k9⟩ := row_cell hrow Try.cellTypes32 hsz 9 (by decide) rfl
  obtain ⟨x0, rfl⟩ := cell_bool Try.underlying4 k0
  obtain ⟨x1, rfl⟩ := cell_string Try.underlying9 k1
  obtain ⟨x2, rfl⟩ := cell_string Try.underlying9 k2
  obtain ⟨x3, rfl⟩ := cell_string Try.underlying9 k3
  obtain ⟨x4, rfl⟩ := cell_string Try.underlying9 k4
  obtain ⟨x5, rfl⟩ := cell_bool Try.underlying4 k5
  obtain ⟨x6, rfl⟩ := cell_int Try.underlying3 k6
  obtain ⟨x7, rfl⟩ := cell_int Try.underlying3 k7
  obtain ⟨x8, rfl⟩ := cell_int Try.underlying3 k8
  obtain ⟨x9, rfl⟩ := cell_int Try.underlying2 k9
  refine ⟨x0, x5, x1, x2, x3, x4, x6, x7, x8, x9, congrArg Value.agg ?_⟩
  clear hrow h k0 k1 k2 k3 k4 k5 k6 k7 k8 k9
  apply Array.ext_getElem?
  intro i
  match i with
  | 0 => exact e0
  | 1 => exact e1
  | 2 => exact e2
  | 3 => exact e3
  | 4 => exact e4
  | 5 => exact e5
  | 6 => exact e6
  | 7 => exact e7
  | 8 => exact e8
  | 9 => exact e9
  | i + 10 => rw [Array.getElem?_eq_none (by omega), Array.getElem?_eq_none (by simp)]

/-- A slice of integers that came in, read. -/
theorem ints_arg {H : Type} {enc : TypeId × Value → H} {W : World} {t e : TypeId} {k : IntKind} {a0 : Option Addr} {len cap : Nat} {d : DataW H} {p : List MemPlace} (ht : Try.prog.underlying t = some (.slice e)) (he : Try.prog.underlying e = some (.int k)) (hc : Try.prog.cellsOf e = 1) (h : DataW.Trod enc Try.prog W 0 (fun _ => true) true t (.slice a0 len cap) d p) :
    ∃ zs : Nat → Int, Ints k a0 len zs W ∧ ∀ j, j < len → (Lit.int k (zs j)).wf = true := by
  obtain ⟨fuel, hf⟩ := h
  rcases open_ints ht he hc hf with ⟨hcs, hx⟩ | ⟨a, len', cap', zs, hcs, _, hl, hm, hz, hx, hcell, hwz⟩
  · simp [Value.cells] at hcs
    obtain ⟨rfl, rfl, rfl⟩ := hcs
    exact ⟨fun _ => 0, fun h => absurd h (Nat.lt_irrefl 0), fun j hj => absurd hj (Nat.not_lt_zero j)⟩
  · simp [Value.cells] at hcs
    obtain ⟨rfl, rfl, rfl⟩ := hcs
    simp only [if_true] at hz
    refine ⟨fun j => zs.getD j 0, fun hpos => ?_, fun j hj => ?_⟩
    · have hc0 := hcell 0 (by omega)
      rw [Addr.add_zero'] at hc0
      obtain ⟨b, o, sp⟩ := a
      have hb : b < W.heap.size := by
        rcases Nat.lt_or_ge b W.heap.size with h | h
        · exact h
        · simp [World.cell?, Array.getElem?_eq_none h] at hc0
      have hsp : sp = none := by
        cases sp with
        | none => rfl
        | some q =>
          simp only [World.cell?] at hc0
          split at hc0 <;> simp at hc0
      subst hsp
      refine ⟨b, o, rfl, hb, fun t ht => ?_⟩
      have hct := hcell t (by omega)
      have ha : (⟨b, o, none⟩ : Addr).add t = ⟨b, o + t, none⟩ := by unfold Addr.add; split <;> simp_all
      rw [ha] at hct
      exact hct
    · have hlt : j < zs.length := by omega
      have e : zs.getD j 0 = zs[j] := by simp [List.getD, List.getElem?_eq_getElem hlt]
      show (Lit.int k (zs.getD j 0)).wf = true
      rw [e]
      exact hwz _ (List.getElem_mem hlt)

theorem law_any (a b now : Int) (hsh hcl : Bool) (lt sh cl ov : ByteArray) (bnd r c p : Int) (io dO : Option Addr) (li ci ld cd : Nat) (ids dues : Nat → Int) (w : World) (hnow : (Lit.int .i64 now).wf = true) (ha : (Lit.int .u64 a).wf = true) (hb : (Lit.int .u64 b).wf = true) (hI : Ints .u64 io li ids w) (hD : Ints .i64 dO ld dues w)
    (hwf : ∀ j, j < li → (Lit.int .u64 (ids j)).wf = true) (hdr : ∀ j, j < ld → (Lit.int .i64 (dues j)).wf = true) :
    Calls Try.prog 4 #[.int .u64 a, .int .u64 b, .int .i64 now, .agg #[.bool hsh, .string lt, .string sh, .string cl, .string ov, .bool hcl, .int .i64 bnd, .int .i64 r, .int .i64 c, .int .i64 p], .slice io li ci, .slice dO ld cd] w fun e w' => e = .returned (.bool true) ∧ Below w.heap.size w w' := by
  have rng : ∀ x : Int, (Lit.int .i64 x).wf = true → -9223372036854775808 ≤ x ∧ x ≤ 9223372036854775807 := fun x hx => by
    simpa [Lit.wf, IntKind.min, IntKind.max, IntKind.signed, IntKind.bits] using hx
  cases hcl
  · exact law_no a b now hsh lt sh cl ov bnd r c p io dO li ci ld cd ids w (rng now hnow) hI
  · exact law_yes a b now hsh lt sh cl ov bnd r c p io dO li ci ld cd ids dues w (rng now hnow) ha hb hI hD hwf (fun j hj => rng _ (hdr j hj))

set_option maxRecDepth 100000 in
theorem lifted (os : Os) (started : os.Started) (H : Type) (enc : TypeId × Value → H) :
    ReturnsInHanded {} Try.checked os 4 .any (Rows.fnDrawClientsShareOnlyTheOverflowSpec.pre6 enc Try.prog Try.f4 Rows.fnDrawClientsShareOnlyTheOverflowRow.domain false) (Rows.fnDrawClientsShareOnlyTheOverflowSpec.post enc Try.prog Try.f4 false true false false) := by
  refine returnsInHanded_of_change (C := Try.checked) Try.own started (by kernel_rfl) Try.func4
    (ChangeSpec.witness6 (enc := enc) (C := Try.checked) false ⟨#[], #[.int .u64 0, .int .u64 0, .int .i64 0, .agg #[.bool false, .string ⟨#[]⟩, .string ⟨#[]⟩, .string ⟨#[]⟩, .string ⟨#[]⟩, .bool false, .int .i64 0, .int .i64 0, .int .i64 0, .int .i64 0], .slice none 0 0, .slice none 0 0], []⟩ 8 (by kernel_rfl) (by kernel_rfl) (by kernel_rfl) (by kernel_rfl)) ?_
  intro W base args ds gs before hval0 hW hcnd _
  have hval : ∀ (j : Nat) t v, Try.f4.params[j]? = some t → args[j]? = some v → Value.okWide Try.prog W .any base t v := hval0
  have hW' := hW
  obtain ⟨p, q, hA0, hV, rfl, hfz, hnd⟩ := hW
  have hA : DataW.TrodAll enc Try.prog W 0 (fun _ => true) true Try.f4.params.toList args.toList ds p := hA0
  rw [Try.params4] at hA hval
  obtain ⟨v0, vs0, d0, ds0, p0, q0, hargs0, rfl, rfl, h0, r0⟩ := trodAll_cons hA
  obtain ⟨v1, vs1, d1, ds1, p1, q1, hargs1, rfl, rfl, h1, r1⟩ := trodAll_cons r0
  obtain ⟨v2, vs2, d2, ds2, p2, q2, hargs2, rfl, rfl, h2, r2⟩ := trodAll_cons r1
  obtain ⟨v3, vs3, d3, ds3, p3, q3, hargs3, rfl, rfl, h3, r3⟩ := trodAll_cons r2
  obtain ⟨v4, vs4, d4, ds4, p4, q4, hargs4, rfl, rfl, h4, r4⟩ := trodAll_cons r3
  obtain ⟨v5, vs5, d5, ds5, p5, q5, hargs5, rfl, rfl, h5, r5⟩ := trodAll_cons r4
  obtain ⟨rfl, rfl, rfl⟩ := trodAll_nil r5
  subst hargs1 hargs2 hargs3 hargs4 hargs5
  obtain rfl : args = #[v0, v1, v2, v3, v4, v5] := by cases args; simp_all
  obtain ⟨rfl, rfl⟩ := trodVars_none hV
  obtain ⟨a, rfl, rfl, rfl, wa⟩ := open_int Try.underlying30 (hval 0 30 v0 rfl rfl) h0
  obtain ⟨b, rfl, rfl, rfl, wb⟩ := open_int Try.underlying30 (hval 1 30 v1 rfl rfl) h1
  obtain ⟨now, rfl, rfl, rfl, wn⟩ := open_int Try.underlying2 (hval 2 2 v2 rfl rfl) h2
  obtain ⟨hsh, hcl, lt, sh, cl, ov, bnd, rr, cc, pp, rfl⟩ := shape_arg (hval 3 32 v3 rfl rfl)
  obtain ⟨io, li, ci, rfl⟩ := okWide_slice Try.underlying33 (hval 4 33 v4 rfl rfl)
  obtain ⟨dO, ld, cd, rfl⟩ := okWide_slice Try.underlying22 (hval 5 22 v5 rfl rfl)
  clear hA0 hval0
  simp only [List.append_nil, List.nil_append] at hW'
  have hlt : ∀ x ∈ p3 ++ (p4 ++ p5), x.block < W.heap.size := fun x hx => hW'.lt x hx
  obtain ⟨ids, hI, wI⟩ := ints_arg Try.underlying33 Try.underlying30 Try.cells30 h4
  obtain ⟨dues, hD, wD⟩ := ints_arg Try.underlying22 Try.underlying2 Try.cells2 h5
  refine (law_any a b now hsh hcl lt sh cl ov bnd rr cc pp io dO li ci ld cd ids dues W wn wa wb hI hD wI wD).mono fun e W' ⟨he, hn⟩ => ?_
  subst he
  have s3 : DataW.Trod enc Try.prog W' 0 (fun b => decide (b < W.heap.size)) true 32 (.agg #[.bool hsh, .string lt, .string sh, .string cl, .string ov, .bool hcl, .int .i64 bnd, .int .i64 rr, .int .i64 cc, .int .i64 pp]) d3 p3 :=
    Below.trod Try.laidOut (by kernel_rfl) (of_decide_eq_true (by kernel_rfl)) h3 hn (fun x hx => hlt x (List.mem_append_left _ hx))
  have s4 : DataW.Trod enc Try.prog W' 0 (fun b => decide (b < W.heap.size)) true 33 (.slice io li ci) d4 p4 :=
    Below.trod Try.laidOut (by kernel_rfl) (of_decide_eq_true (by kernel_rfl)) h4 hn (fun x hx => hlt x (List.mem_append_right _ (List.mem_append_left _ hx)))
  have s5 : DataW.Trod enc Try.prog W' 0 (fun b => decide (b < W.heap.size)) true 22 (.slice dO ld cd) d5 p5 :=
    Below.trod Try.laidOut (by kernel_rfl) (of_decide_eq_true (by kernel_rfl)) h5 hn (fun x hx => hlt x (List.mem_append_right _ (List.mem_append_right _ hx)))
  refine ⟨_, rfl, _, _, _, [], [] ++ ([] ++ ([] ++ (p3 ++ (p4 ++ (p5 ++ []))))), [], hW', ?_, ?_, rfl, hn.frame _, fun h => by cases h⟩
  · exact trodAll_mk1 (shut_bool Try.underlying4 true)
  · exact trodAll_cons_mk (shut_int Try.underlying30 wa) (trodAll_cons_mk (shut_int Try.underlying30 wb) (trodAll_cons_mk (shut_int Try.underlying2 wn) (trodAll_cons_mk s3 (trodAll_cons_mk s4 (trodAll_cons_mk s5 trodAll_mk0)))))

/-- THE STATEMENT. -/
theorem fnDrawClientsShareOnlyTheOverflow_holds : Rows.FnDrawClientsShareOnlyTheOverflowSaid :=
  OpenClaim.holds_of_wide 4 Try.f4 rfl rfl rfl rfl rfl rfl rfl ⟨rfl, rfl, rfl, rfl, rfl⟩ rfl rfl rfl rfl rfl (by kernel_rfl) Try.func4 (by kernel_rfl)
    (of_decide_eq_true (by kernel_rfl)) (by unfold Func.isWrapper; first | (rw [if_pos (by decide +kernel)]; kernel_rfl) | (rw [if_neg (by decide +kernel)]; exact ⟨rfl, rfl⟩))
    (fun os started H enc _ => lifted os started H enc)

end Go.Proofs.Qxb6614313a
