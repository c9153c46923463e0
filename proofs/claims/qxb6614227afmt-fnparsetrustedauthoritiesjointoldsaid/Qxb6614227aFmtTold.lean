/-
  DERIVED. Seat b6614227aF: THE TOLD CARD OF FnParseTrustedAuthoritiesJoin, PROVED. fmt's text is told by the authors' own function (not proved from fmt's source); of it the proof uses only that the text 'trusted authority %d' is short.
-/
import Derived.Test.Qxb6614227aFmtCards
import Derived.Test.Qxb6614227aFmtJoin
import Derived.ProofKit
import Derived.ChangeSlices
import Derived.ChangeSame
import Derived.ChangeMaps5
import Derived.JoinedOf
import Derived.Carry
import Derived.Stop.JoinedAt
import Derived.Stop.Texts
import Derived.Stop.JoinedTold
import Derived.Stop.FmtTextKit
import Derived.SizedLaws
import Derived.SevenToldRow
namespace Go.Proofs.Qxb6614227aFmt
open Go.ChangeShapes Go.WideShapes Go.ChangeAt Go.RowKit Go.Kit
open Go.Extern.Stop Go.Stop Go.Extern

theorem Tryf.own : ownKnob Tryf.prog.godebug = none := by kernel_rfl
theorem Tryf.laidOut : laidOutB Tryf.pinned.checked.prog = true := by kernel_rfl
theorem Tryf.cells5 : Tryf.prog.cellsOf 5 = 1 := by kernel_rfl

-- trusted authority and a number
theorem r3_parse : (FmtText.parse [116, 114, 117, 115, 116, 101, 100, 32, 97, 117, 116, 104, 111, 114, 105, 116, 121, 32, 37, 100]).map FmtText.glue = some [.lit [116, 114, 117, 115, 116, 101, 100, 32, 97, 117, 116, 104, 111, 114, 105, 116, 121, 32], .verb {} 100] := by rfl

theorem r3_text (i : Int) (hw : (Lit.int .i64 i).wf = true) : FmtText.text "fmt.Sprintf" (r3 i) = some ([116, 114, 117, 115, 116, 101, 100, 32, 97, 117, 116, 104, 111, 114, 105, 116, 121, 32] ++ Lib.itoa i) := by
  have hi := FmtText.operand_int_at (sh := Tryf.shape3) (k := .i64) rfl rfl i hw
  rw [r3, FmtText.text_sprintf_glued r3_parse (FmtText.operands_cons hi FmtText.operands_nil)]
  simp [FmtText.render, FmtText.printArg_d _ _ hw]

theorem r3_short (F : Interp) (i : Int) (h0 : 0 ≤ i) (h1 : i ≤ 70000) : (FmtStop.textOf (F.told "fmt.Sprintf" (r3 i) 0)).size ≤ 1000 := by
  have hw : (Lit.int .i64 i).wf = true := by simp [Lit.wf, IntKind.min, IntKind.max, IntKind.signed, IntKind.bits]; omega
  have hl := FmtText.itoa_length_le hw
  have ht := told_string F (r3_text i hw) (by simp; omega)
  have hs := textOf_list F.told "fmt.Sprintf" (r3 i)
  rw [ht] at hs
  have : (FmtStop.textOf (F.told "fmt.Sprintf" (r3 i) 0)).size = (FmtStop.textOf (F.told "fmt.Sprintf" (r3 i) 0)).data.toList.length := (Array.length_toList).symm
  rw [this, hs]
  simp
  omega

/-- A slice of bytes that came in, as a source. -/
theorem src_arg {H : Type} {enc : TypeId × Value → H} {W : World} {a0 : Option Addr} {len cap : Nat} {d : DataW H} {p : List MemPlace} (h : DataW.Trod enc Tryf.prog W 0 (fun _ => true) true 22 (.slice a0 len cap) d p) :
    ∃ A, Src a0 len cap A W ∧ len ≤ maxLen := by
  obtain ⟨fuel, hf⟩ := h
  rcases open_ints Tryf.underlying22 Tryf.underlying5 Tryf.cells5 hf with ⟨hcs, hx⟩ | ⟨a, len', cap', zs, hcs, _, hl, hm, hz, hx, hcell, hwz⟩
  · simp [Value.cells] at hcs
    obtain ⟨rfl, rfl, rfl⟩ := hcs
    exact ⟨[], src_nil W, Nat.zero_le _⟩
  · simp [Value.cells] at hcs
    obtain ⟨rfl, rfl, rfl⟩ := hcs
    simp only [if_true] at hz
    have hlen : (zs.take len).length = len := by rw [List.length_take]; omega
    have hc : ∀ j v, ((zs.take len).map (Value.int .u8))[j]? = some v → W.cell? (a.add j) = some v := by
      intro j v hj
      rw [List.getElem?_map] at hj
      obtain ⟨z, hz1, rfl⟩ := Option.map_eq_some_iff.1 hj
      have hjl : j < len := by
        have := (List.getElem?_eq_some_iff.1 hz1).1
        omega
      rw [hcell j (by omega)]
      rw [List.getElem?_take_of_lt hjl] at hz1
      simp [List.getD, hz1]
    refine ⟨zs.take len, ⟨hlen, fun h => (by cases h), fun ad e hne => ?_, fun ad e j u hj => ?_, fun y hy => ?_⟩, by omega⟩
    · cases e
      have h0 : 0 < len := by
        rcases Nat.eq_zero_or_pos len with h | h
        · subst h; simp at hne
        · exact h
      have hc0 := hcell 0 (by omega)
      rw [Addr.add_zero'] at hc0
      rcases Nat.lt_or_ge a.block W.heap.size with h | h
      · exact h
      · simp [World.cell?, Array.getElem?_eq_none h] at hc0
    · cases e
      exact hc j u hj
    · have hw := hwz y (List.mem_of_mem_take hy)
      simpa [Lit.wf, IntKind.min, IntKind.max, IntKind.signed, IntKind.bits] using hw

theorem join_any (F : Interp) (ao bo : Option Addr) (la ca lb cb : Nat) (A B : List Int) (t : Int) (w : World) (hF : F.told.answers w.tape)
    (hla : la ≤ maxLen) (hlb : lb ≤ maxLen) (ht : 0 ≤ t ∧ t ≤ 255) (ha : Src ao la ca A w) (hb : Src bo lb cb B w) :
    Calls Tryf.prog 5 #[.slice ao la ca, .slice bo lb cb, .int .u8 t] w fun e w' => e = .returned (.bool true) ∧ Below w.heap.size w w' := by
  by_cases h : la ≤ 32767 ∧ lb ≤ 32767
  · exact join_short F.told (r3_short F) ao bo la ca lb cb A B t w hF h.1 h.2 ht ha hb
  · exact join_long ao bo la ca lb cb t w hla hlb (by omega)

set_option maxRecDepth 100000 in
theorem t_lifted (os : Os) (started : os.Started) (H : Type) (enc : TypeId × Value → H) :
    ReturnsInTold none {} Tryf.checked os 5 .any Input.okWide ((OpenSpec.ofChange Rows.fnParseTrustedAuthoritiesJoinSpec).preRow enc Tryf.prog Tryf.f5 [] false []) (fun F => ((OpenSpec.ofChange Rows.fnParseTrustedAuthoritiesJoinSpec).at F).post enc Tryf.prog Tryf.f5 false true false false) (aloneAtReturn Tryf.prog) nothingAlways := by
  refine returnsInTold_of_row (C := Tryf.checked) (s := OpenSpec.ofChange Rows.fnParseTrustedAuthoritiesJoinSpec) (by kernel_rfl) Tryf.own started (by kernel_rfl) Tryf.func5
    (OpenSpec.witness_stopped (enc := enc) (C := Tryf.checked) false ⟨#[], #[.slice none 0 0, .slice none 0 0, .int .u8 0], []⟩ 8 (by kernel_rfl) (by kernel_rfl) (by kernel_rfl) (by kernel_rfl)) ?_
  intro F W base args ds gs before _ hF hval0 hW _ _ _ _ _
  have hval : ∀ (j : Nat) t v, Tryf.f5.params[j]? = some t → args[j]? = some v → Value.okWide Tryf.prog W .any base t v := hval0
  have hW' := hW
  obtain ⟨p, q, hA0, hV, rfl, _, _⟩ := hW
  have hA : DataW.TrodAll enc Tryf.prog W 0 (fun _ => true) true Tryf.f5.params.toList args.toList ds p := hA0
  rw [Tryf.params5] at hA hval
  obtain ⟨v0, v1, v2, d0, d1, d2, p0, p1, p2, rfl, rfl, rfl, h0, h1, h2⟩ := trodAll_three hA
  obtain ⟨rfl, rfl⟩ := trodVars_none hV
  obtain ⟨a0, la, ca, rfl⟩ := okWide_slice Tryf.underlying22 (hval 0 22 v0 rfl rfl)
  obtain ⟨b0, lb, cb, rfl⟩ := okWide_slice Tryf.underlying22 (hval 1 22 v1 rfl rfl)
  obtain ⟨t, rfl, rfl, rfl, wt⟩ := open_int Tryf.underlying5 (hval 2 5 v2 rfl rfl) h2
  clear hA0 hval0
  simp only [List.append_nil] at hW'
  have hlt : ∀ x ∈ p0 ++ p1, x.block < W.heap.size := fun x hx => by simpa using hW'.lt x hx
  obtain ⟨A, sA, lA⟩ := src_arg h0
  obtain ⟨B, sB, lB⟩ := src_arg h1
  have ht : 0 ≤ t ∧ t ≤ 255 := by
    have hw := wt
    simpa [Lit.wf, IntKind.min, IntKind.max, IntKind.signed, IntKind.bits] using hw
  refine (join_any F a0 b0 la ca lb cb A B t W hF lA lB ht sA sB).mono fun e W' ⟨he, hn⟩ => ?_
  subst he
  have r0 : DataW.Trod enc Tryf.prog W' 0 (fun b => decide (b < W.heap.size)) true 22 (.slice a0 la ca) d0 p0 :=
    Below.trod Tryf.laidOut (by kernel_rfl) (of_decide_eq_true (by kernel_rfl)) h0 hn (fun x hx => hlt x (List.mem_append_left _ hx))
  have r1 : DataW.Trod enc Tryf.prog W' 0 (fun b => decide (b < W.heap.size)) true 22 (.slice b0 lb cb) d1 p1 :=
    Below.trod Tryf.laidOut (by kernel_rfl) (of_decide_eq_true (by kernel_rfl)) h1 hn (fun x hx => hlt x (List.mem_append_right _ hx))
  refine ⟨_, rfl, _, _, _, [], p0 ++ (p1 ++ []), [], hW', ?_, ?_, rfl, hn.frame _, fun h => by cases h⟩
  · exact trodAll_mk1 (shut_bool Tryf.underlying4 true)
  · exact trodAll_mk3 r0 r1 (shut_int Tryf.underlying5 wt)

theorem Tryf.stopKnobs : Tryf.pinned.checked.prog.stopKnobs = [] := by kernel_rfl
theorem Tryf.quiet (os : Os) : Stop.quiet Tryf.pinned.checked.prog os := by
  intro k hk
  rw [Tryf.stopKnobs] at hk
  cases hk

theorem fnParseTrustedAuthoritiesJoin_holds : Rows.FnParseTrustedAuthoritiesJoinToldSaid :=
  Claim7.holds_of_told_any 5 Tryf.f5 _ [] [] _ _ _ (by kernel_rfl) rfl rfl rfl Tryf.laidOut (by kernel_rfl) rfl ⟨rfl, rfl, rfl, rfl, rfl, rfl, rfl⟩ rfl rfl (by kernel_rfl) (by kernel_rfl) Tryf.func5 (by kernel_rfl)
    (of_decide_eq_true (by kernel_rfl)) (of_decide_eq_true (by kernel_rfl)) (by kernel_rfl) rfl Tryf.stopKnobs.symm (by kernel_rfl)
    (by kernel_rfl) (by kernel_rfl) (by kernel_rfl) (by kernel_rfl) (by kernel_rfl) (by kernel_rfl) (by kernel_rfl) (by kernel_rfl) (by kernel_rfl) rfl (by kernel_rfl) rfl rfl
    rfl rfl
    rfl (by kernel_rfl) (by kernel_rfl) (by kernel_rfl) (by decide) (by kernel_rfl)
    (OpenClaim.moreEntering_of (by kernel_rfl) (by kernel_rfl) (by kernel_rfl) (by kernel_rfl) (by kernel_rfl) (by kernel_rfl) (by kernel_rfl) (by kernel_rfl) (by kernel_rfl) (by kernel_rfl))
    ⟨_, WideRow.started_initial, Tryf.quiet _⟩
    (fun os started _ H enc _ => t_lifted os started H enc)

end Go.Proofs.Qxb6614227aFmt
