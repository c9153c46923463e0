/-
  DERIVED. Seat b6614227aF: zzTrustedList lays the two bytes of the length and the lists behind them.
-/
import Derived.Test.Qxb6614227aFmtCur
namespace Go.Proofs.Qxb6614227aFmt
open Go.RowKit

theorem Tryf.info5 : (Tryf.prog.info? 5).map (fun i => (i.zero, i.size, i.bytes)) = some (some (.int .u8 0), 1, 1) := by kernel_rfl

/-- What a slice of bytes reads as. -/
def Src (ao : Option Addr) (la ca : Nat) (A : List Int) (w : World) : Prop :=
  A.length = la ∧ (ao = none → la = 0 ∧ ca = 0) ∧ (∀ ad, ao = some ad → A ≠ [] → ad.block < w.heap.size) ∧ (∀ ad, ao = some ad → ∀ j u, (A.map (Value.int .u8))[j]? = some u → w.cell? (ad.add j) = some u) ∧ (∀ y ∈ A, 0 ≤ y ∧ y ≤ 255)

theorem add_block (a : Addr) (j : Nat) : (a.add j).block = a.block := by
  unfold Addr.add
  split <;> rfl

theorem Src.grown {ao : Option Addr} {la ca : Nat} {A : List Int} {w w' : World} (h : Src ao la ca A w) (hb : Below w.heap.size w w') : Src ao la ca A w' :=
  ⟨h.1, h.2.1, fun ad e hne => Nat.lt_of_lt_of_le (h.2.2.1 ad e hne) hb.size, fun ad e j u hj => (hb.cell (by rw [add_block]; exact h.2.2.1 ad e (by intro hn; rw [hn] at hj; simp at hj))).trans (h.2.2.2.1 ad e j u hj), h.2.2.2.2⟩

theorem two_cells (w : World) (x y : Value) (hx : x.oneCell' = true) (hy : y.oneCell' = true) : (∀ j u, ([x, y] : List Value)[j]? = some u → (w.alloc (.cells #[x, y] 5)).cell? ((⟨w.heap.size, 0, none⟩ : Addr).add j) = some u) ∧ (∀ u ∈ [x, y], u.oneCell' = true) := by
  refine ⟨?_, ?_⟩
  · intro j u hj
    match j, hj with
    | 0, hj => simp at hj; subst hj; simp [Addr.add]
    | 1, hj => simp at hj; subst hj; simp [Addr.add]
    | j + 2, hj => simp at hj
  · intro u hu
    simp at hu
    rcases hu with rfl | rfl
    · exact hx
    · exact hy

theorem one_cell (w : World) (x : Value) (hx : x.oneCell' = true) : (∀ j u, ([x] : List Value)[j]? = some u → (w.alloc (.cells #[x] 5)).cell? ((⟨w.heap.size, 0, none⟩ : Addr).add j) = some u) ∧ (∀ u ∈ [x], u.oneCell' = true) := by
  refine ⟨?_, ?_⟩
  · intro j u hj
    match j, hj with
    | 0, hj => simp at hj; subst hj; simp [Addr.add]
    | j + 1, hj => simp at hj
  · intro u hu
    simp at hu
    subst hu
    exact hx

/-- What the list reads as: two bytes, then the bytes zs. -/
def Laid (g : Nat) (n : Nat) (zs : List Int) (w : World) : Prop :=
  g < w.heap.size ∧ zs.length = n ∧ w.cell? ⟨g, 0, none⟩ = some (.int .u8 ((n : Int) / 256)) ∧ w.cell? ⟨g, 1, none⟩ = some (.int .u8 ((n : Int) % 256)) ∧ (∀ t, t < n → w.cell? ⟨g, 2 + t, none⟩ = some (.int .u8 (zs.getD t 0))) ∧ (∀ y ∈ zs, 0 ≤ y ∧ y ≤ 255)

theorem laid_of {w : World} {base g k cap n : Nat} {zs : List Int} (hn : zs.length = n) (hz : ∀ y ∈ zs, 0 ≤ y ∧ y ≤ 255)
    (h : w.ownsRow base 5 1 (.slice (some ⟨g, 0, none⟩) k cap) k (Value.int .u8 ((n : Int) / 256) :: Value.int .u8 ((n : Int) % 256) :: zs.map (Value.int .u8))) : Laid g n zs w := by
  have hc := h.cells (g := g) rfl
  have hlt := (h.lt g rfl).2
  refine ⟨hlt, hn, ?_, ?_, ?_, hz⟩
  · simpa [Addr.add] using hc 0 _ rfl
  · simpa [Addr.add] using hc 1 _ rfl
  · intro t ht
    have := hc (t + 2) (.int .u8 (zs.getD t 0)) (by
      have h1 : t < zs.length := by omega
      simp [h1])
    rw [Addr.add_lit] at this
    rw [show 2 + t = 0 + (t + 2) from by omega]
    exact this

set_option maxHeartbeats 1000000 in
theorem list_plain (ao bo : Option Addr) (la ca lb cb : Nat) (A B : List Int) (t : Int) (w : World) (hla : la ≤ 32767) (hlb : lb ≤ 32767) (ha : Src ao la ca A w) (hb : Src bo lb cb B w) :
    Calls Tryf.prog 15 #[.slice ao la ca, .bool false, .int .u8 t, .slice bo lb cb] w fun e w' => e = .returned (.slice (some ⟨w.heap.size, 0, none⟩) (2 + (la + lb)) (2 + (la + lb))) ∧ Laid w.heap.size (la + lb) (A ++ B) w' ∧ Below w.heap.size w w' := by
  obtain ⟨i0, hi, hz0, hz1, hz2⟩ := info_parts Tryf.info5
  go_enter Tryf.func15, Tryf.ntmps15
  go_wp2_with (at_make; refine wpList_make_own _ rfl _ _ 22 rfl w.heap.size 5 i0 (.int .u8 0) 1 Tryf.underlying22 hi hz0 hz1 _ _ _ (2 + (la + lb)) rfl rfl (by omega) (by rw [hz2]; omega) (by unfold maxLen; omega) (Nat.le_refl _) ?_)
  intro w0 hown0 hgrow0
  have hb0 : Below w.heap.size w w0 := (Below.refl _ _).grown hgrow0 (Nat.le_refl _) (fun k h => by cases h)
  have hs0 := hb0.size
  have h2c := two_cells w0 (.int .u8 (((la : Int) + lb) / 256)) (.int .u8 (((la : Int) + lb) % 256)) rfl rfl
  go_wp2_with (at_builtin; refine wpList_append_fits _ rfl (.tmp 22) (.tmp 28) 22 rfl w.heap.size 5 i0 1 Tryf.underlying22 hi hz1 w.heap.size 0 (2 + (la + lb)) _ rfl (hown0.alloc _) ⟨w0.heap.size, 0, none⟩ 2 2 [.int .u8 (((la : Int) + lb) / 256), .int .u8 (((la : Int) + lb) % 256)] rfl rfl h2c.1 h2c.2 (by omega) ?_)
  intro w1 hown1 hgrow1
  replace hown1 : w1.ownsRow w.heap.size 5 1 (.slice (some ⟨w.heap.size, 0, none⟩) 2 (2 + (la + lb))) 2 [.int .u8 (((la : Int) + lb) / 256), .int .u8 (((la : Int) + lb) % 256)] := hown1
  have hb1 : Below w.heap.size w w1 := (hb0.alloc hs0 _).grown hgrow1 (by simp; omega) (fun k h => by cases h; exact Nat.le_refl _)
  have hs1 := hb1.size
  have ha1 := ha.grown hb1
  go_wp2_with (at_builtin; refine wpList_append_fits_any _ rfl (.tmp 30) (.tmp 31) 22 rfl w.heap.size 5 i0 1 Tryf.underlying22 hi hz1 w.heap.size 2 (2 + (la + lb)) _ rfl hown1 ao la ca (A.map (Value.int .u8)) rfl (by simp [ha.1]) ha1.2.1 ha1.2.2.2.1 (ints_oneCell _ _) (by omega) ?_)
  intro w2 hown2 hgrow2
  have hb2 : Below w.heap.size w w2 := hb1.grown hgrow2 hs1 (fun k h => by cases h; exact Nat.le_refl _)
  have hs2 := hb2.size
  have hb2' := hb.grown hb2
  go_wp2_with (at_builtin; refine wpList_append_fits_any _ rfl (.tmp 38) (.tmp 39) 22 rfl w.heap.size 5 i0 1 Tryf.underlying22 hi hz1 w.heap.size (2 + la) (2 + (la + lb)) _ rfl hown2 bo lb cb (B.map (Value.int .u8)) rfl (by simp [hb.1]) hb2'.2.1 hb2'.2.2.2.1 (ints_oneCell _ _) (by omega) ?_)
  intro w3 hown3 hgrow3
  have hb3 : Below w.heap.size w w3 := hb2.grown hgrow3 hs2 (fun k h => by cases h; exact Nat.le_refl _)
  go_wp2
  go_ret
  refine ⟨?_, ?_, hb3⟩
  · show Ending.returned (Value.slice _ (2 + la + lb) _) = _
    rw [Nat.add_assoc]
  refine laid_of (k := 2 + la + lb) (by simp [ha.1, hb.1]) ?_ (by simpa using hown3)
  intro y hy
  rcases List.mem_append.1 hy with h | h
  · exact ha.2.2.2.2 y h
  · exact hb.2.2.2.2 y h

set_option maxHeartbeats 1000000 in
theorem list_mid (ao bo : Option Addr) (la ca lb cb : Nat) (A B : List Int) (t : Int) (w : World) (hla : la ≤ 32767) (hlb : lb ≤ 32767) (ht : 0 ≤ t ∧ t ≤ 255) (ha : Src ao la ca A w) (hb : Src bo lb cb B w) :
    Calls Tryf.prog 15 #[.slice ao la ca, .bool true, .int .u8 t, .slice bo lb cb] w fun e w' => e = .returned (.slice (some ⟨w.heap.size, 0, none⟩) (2 + (la + lb + 1)) (2 + (la + lb + 1))) ∧ Laid w.heap.size (la + lb + 1) (A ++ t :: B) w' ∧ Below w.heap.size w w' := by
  obtain ⟨i0, hi, hz0, hz1, hz2⟩ := info_parts Tryf.info5
  go_enter Tryf.func15, Tryf.ntmps15
  go_wp2_with (at_make; refine wpList_make_own _ rfl _ _ 22 rfl w.heap.size 5 i0 (.int .u8 0) 1 Tryf.underlying22 hi hz0 hz1 _ _ _ (2 + (la + lb + 1)) rfl rfl (by omega) (by rw [hz2]; omega) (by unfold maxLen; omega) (Nat.le_refl _) ?_)
  intro w0 hown0 hgrow0
  have hb0 : Below w.heap.size w w0 := (Below.refl _ _).grown hgrow0 (Nat.le_refl _) (fun k h => by cases h)
  have hs0 := hb0.size
  have h2c := two_cells w0 (.int .u8 (((la : Int) + lb + 1) / 256)) (.int .u8 (((la : Int) + lb + 1) % 256)) rfl rfl
  go_wp2_with (at_builtin; refine wpList_append_fits _ rfl (.tmp 22) (.tmp 28) 22 rfl w.heap.size 5 i0 1 Tryf.underlying22 hi hz1 w.heap.size 0 (2 + (la + lb + 1)) _ rfl (hown0.alloc _) ⟨w0.heap.size, 0, none⟩ 2 2 [.int .u8 (((la : Int) + lb + 1) / 256), .int .u8 (((la : Int) + lb + 1) % 256)] rfl rfl h2c.1 h2c.2 (by omega) ?_)
  intro w1 hown1 hgrow1
  replace hown1 : w1.ownsRow w.heap.size 5 1 (.slice (some ⟨w.heap.size, 0, none⟩) 2 (2 + (la + lb + 1))) 2 [.int .u8 (((la : Int) + lb + 1) / 256), .int .u8 (((la : Int) + lb + 1) % 256)] := hown1
  have hb1 : Below w.heap.size w w1 := (hb0.alloc hs0 _).grown hgrow1 (by simp; omega) (fun k h => by cases h; exact Nat.le_refl _)
  have hs1 := hb1.size
  have ha1 := ha.grown hb1
  go_wp2_with (at_builtin; refine wpList_append_fits_any _ rfl (.tmp 30) (.tmp 31) 22 rfl w.heap.size 5 i0 1 Tryf.underlying22 hi hz1 w.heap.size 2 (2 + (la + lb + 1)) _ rfl hown1 ao la ca (A.map (Value.int .u8)) rfl (by simp [ha.1]) ha1.2.1 ha1.2.2.2.1 (ints_oneCell _ _) (by omega) ?_)
  intro w2 hown2 hgrow2
  have hb2 : Below w.heap.size w w2 := hb1.grown hgrow2 hs1 (fun k h => by cases h; exact Nat.le_refl _)
  have hs2 := hb2.size
  have h1c := one_cell w2 (.int .u8 t) rfl
  go_wp2_with (at_builtin; refine wpList_append_fits _ rfl (.tmp 34) (.tmp 36) 22 rfl w.heap.size 5 i0 1 Tryf.underlying22 hi hz1 w.heap.size (2 + la) (2 + (la + lb + 1)) _ rfl (hown2.alloc _) ⟨w2.heap.size, 0, none⟩ 1 1 [.int .u8 t] rfl rfl h1c.1 h1c.2 (by omega) ?_)
  intro w3 hown3 hgrow3
  have hb3 : Below w.heap.size w w3 := (hb2.alloc hs2 _).grown hgrow3 (by simp; omega) (fun k h => by cases h; exact Nat.le_refl _)
  have hs3 := hb3.size
  have hb3' := hb.grown hb3
  go_wp2_with (at_builtin; refine wpList_append_fits_any _ rfl (.tmp 38) (.tmp 39) 22 rfl w.heap.size 5 i0 1 Tryf.underlying22 hi hz1 w.heap.size (2 + la + 1) (2 + (la + lb + 1)) _ rfl hown3 bo lb cb (B.map (Value.int .u8)) rfl (by simp [hb.1]) hb3'.2.1 hb3'.2.2.2.1 (ints_oneCell _ _) (by omega) ?_)
  intro w4 hown4 hgrow4
  have hb4 : Below w.heap.size w w4 := hb3.grown hgrow4 hs3 (fun k h => by cases h; exact Nat.le_refl _)
  go_wp2
  go_ret
  refine ⟨?_, ?_, hb4⟩
  · show Ending.returned (Value.slice _ (2 + la + 1 + lb) _) = _
    rw [show 2 + la + 1 + lb = 2 + (la + lb + 1) from by omega]
  refine laid_of (k := 2 + la + 1 + lb) (by simp [ha.1, hb.1]; omega) ?_ (by simpa using hown4)
  intro y hy
  rcases List.mem_append.1 hy with h | h
  · exact ha.2.2.2.2 y h
  · rcases List.mem_cons.1 h with h | h
    · subst h; exact ht
    · exact hb.2.2.2.2 y h

end Go.Proofs.Qxb6614227aFmt
