/-
  No cell of these rows narrows 'for every input' (looked for: loops, veiled, ifaces, maps, wideKeys, modest, calm, conditions, laid).
  DERIVED. THE GIVEN ROWS OF THIS SEAT. 2 by the template 'for every input the law returns true; each argument reads behind the call as it read before'; 0 by the template 'total and deterministic' (their statements: Qxb6614313aTotals.lean).
  GIVEN WITH THE SEED: the statements are not yours to turn. If you find one false, say at which input.
  Laid BY PROGRAM, IN A SANDBOX (cutbox-rows.mjs): the forced cells as the released guide's own fill.sh prints them over the translation 7f24241c0f599151… (all of the seat's roots in one cut). By AI agents, Wed Nov 11 2026. No macro, syntax, notation, axiom, sorry.
-/
import Derived.Test.Qxb6614313aChecked
import GoSem.Claim
import GoSem.ClaimJoined
import GoSem.ClaimMapViews
import Derived.JoinedTies
import Derived.KernelRfl
namespace Go.Proofs.Qxb6614313a
/- THE CELL 'sum', in the pinned program and in every row, IS THE sha256 OF THE DUMP (.gsa) THAT Qxb6614313aProg.lean LOADS. Nothing in Lean hashes anything: it is a label: what it is worth is what the hold of that sum in a sandbox is worth. -/
noncomputable def Try.pinned : Pinned := { name := "qxb6614313a", sum := "7f24241c0f599151909a315fb601b36646fa704878dcecdf1bec834dc574e6fe", checked := Try.checked }
namespace Rows
def none {H : Type} : Left H := { results := [], args := [] }

/-- 'zzlaws_internal_ratelimit_b1.FnDuesLessFollowsSwap': WHATEVER THE INPUT: true; the input reads as it did. -/
def fnDuesLessFollowsSwapSpec : ChangeSpec := { name := "fnDuesLessFollowsSwap", fn := fun _ => fun
  | [d1, d2, d3, d4, d5] => { results := [.lit (.bool true)], args := [d1, d2, d3, d4, d5] }
  | _ => none }
def fnDuesLessFollowsSwapRow : OpenClaim := { program := "qxb6614313a", sum := "7f24241c0f599151909a315fb601b36646fa704878dcecdf1bec834dc574e6fe", func := "example.com/cedro/cedro/zzlaws_internal_ratelimit_b1.FnDuesLessFollowsSwap", spec := "fnDuesLessFollowsSwap", apart := false }
def FnDuesLessFollowsSwapSaid : Prop := fnDuesLessFollowsSwapRow.holds Try.pinned (OpenSpec.ofChange fnDuesLessFollowsSwapSpec)

/-- ITS FALSE NEIGHBOUR: 'it returns false'. Refute it at one input. -/
def fnDuesLessFollowsSwapWrong : ChangeSpec := { name := "fnDuesLessFollowsSwap", fn := fun _ => fun
  | [d1, d2, d3, d4, d5] => { results := [.lit (.bool false)], args := [d1, d2, d3, d4, d5] }
  | _ => none }
def FnDuesLessFollowsSwapWrongFalsely : Prop := fnDuesLessFollowsSwapRow.holds Try.pinned (OpenSpec.ofChange fnDuesLessFollowsSwapWrong)

/-- 'zzlaws_internal_ratelimit_b1.FnDrawClientsShareOnlyTheOverflow': WHATEVER THE INPUT: true; the input reads as it did. -/
def fnDrawClientsShareOnlyTheOverflowSpec : ChangeSpec := { name := "fnDrawClientsShareOnlyTheOverflow", fn := fun _ => fun
  | [d1, d2, d3, d4, d5, d6] => { results := [.lit (.bool true)], args := [d1, d2, d3, d4, d5, d6] }
  | _ => none }
def fnDrawClientsShareOnlyTheOverflowRow : OpenClaim := { program := "qxb6614313a", sum := "7f24241c0f599151909a315fb601b36646fa704878dcecdf1bec834dc574e6fe", func := "example.com/cedro/cedro/zzlaws_internal_ratelimit_b1.FnDrawClientsShareOnlyTheOverflow", spec := "fnDrawClientsShareOnlyTheOverflow", unfollowed := true, recurses := true, named := ["math/bits.divideError", "math/bits.overflowError"], apart := false }
def FnDrawClientsShareOnlyTheOverflowSaid : Prop := fnDrawClientsShareOnlyTheOverflowRow.holds Try.pinned (OpenSpec.ofChange fnDrawClientsShareOnlyTheOverflowSpec)

/-- ITS FALSE NEIGHBOUR: 'it returns false'. Refute it at one input. -/
def fnDrawClientsShareOnlyTheOverflowWrong : ChangeSpec := { name := "fnDrawClientsShareOnlyTheOverflow", fn := fun _ => fun
  | [d1, d2, d3, d4, d5, d6] => { results := [.lit (.bool false)], args := [d1, d2, d3, d4, d5, d6] }
  | _ => none }
def FnDrawClientsShareOnlyTheOverflowWrongFalsely : Prop := fnDrawClientsShareOnlyTheOverflowRow.holds Try.pinned (OpenSpec.ofChange fnDrawClientsShareOnlyTheOverflowWrong)

end Rows
end Go.Proofs.Qxb6614313a
