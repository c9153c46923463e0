/-
  No cell of these rows narrows 'for every input' (looked for: loops, veiled, ifaces, maps, wideKeys, modest, calm, conditions, laid).
  DERIVED. THE GIVEN ROWS OF THIS SEAT. 2 by the template 'for every input the law returns true; each argument reads behind the call as it read before'; 0 by the template 'total and deterministic' (their statements: Qxb6614463aTotals.lean).
  GIVEN WITH THE SEED: the statements are not yours to turn. If you find one false, say at which input.
  Laid BY PROGRAM, IN A SANDBOX (cutbox-rows.mjs): the forced cells as the released guide's own fill.sh prints them over the translation 787e57b34666592c… (all of the seat's roots in one cut). By AI agents, Wed Nov 11 2026. No macro, syntax, notation, axiom, sorry.
-/
import Derived.Test.Qxb6614463aChecked
import GoSem.Claim
import GoSem.ClaimJoined
import GoSem.ClaimMapViews
import Derived.JoinedTies
import Derived.KernelRfl
namespace Go.Proofs.Qxb6614463a
/- THE CELL 'sum', in the pinned program and in every row, IS THE sha256 OF THE DUMP (.gsa) THAT Qxb6614463aProg.lean LOADS. Nothing in Lean hashes anything: it is a label: what it is worth is what the hold of that sum in a sandbox is worth. -/
noncomputable def Try.pinned : Pinned := { name := "qxb6614463a", sum := "787e57b34666592cde5aa604c48e2db58c2769c7d9c9255fdae0be190ebf296b", checked := Try.checked }
namespace Rows
def none {H : Type} : Left H := { results := [], args := [] }

/-- 'zzlaws_memory_b1.FnPastSplitsMemory': WHATEVER THE INPUT: true; the input reads as it did. -/
def fnPastSplitsMemorySpec : ChangeSpec := { name := "fnPastSplitsMemory", fn := fun _ => fun
  | [d1, d2] => { results := [.lit (.bool true)], args := [d1, d2] }
  | _ => none }
def fnPastSplitsMemoryRow : OpenClaim := { program := "qxb6614463a", sum := "787e57b34666592cde5aa604c48e2db58c2769c7d9c9255fdae0be190ebf296b", func := "example.com/mortise/mortise/zzlaws_memory_b1.FnPastSplitsMemory", spec := "fnPastSplitsMemory", apart := false }
def FnPastSplitsMemorySaid : Prop := fnPastSplitsMemoryRow.holds Try.pinned (OpenSpec.ofChange fnPastSplitsMemorySpec)

/-- ITS FALSE NEIGHBOUR: 'it returns false'. Refute it at one input. -/
def fnPastSplitsMemoryWrong : ChangeSpec := { name := "fnPastSplitsMemory", fn := fun _ => fun
  | [d1, d2] => { results := [.lit (.bool false)], args := [d1, d2] }
  | _ => none }
def FnPastSplitsMemoryWrongFalsely : Prop := fnPastSplitsMemoryRow.holds Try.pinned (OpenSpec.ofChange fnPastSplitsMemoryWrong)

/-- 'zzlaws_memory_b1.FnPastScalesWithMemory': WHATEVER THE INPUT: true; the input reads as it did. -/
def fnPastScalesWithMemorySpec : ChangeSpec := { name := "fnPastScalesWithMemory", fn := fun _ => fun
  | [d1, d2] => { results := [.lit (.bool true)], args := [d1, d2] }
  | _ => none }
def fnPastScalesWithMemoryRow : OpenClaim := { program := "qxb6614463a", sum := "787e57b34666592cde5aa604c48e2db58c2769c7d9c9255fdae0be190ebf296b", func := "example.com/mortise/mortise/zzlaws_memory_b1.FnPastScalesWithMemory", spec := "fnPastScalesWithMemory", apart := false }
def FnPastScalesWithMemorySaid : Prop := fnPastScalesWithMemoryRow.holds Try.pinned (OpenSpec.ofChange fnPastScalesWithMemorySpec)

/-- ITS FALSE NEIGHBOUR: 'it returns false'. Refute it at one input. -/
def fnPastScalesWithMemoryWrong : ChangeSpec := { name := "fnPastScalesWithMemory", fn := fun _ => fun
  | [d1, d2] => { results := [.lit (.bool false)], args := [d1, d2] }
  | _ => none }
def FnPastScalesWithMemoryWrongFalsely : Prop := fnPastScalesWithMemoryRow.holds Try.pinned (OpenSpec.ofChange fnPastScalesWithMemoryWrong)

end Rows
end Go.Proofs.Qxb6614463a
