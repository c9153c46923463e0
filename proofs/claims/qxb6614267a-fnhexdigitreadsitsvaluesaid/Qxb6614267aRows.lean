/-
  No cell of these rows narrows 'for every input' (looked for: loops, veiled, ifaces, maps, wideKeys, modest, calm, conditions, laid).
  DERIVED. THE GIVEN ROWS OF THIS SEAT. 3 by the template 'for every input the law returns true; each argument reads behind the call as it read before'; 0 by the template 'total and deterministic' (their statements: Qxb6614267aTotals.lean).
  GIVEN WITH THE SEED: the statements are not yours to turn. If you find one false, say at which input.
  Laid BY PROGRAM, IN A SANDBOX (cutbox-rows.mjs): the forced cells as the released guide's own fill.sh prints them over the translation c0ec1dc1ccea6065… (all of the seat's roots in one cut). By AI agents, Wed Nov 11 2026. No macro, syntax, notation, axiom, sorry.
-/
import Derived.Test.Qxb6614267aChecked
import GoSem.Claim
import GoSem.ClaimJoined
import GoSem.ClaimMapViews
import Derived.JoinedTies
import Derived.KernelRfl
namespace Go.Proofs.Qxb6614267a
/- THE CELL 'sum', in the pinned program and in every row, IS THE sha256 OF THE DUMP (.gsa) THAT Qxb6614267aProg.lean LOADS. Nothing in Lean hashes anything: it is a label: what it is worth is what the hold of that sum in a sandbox is worth. -/
noncomputable def Try.pinned : Pinned := { name := "qxb6614267a", sum := "c0ec1dc1ccea60654da5f42b0bb6df142f30cb577544b75e48285478a5983ddc", checked := Try.checked }
namespace Rows
def none {H : Type} : Left H := { results := [], args := [] }

/-- 'zzlaws_internal_jsonvalue_b1.FnHexDigitReadsItsValue': WHATEVER THE INPUT: true; the input reads as it did. -/
def fnHexDigitReadsItsValueSpec : ChangeSpec := { name := "fnHexDigitReadsItsValue", fn := fun _ => fun
  | [d] => { results := [.lit (.bool true)], args := [d] }
  | _ => none }
def fnHexDigitReadsItsValueRow : OpenClaim := { program := "qxb6614267a", sum := "c0ec1dc1ccea60654da5f42b0bb6df142f30cb577544b75e48285478a5983ddc", func := "example.com/session-state-store/session-state-store/zzlaws_internal_jsonvalue_b1.FnHexDigitReadsItsValue", spec := "fnHexDigitReadsItsValue", apart := false }
def FnHexDigitReadsItsValueSaid : Prop := fnHexDigitReadsItsValueRow.holds Try.pinned (OpenSpec.ofChange fnHexDigitReadsItsValueSpec)

/-- ITS FALSE NEIGHBOUR: 'it returns false'. Refute it at one input. -/
def fnHexDigitReadsItsValueWrong : ChangeSpec := { name := "fnHexDigitReadsItsValue", fn := fun _ => fun
  | [d] => { results := [.lit (.bool false)], args := [d] }
  | _ => none }
def FnHexDigitReadsItsValueWrongFalsely : Prop := fnHexDigitReadsItsValueRow.holds Try.pinned (OpenSpec.ofChange fnHexDigitReadsItsValueWrong)

/-- 'zzlaws_internal_jsonvalue_b1.FnHexEscapeDecodesToItsCodePoint': WHATEVER THE INPUT: true; the input reads as it did. -/
def fnHexEscapeDecodesToItsCodePointSpec : ChangeSpec := { name := "fnHexEscapeDecodesToItsCodePoint", fn := fun _ => fun
  | [d1, d2, d3, d4] => { results := [.lit (.bool true)], args := [d1, d2, d3, d4] }
  | _ => none }
def fnHexEscapeDecodesToItsCodePointRow : OpenClaim := { program := "qxb6614267a", sum := "c0ec1dc1ccea60654da5f42b0bb6df142f30cb577544b75e48285478a5983ddc", func := "example.com/session-state-store/session-state-store/zzlaws_internal_jsonvalue_b1.FnHexEscapeDecodesToItsCodePoint", spec := "fnHexEscapeDecodesToItsCodePoint", inPlace := ["internal/bytealg.IndexByte"], apart := false }
def FnHexEscapeDecodesToItsCodePointSaid : Prop := fnHexEscapeDecodesToItsCodePointRow.holds Try.pinned (OpenSpec.ofChange fnHexEscapeDecodesToItsCodePointSpec)

/-- ITS FALSE NEIGHBOUR: 'it returns false'. Refute it at one input. -/
def fnHexEscapeDecodesToItsCodePointWrong : ChangeSpec := { name := "fnHexEscapeDecodesToItsCodePoint", fn := fun _ => fun
  | [d1, d2, d3, d4] => { results := [.lit (.bool false)], args := [d1, d2, d3, d4] }
  | _ => none }
def FnHexEscapeDecodesToItsCodePointWrongFalsely : Prop := fnHexEscapeDecodesToItsCodePointRow.holds Try.pinned (OpenSpec.ofChange fnHexEscapeDecodesToItsCodePointWrong)

/-- 'zzlaws_internal_jsonvalue_b1.FnMembersMatchParsedObject': WHATEVER THE INPUT: true; the input reads as it did. -/
def fnMembersMatchParsedObjectSpec : ChangeSpec := { name := "fnMembersMatchParsedObject", fn := fun _ => fun
  | [d] => { results := [.lit (.bool true)], args := [d] }
  | _ => none }
def fnMembersMatchParsedObjectRow : OpenClaim := { program := "qxb6614267a", sum := "c0ec1dc1ccea60654da5f42b0bb6df142f30cb577544b75e48285478a5983ddc", func := "example.com/session-state-store/session-state-store/zzlaws_internal_jsonvalue_b1.FnMembersMatchParsedObject", spec := "fnMembersMatchParsedObject", inPlace := ["internal/bytealg.IndexByte"], unfollowed := true, recurses := true, apart := false }
def FnMembersMatchParsedObjectSaid : Prop := fnMembersMatchParsedObjectRow.holds Try.pinned (OpenSpec.ofChange fnMembersMatchParsedObjectSpec)

/-- ITS FALSE NEIGHBOUR: 'it returns false'. Refute it at one input. -/
def fnMembersMatchParsedObjectWrong : ChangeSpec := { name := "fnMembersMatchParsedObject", fn := fun _ => fun
  | [d] => { results := [.lit (.bool false)], args := [d] }
  | _ => none }
def FnMembersMatchParsedObjectWrongFalsely : Prop := fnMembersMatchParsedObjectRow.holds Try.pinned (OpenSpec.ofChange fnMembersMatchParsedObjectWrong)

end Rows
end Go.Proofs.Qxb6614267a
