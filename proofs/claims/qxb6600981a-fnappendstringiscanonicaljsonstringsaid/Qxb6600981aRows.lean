/-
  No cell of these rows narrows 'for every input' (looked for: loops, veiled, ifaces, maps, wideKeys, modest, calm, conditions, laid).
  DERIVED. THE GIVEN ROWS OF THIS SEAT. 2 by the template 'for every input the law returns true; each argument reads behind the call as it read before'; 0 by the template 'total and deterministic' (their statements: Qxb6600981aTotals.lean).
  GIVEN WITH THE SEED: the statements are not yours to turn. If you find one false, say at which input.
  Laid BY PROGRAM, IN A SANDBOX (cutbox-rows.mjs): the forced cells as the released guide's own fill.sh prints them over the translation b64219934e23dd0c… (all of the seat's roots in one cut). By AI agents, Wed Nov 11 2026. No macro, syntax, notation, axiom, sorry.
-/
import Derived.Test.Qxb6600981aChecked
import GoSem.Claim
import GoSem.ClaimJoined
import GoSem.ClaimMapViews
import Derived.JoinedTies
import Derived.KernelRfl
namespace Go.Proofs.Qxb6600981a
/- THE CELL 'sum', in the pinned program and in every row, IS THE sha256 OF THE DUMP (.gsa) THAT Qxb6600981aProg.lean LOADS. Nothing in Lean hashes anything: it is a label: what it is worth is what the hold of that sum in a sandbox is worth. -/
noncomputable def Try.pinned : Pinned := { name := "qxb6600981a", sum := "b64219934e23dd0c520470383a0634abd9035e9e05e267f0a491c0312a343207", checked := Try.checked }
namespace Rows
def none {H : Type} : Left H := { results := [], args := [] }

/-- 'zzlaws_internal_nostr_b1.FnAppendStringIsCanonicalJSONString': WHATEVER THE INPUT: true; the input reads as it did. -/
def fnAppendStringIsCanonicalJSONStringSpec : ChangeSpec := { name := "fnAppendStringIsCanonicalJSONString", fn := fun _ => fun
  | [d1, d2] => { results := [.lit (.bool true)], args := [d1, d2] }
  | _ => none }
def fnAppendStringIsCanonicalJSONStringRow : OpenClaim := { program := "qxb6600981a", sum := "b64219934e23dd0c520470383a0634abd9035e9e05e267f0a491c0312a343207", func := "example.com/latchkey/latchkey/zzlaws_internal_nostr_b1.FnAppendStringIsCanonicalJSONString", spec := "fnAppendStringIsCanonicalJSONString", apart := false }
def FnAppendStringIsCanonicalJSONStringSaid : Prop := fnAppendStringIsCanonicalJSONStringRow.holds Try.pinned (OpenSpec.ofChange fnAppendStringIsCanonicalJSONStringSpec)

/-- ITS FALSE NEIGHBOUR: 'it returns false'. Refute it at one input. -/
def fnAppendStringIsCanonicalJSONStringWrong : ChangeSpec := { name := "fnAppendStringIsCanonicalJSONString", fn := fun _ => fun
  | [d1, d2] => { results := [.lit (.bool false)], args := [d1, d2] }
  | _ => none }
def FnAppendStringIsCanonicalJSONStringWrongFalsely : Prop := fnAppendStringIsCanonicalJSONStringRow.holds Try.pinned (OpenSpec.ofChange fnAppendStringIsCanonicalJSONStringWrong)

/-- 'zzlaws_internal_nostr_b1.FnAppendStringConcatenatesAndIgnoresPrefix': WHATEVER THE INPUT: true; the input reads as it did. -/
def fnAppendStringConcatenatesAndIgnoresPrefixSpec : ChangeSpec := { name := "fnAppendStringConcatenatesAndIgnoresPrefix", fn := fun _ => fun
  | [d1, d2, d3] => { results := [.lit (.bool true)], args := [d1, d2, d3] }
  | _ => none }
def fnAppendStringConcatenatesAndIgnoresPrefixRow : OpenClaim := { program := "qxb6600981a", sum := "b64219934e23dd0c520470383a0634abd9035e9e05e267f0a491c0312a343207", func := "example.com/latchkey/latchkey/zzlaws_internal_nostr_b1.FnAppendStringConcatenatesAndIgnoresPrefix", spec := "fnAppendStringConcatenatesAndIgnoresPrefix", apart := false }
def FnAppendStringConcatenatesAndIgnoresPrefixSaid : Prop := fnAppendStringConcatenatesAndIgnoresPrefixRow.holds Try.pinned (OpenSpec.ofChange fnAppendStringConcatenatesAndIgnoresPrefixSpec)

/-- ITS FALSE NEIGHBOUR: 'it returns false'. Refute it at one input. -/
def fnAppendStringConcatenatesAndIgnoresPrefixWrong : ChangeSpec := { name := "fnAppendStringConcatenatesAndIgnoresPrefix", fn := fun _ => fun
  | [d1, d2, d3] => { results := [.lit (.bool false)], args := [d1, d2, d3] }
  | _ => none }
def FnAppendStringConcatenatesAndIgnoresPrefixWrongFalsely : Prop := fnAppendStringConcatenatesAndIgnoresPrefixRow.holds Try.pinned (OpenSpec.ofChange fnAppendStringConcatenatesAndIgnoresPrefixWrong)

end Rows
end Go.Proofs.Qxb6600981a
