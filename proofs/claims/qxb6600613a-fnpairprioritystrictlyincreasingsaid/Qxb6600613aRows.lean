/-
  No cell of these rows narrows 'for every input' (looked for: loops, veiled, ifaces, maps, wideKeys, modest, calm, conditions, laid).
  DERIVED. THE GIVEN ROWS OF THIS SEAT. 4 by the template 'for every input the law returns true; each argument reads behind the call as it read before'; 0 by the template 'total and deterministic' (their statements: Qxb6600613aTotals.lean).
  GIVEN WITH THE SEED: the statements are not yours to turn. If you find one false, say at which input.
  Laid BY PROGRAM, IN A SANDBOX (cutbox-rows.mjs): the forced cells as the released guide's own fill.sh prints them over the translation 2618c482cee065a3… (all of the seat's roots in one cut). By AI agents, Wed Nov 11 2026. No macro, syntax, notation, axiom, sorry.
-/
import Derived.Test.Qxb6600613aChecked
import GoSem.Claim
import GoSem.ClaimJoined
import GoSem.ClaimMapViews
import Derived.JoinedTies
import Derived.KernelRfl
namespace Go.Proofs.Qxb6600613a
/- THE CELL 'sum', in the pinned program and in every row, IS THE sha256 OF THE DUMP (.gsa) THAT Qxb6600613aProg.lean LOADS. Nothing in Lean hashes anything: it is a label: what it is worth is what the hold of that sum in a sandbox is worth. -/
noncomputable def Try.pinned : Pinned := { name := "qxb6600613a", sum := "2618c482cee065a3d2aff50d56207111d84ec745fc38044805c34a88d71df728", checked := Try.checked }
namespace Rows
def none {H : Type} : Left H := { results := [], args := [] }

/-- 'zzlaws_pkg_ice_b1.FnPairPriorityDecodes': WHATEVER THE INPUT: true; the input reads as it did. -/
def fnPairPriorityDecodesSpec : ChangeSpec := { name := "fnPairPriorityDecodes", fn := fun _ => fun
  | [d1, d2, d3] => { results := [.lit (.bool true)], args := [d1, d2, d3] }
  | _ => none }
def fnPairPriorityDecodesRow : OpenClaim := { program := "qxb6600613a", sum := "2618c482cee065a3d2aff50d56207111d84ec745fc38044805c34a88d71df728", func := "example.com/throughway/throughway/zzlaws_pkg_ice_b1.FnPairPriorityDecodes", spec := "fnPairPriorityDecodes", apart := false }
def FnPairPriorityDecodesSaid : Prop := fnPairPriorityDecodesRow.holds Try.pinned (OpenSpec.ofChange fnPairPriorityDecodesSpec)

/-- ITS FALSE NEIGHBOUR: 'it returns false'. Refute it at one input. -/
def fnPairPriorityDecodesWrong : ChangeSpec := { name := "fnPairPriorityDecodes", fn := fun _ => fun
  | [d1, d2, d3] => { results := [.lit (.bool false)], args := [d1, d2, d3] }
  | _ => none }
def FnPairPriorityDecodesWrongFalsely : Prop := fnPairPriorityDecodesRow.holds Try.pinned (OpenSpec.ofChange fnPairPriorityDecodesWrong)

/-- 'zzlaws_pkg_ice_b1.FnPairPriorityRoleSetsTieBit': WHATEVER THE INPUT: true; the input reads as it did. -/
def fnPairPriorityRoleSetsTieBitSpec : ChangeSpec := { name := "fnPairPriorityRoleSetsTieBit", fn := fun _ => fun
  | [d1, d2] => { results := [.lit (.bool true)], args := [d1, d2] }
  | _ => none }
def fnPairPriorityRoleSetsTieBitRow : OpenClaim := { program := "qxb6600613a", sum := "2618c482cee065a3d2aff50d56207111d84ec745fc38044805c34a88d71df728", func := "example.com/throughway/throughway/zzlaws_pkg_ice_b1.FnPairPriorityRoleSetsTieBit", spec := "fnPairPriorityRoleSetsTieBit", apart := false }
def FnPairPriorityRoleSetsTieBitSaid : Prop := fnPairPriorityRoleSetsTieBitRow.holds Try.pinned (OpenSpec.ofChange fnPairPriorityRoleSetsTieBitSpec)

/-- ITS FALSE NEIGHBOUR: 'it returns false'. Refute it at one input. -/
def fnPairPriorityRoleSetsTieBitWrong : ChangeSpec := { name := "fnPairPriorityRoleSetsTieBit", fn := fun _ => fun
  | [d1, d2] => { results := [.lit (.bool false)], args := [d1, d2] }
  | _ => none }
def FnPairPriorityRoleSetsTieBitWrongFalsely : Prop := fnPairPriorityRoleSetsTieBitRow.holds Try.pinned (OpenSpec.ofChange fnPairPriorityRoleSetsTieBitWrong)

/-- 'zzlaws_pkg_ice_b1.FnPairPriorityRoleSymmetric': WHATEVER THE INPUT: true; the input reads as it did. -/
def fnPairPriorityRoleSymmetricSpec : ChangeSpec := { name := "fnPairPriorityRoleSymmetric", fn := fun _ => fun
  | [d1, d2, d3] => { results := [.lit (.bool true)], args := [d1, d2, d3] }
  | _ => none }
def fnPairPriorityRoleSymmetricRow : OpenClaim := { program := "qxb6600613a", sum := "2618c482cee065a3d2aff50d56207111d84ec745fc38044805c34a88d71df728", func := "example.com/throughway/throughway/zzlaws_pkg_ice_b1.FnPairPriorityRoleSymmetric", spec := "fnPairPriorityRoleSymmetric", apart := false }
def FnPairPriorityRoleSymmetricSaid : Prop := fnPairPriorityRoleSymmetricRow.holds Try.pinned (OpenSpec.ofChange fnPairPriorityRoleSymmetricSpec)

/-- ITS FALSE NEIGHBOUR: 'it returns false'. Refute it at one input. -/
def fnPairPriorityRoleSymmetricWrong : ChangeSpec := { name := "fnPairPriorityRoleSymmetric", fn := fun _ => fun
  | [d1, d2, d3] => { results := [.lit (.bool false)], args := [d1, d2, d3] }
  | _ => none }
def FnPairPriorityRoleSymmetricWrongFalsely : Prop := fnPairPriorityRoleSymmetricRow.holds Try.pinned (OpenSpec.ofChange fnPairPriorityRoleSymmetricWrong)

/-- 'zzlaws_pkg_ice_b1.FnPairPriorityStrictlyIncreasing': WHATEVER THE INPUT: true; the input reads as it did. -/
def fnPairPriorityStrictlyIncreasingSpec : ChangeSpec := { name := "fnPairPriorityStrictlyIncreasing", fn := fun _ => fun
  | [d1, d2, d3, d4] => { results := [.lit (.bool true)], args := [d1, d2, d3, d4] }
  | _ => none }
def fnPairPriorityStrictlyIncreasingRow : OpenClaim := { program := "qxb6600613a", sum := "2618c482cee065a3d2aff50d56207111d84ec745fc38044805c34a88d71df728", func := "example.com/throughway/throughway/zzlaws_pkg_ice_b1.FnPairPriorityStrictlyIncreasing", spec := "fnPairPriorityStrictlyIncreasing", apart := false }
def FnPairPriorityStrictlyIncreasingSaid : Prop := fnPairPriorityStrictlyIncreasingRow.holds Try.pinned (OpenSpec.ofChange fnPairPriorityStrictlyIncreasingSpec)

/-- ITS FALSE NEIGHBOUR: 'it returns false'. Refute it at one input. -/
def fnPairPriorityStrictlyIncreasingWrong : ChangeSpec := { name := "fnPairPriorityStrictlyIncreasing", fn := fun _ => fun
  | [d1, d2, d3, d4] => { results := [.lit (.bool false)], args := [d1, d2, d3, d4] }
  | _ => none }
def FnPairPriorityStrictlyIncreasingWrongFalsely : Prop := fnPairPriorityStrictlyIncreasingRow.holds Try.pinned (OpenSpec.ofChange fnPairPriorityStrictlyIncreasingWrong)

end Rows
end Go.Proofs.Qxb6600613a
