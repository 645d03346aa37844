/-
  No cell of these rows narrows 'for every input' (looked for: loops, veiled, ifaces, maps, wideKeys, modest, calm, conditions, laid).
  DERIVED. THE GIVEN ROWS OF THIS SEAT. 2 by the template 'for every input the law returns true; each argument reads behind the call as it read before'; 0 by the template 'total and deterministic' (their statements: Qxb6601004aTotals.lean).
  GIVEN WITH THE SEED: the statements are not yours to turn. If you find one false, say at which input.
  Laid BY PROGRAM, IN A SANDBOX (cutbox-rows.mjs): the forced cells as the released guide's own fill.sh prints them over the translation 8eeba155aa011746… (all of the seat's roots in one cut). By AI agents, Wed Nov 11 2026. No macro, syntax, notation, axiom, sorry.
-/
import Derived.Test.Qxb6601004aChecked
import GoSem.Claim
import GoSem.ClaimJoined
import GoSem.ClaimMapViews
import Derived.JoinedTies
import Derived.KernelRfl
namespace Go.Proofs.Qxb6601004a
/- THE CELL 'sum', in the pinned program and in every row, IS THE sha256 OF THE DUMP (.gsa) THAT Qxb6601004aProg.lean LOADS. Nothing in Lean hashes anything: it is a label: what it is worth is what the hold of that sum in a sandbox is worth. -/
noncomputable def Try.pinned : Pinned := { name := "qxb6601004a", sum := "8eeba155aa011746dd60aaa736f3a18628cad6ce0a24758a1794e7519e51afcd", checked := Try.checked }
namespace Rows
def none {H : Type} : Left H := { results := [], args := [] }

/-- 'zzlaws_bencode_b1.FnParseDecimalMatchesModel': WHATEVER THE INPUT: true; the input reads as it did. -/
def fnParseDecimalMatchesModelSpec : ChangeSpec := { name := "fnParseDecimalMatchesModel", fn := fun _ => fun
  | [d] => { results := [.lit (.bool true)], args := [d] }
  | _ => none }
def fnParseDecimalMatchesModelRow : OpenClaim := { program := "qxb6601004a", sum := "8eeba155aa011746dd60aaa736f3a18628cad6ce0a24758a1794e7519e51afcd", func := "example.com/xorweave/xorweave/zzlaws_bencode_b1.FnParseDecimalMatchesModel", spec := "fnParseDecimalMatchesModel", apart := false }
def FnParseDecimalMatchesModelSaid : Prop := fnParseDecimalMatchesModelRow.holds Try.pinned (OpenSpec.ofChange fnParseDecimalMatchesModelSpec)

/-- ITS FALSE NEIGHBOUR: 'it returns false'. Refute it at one input. -/
def fnParseDecimalMatchesModelWrong : ChangeSpec := { name := "fnParseDecimalMatchesModel", fn := fun _ => fun
  | [d] => { results := [.lit (.bool false)], args := [d] }
  | _ => none }
def FnParseDecimalMatchesModelWrongFalsely : Prop := fnParseDecimalMatchesModelRow.holds Try.pinned (OpenSpec.ofChange fnParseDecimalMatchesModelWrong)

/-- 'zzlaws_bencode_b1.FnParseDecimalLeadingZeroIgnored': WHATEVER THE INPUT: true; the input reads as it did. -/
def fnParseDecimalLeadingZeroIgnoredSpec : ChangeSpec := { name := "fnParseDecimalLeadingZeroIgnored", fn := fun _ => fun
  | [d] => { results := [.lit (.bool true)], args := [d] }
  | _ => none }
def fnParseDecimalLeadingZeroIgnoredRow : OpenClaim := { program := "qxb6601004a", sum := "8eeba155aa011746dd60aaa736f3a18628cad6ce0a24758a1794e7519e51afcd", func := "example.com/xorweave/xorweave/zzlaws_bencode_b1.FnParseDecimalLeadingZeroIgnored", spec := "fnParseDecimalLeadingZeroIgnored", apart := false }
def FnParseDecimalLeadingZeroIgnoredSaid : Prop := fnParseDecimalLeadingZeroIgnoredRow.holds Try.pinned (OpenSpec.ofChange fnParseDecimalLeadingZeroIgnoredSpec)

/-- ITS FALSE NEIGHBOUR: 'it returns false'. Refute it at one input. -/
def fnParseDecimalLeadingZeroIgnoredWrong : ChangeSpec := { name := "fnParseDecimalLeadingZeroIgnored", fn := fun _ => fun
  | [d] => { results := [.lit (.bool false)], args := [d] }
  | _ => none }
def FnParseDecimalLeadingZeroIgnoredWrongFalsely : Prop := fnParseDecimalLeadingZeroIgnoredRow.holds Try.pinned (OpenSpec.ofChange fnParseDecimalLeadingZeroIgnoredWrong)

end Rows
end Go.Proofs.Qxb6601004a
