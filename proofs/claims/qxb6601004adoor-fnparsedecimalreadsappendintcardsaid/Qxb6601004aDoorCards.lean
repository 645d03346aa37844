/-
  DERIVED. GIVEN WITH THE SEED: THE CARDS: each row of Qxb6601004aDoorRows.lean that lists a variable, with what it lists TIED to the program's text (the seventh form; the later family's looks); each row that meets fmt, with fmt's text TOLD by the authors' own Lean function (tested against real Go, not proved from fmt's source: count such statements apart). THE CARD IS WHAT COUNTS. Prove the row's statement (the work); the ties are given (Qxb6601004aDoorTie.lean); close each card by the builder's one call (the guide's Derived/Test/ToyasCard.lean, 'card_holds'). Laid BY PROGRAM, IN A SANDBOX (cutbox-door.mjs). By AI agents, Wed Nov 11 2026. No macro, syntax, notation, axiom, sorry.
-/
import Derived.Test.Qxb6601004aDoorRows
import GoSem.ClaimSeven
namespace Go.Proofs.Qxb6601004aDoor
namespace Rows

/-- THE TIED CARD OF 'zzlaws_bencode_b1.FnParseDecimalReadsAppendInt'. -/
def fnParseDecimalReadsAppendIntCard : Claim7 := { stood := { row := fnParseDecimalReadsAppendIntRow, standIns := [], harness := (true, "d954a86dee15f953f1a0bdb645adc3d64737555f09b422a5eefb0cdd85fc68d7"), looks := false }, kinds := [], alts := [], laidByText := true, laidKinds := [.data, .data, .data], laidTests := true, laidLooks := .later }
def FnParseDecimalReadsAppendIntCardSaid : Prop := Claim7.holds Tryd.pinned (.plain (OpenSpec.ofChange fnParseDecimalReadsAppendIntSpec)) fnParseDecimalReadsAppendIntCard

/-- THE TIED CARD OF 'zzlaws_bencode_b1.FnAppendIntCanonical'. -/
def fnAppendIntCanonicalCard : Claim7 := { stood := { row := fnAppendIntCanonicalRow, standIns := [], harness := (true, "d954a86dee15f953f1a0bdb645adc3d64737555f09b422a5eefb0cdd85fc68d7"), looks := false }, kinds := [], alts := [], laidByText := true, laidKinds := [.data, .data, .data], laidTests := true, laidLooks := .later }
def FnAppendIntCanonicalCardSaid : Prop := Claim7.holds Tryd.pinned (.plain (OpenSpec.ofChange fnAppendIntCanonicalSpec)) fnAppendIntCanonicalCard
end Rows
end Go.Proofs.Qxb6601004aDoor
