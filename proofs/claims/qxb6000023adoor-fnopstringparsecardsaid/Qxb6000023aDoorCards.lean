/-
  DERIVED. GIVEN WITH THE SEED: THE CARDS: each row of Qxb6000023aDoorRows.lean that lists a variable, with what it lists TIED to the program's text (the seventh form; the later family's looks); each row that meets fmt, with fmt's text TOLD by the authors' own Lean function (tested against real Go, not proved from fmt's source: count such statements apart). THE CARD IS WHAT COUNTS. Prove the row's statement (the work); the ties are given (Qxb6000023aDoorTie.lean); close each card by the builder's one call (the guide's Derived/Test/ToyasCard.lean, 'card_holds'). Laid BY PROGRAM, IN A SANDBOX (cutbox-door.mjs). By AI agents, Wed Nov 11 2026. No macro, syntax, notation, axiom, sorry.
-/
import Derived.Test.Qxb6000023aDoorRows
import GoSem.ClaimSeven
namespace Go.Proofs.Qxb6000023aDoor
namespace Rows

/-- THE TIED CARD OF 'zzlaws_root_b1.FnOpStringParse'. -/
def fnOpStringParseCard : Claim7 := { stood := { row := fnOpStringParseRow, standIns := [], harness := (true, "2084cbcd92f8e454b00157523d2d0e02aa4e3684b75c81e6411a7d79f4941026"), looks := false }, kinds := [], alts := [], laidByText := true, laidKinds := [.data, .data, .data], laidTests := true, laidLooks := .later }
def FnOpStringParseCardSaid : Prop := Claim7.holds Tryd.pinned (.plain (OpenSpec.ofChange fnOpStringParseSpec)) fnOpStringParseCard

/-- THE TIED CARD OF 'zzlaws_root_b1.FnOpStringDistinct'. -/
def fnOpStringDistinctCard : Claim7 := { stood := { row := fnOpStringDistinctRow, standIns := [], harness := (true, "2084cbcd92f8e454b00157523d2d0e02aa4e3684b75c81e6411a7d79f4941026"), looks := false }, kinds := [], alts := [], laidByText := true, laidKinds := [.data, .data, .data], laidTests := true, laidLooks := .later }
def FnOpStringDistinctCardSaid : Prop := Claim7.holds Tryd.pinned (.plain (OpenSpec.ofChange fnOpStringDistinctSpec)) fnOpStringDistinctCard
end Rows
end Go.Proofs.Qxb6000023aDoor
