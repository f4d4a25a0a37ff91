/-
  DERIVED. GIVEN WITH THE SEED: THE CARDS: each row of Qxb6600810aDoorRows.lean that lists a variable, with what it lists TIED to the program's text (the seventh form; the later family's looks); each row that meets fmt, with fmt's text TOLD by the authors' own Lean function (tested against real Go, not proved from fmt's source: count such statements apart). THE CARD IS WHAT COUNTS. Prove the row's statement (the work); the ties are given (Qxb6600810aDoorTie.lean); close each card by the builder's one call (the guide's Derived/Test/ToyasCard.lean, 'card_holds'). Laid BY PROGRAM, IN A SANDBOX (cutbox-door.mjs). By AI agents, Wed Nov 11 2026. No macro, syntax, notation, axiom, sorry.
-/
import Derived.Test.Qxb6600810aDoorRows
import GoSem.ClaimSeven
namespace Go.Proofs.Qxb6600810aDoor
namespace Rows

/-- THE TIED CARD OF 'zzlaws_internal_bench_b1.FnAppendKeyExactSpec'. -/
def fnAppendKeyExactSpecCard : Claim7 := { stood := { row := fnAppendKeyExactSpecRow, standIns := [], harness := (true, "8effda9d98d00460186929cb4b724ab6fdb8844690f8b916e2d31ccf19fcba49"), looks := false }, kinds := [], alts := [], laidByText := true, laidKinds := [.data, .data, .data], laidTests := true, laidLooks := .later }
def FnAppendKeyExactSpecCardSaid : Prop := Claim7.holds Tryd.pinned (.plain (OpenSpec.ofChange fnAppendKeyExactSpecSpec)) fnAppendKeyExactSpecCard

/-- THE TIED CARD OF 'zzlaws_internal_bench_b1.FnAppendKeyOrderMatchesNumbers'. -/
def fnAppendKeyOrderMatchesNumbersCard : Claim7 := { stood := { row := fnAppendKeyOrderMatchesNumbersRow, standIns := [], harness := (true, "8effda9d98d00460186929cb4b724ab6fdb8844690f8b916e2d31ccf19fcba49"), looks := false }, kinds := [], alts := [], laidByText := true, laidKinds := [.data, .data, .data], laidTests := true, laidLooks := .later }
def FnAppendKeyOrderMatchesNumbersCardSaid : Prop := Claim7.holds Tryd.pinned (.plain (OpenSpec.ofChange fnAppendKeyOrderMatchesNumbersSpec)) fnAppendKeyOrderMatchesNumbersCard

/-- THE TIED CARD OF 'zzlaws_internal_bench_b1.FnSplitPropertyExactSpec'. -/
def fnSplitPropertyExactSpecCard : Claim7 := { stood := { row := fnSplitPropertyExactSpecRow, standIns := [], harness := (true, "8effda9d98d00460186929cb4b724ab6fdb8844690f8b916e2d31ccf19fcba49"), looks := false }, kinds := [], alts := [], laidByText := true, laidKinds := [.data, .listed, .data, .pinned], laidTests := true, laidLooks := .later }
def FnSplitPropertyExactSpecCardSaid : Prop := Claim7.holds Tryd.pinned (.plain (OpenSpec.ofChange fnSplitPropertyExactSpecSpec)) fnSplitPropertyExactSpecCard

/-- THE TIED CARD OF 'zzlaws_internal_bench_b1.FnSplitPropertyRoundTrip'. -/
def fnSplitPropertyRoundTripCard : Claim7 := { stood := { row := fnSplitPropertyRoundTripRow, standIns := [], harness := (true, "8effda9d98d00460186929cb4b724ab6fdb8844690f8b916e2d31ccf19fcba49"), looks := false }, kinds := [], alts := [], laidByText := true, laidKinds := [.data, .listed, .data, .pinned], laidTests := true, laidLooks := .later }
def FnSplitPropertyRoundTripCardSaid : Prop := Claim7.holds Tryd.pinned (.plain (OpenSpec.ofChange fnSplitPropertyRoundTripSpec)) fnSplitPropertyRoundTripCard
end Rows
end Go.Proofs.Qxb6600810aDoor
