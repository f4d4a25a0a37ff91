/-
  DERIVED. GIVEN WITH THE SEED: THE CARDS: each row of Qxb6001712aDoorRows.lean that lists a variable, with what it lists TIED to the program's text (the seventh form; the later family's looks); each row that meets fmt, with fmt's text TOLD by the authors' own Lean function (tested against real Go, not proved from fmt's source: count such statements apart). THE CARD IS WHAT COUNTS. Prove the row's statement (the work); the ties are given (Qxb6001712aDoorTie.lean); close each card by the builder's one call (the guide's Derived/Test/ToyasCard.lean, 'card_holds'). Laid BY PROGRAM, IN A SANDBOX (cutbox-door.mjs). By AI agents, Wed Nov 11 2026. No macro, syntax, notation, axiom, sorry.
-/
import Derived.Test.Qxb6001712aDoorRows
import GoSem.ClaimSeven
namespace Go.Proofs.Qxb6001712aDoor
namespace Rows

/-- THE TIED CARD OF 'zzlaws_internal_journal_g1.FnNumberOfReadsBackThePaddedNumber'. -/
def fnNumberOfReadsBackThePaddedNumberCard : Claim7 := { stood := { row := fnNumberOfReadsBackThePaddedNumberRow, standIns := [], harness := (true, "7b68f7425ec333c0aa34086ba56cc855a88275ffe6b0dec97828a9f5a0a95914"), looks := true }, kinds := [], alts := [], laidByText := true, laidKinds := [.data, .data, .data, .sentinel, .sentinel], laidTests := true, laidLooks := .later }
def FnNumberOfReadsBackThePaddedNumberCardSaid : Prop := Claim7.holds Tryd.pinned (.plain (OpenSpec.ofChange fnNumberOfReadsBackThePaddedNumberSpec)) fnNumberOfReadsBackThePaddedNumberCard

/-- THE TIED CARD OF 'zzlaws_internal_journal_g1.FnNumberOfAcceptsExactlyTheCanonicalNames'. -/
def fnNumberOfAcceptsExactlyTheCanonicalNamesCard : Claim7 := { stood := { row := fnNumberOfAcceptsExactlyTheCanonicalNamesRow, standIns := [], harness := (true, "7b68f7425ec333c0aa34086ba56cc855a88275ffe6b0dec97828a9f5a0a95914"), looks := true }, kinds := [], alts := [], laidByText := true, laidKinds := [.data, .data, .data, .sentinel, .sentinel], laidTests := true, laidLooks := .later }
def FnNumberOfAcceptsExactlyTheCanonicalNamesCardSaid : Prop := Claim7.holds Tryd.pinned (.plain (OpenSpec.ofChange fnNumberOfAcceptsExactlyTheCanonicalNamesSpec)) fnNumberOfAcceptsExactlyTheCanonicalNamesCard

/-- THE TIED CARD OF 'zzlaws_internal_journal_g1.FnNumberOfOrdersAsNamesSort'. -/
def fnNumberOfOrdersAsNamesSortCard : Claim7 := { stood := { row := fnNumberOfOrdersAsNamesSortRow, standIns := [], harness := (true, "7b68f7425ec333c0aa34086ba56cc855a88275ffe6b0dec97828a9f5a0a95914"), looks := true }, kinds := [], alts := [], laidByText := true, laidKinds := [.data, .data, .data, .sentinel, .sentinel], laidTests := true, laidLooks := .later }
def FnNumberOfOrdersAsNamesSortCardSaid : Prop := Claim7.holds Tryd.pinned (.plain (OpenSpec.ofChange fnNumberOfOrdersAsNamesSortSpec)) fnNumberOfOrdersAsNamesSortCard
end Rows
end Go.Proofs.Qxb6001712aDoor
