/-
  DERIVED. GIVEN WITH THE SEED: THE CARDS: each row of YtfadgnopfjajbaaGreatDoorRows.lean that lists a variable, with what it lists TIED to the program's text (the seventh form; the later family's looks); each row that meets fmt, with fmt's text TOLD by the authors' own Lean function (tested against real Go, not proved from fmt's source: count such statements apart). THE CARD IS WHAT COUNTS. Prove the row's statement (the work); the ties are given (YtfadgnopfjajbaaGreatDoorTie.lean); close each card by the builder's one call (the guide's Derived/Test/ToyasCard.lean, 'card_holds'). Laid BY PROGRAM, IN A SANDBOX (cutbox-door.mjs). By AI agents, Wed Nov 11 2026. No macro, syntax, notation, axiom, sorry.
-/
import Derived.Test.YtfadgnopfjajbaaGreatDoorRows
import GoSem.ClaimSeven
namespace Go.Proofs.YtfadgnopfjajbaaGreatDoor
namespace Rows

/-- THE TIED CARD OF 'laws.FnDefaults'. -/
def fnDefaultsCard : Claim7 := { stood := { row := fnDefaultsRow, standIns := [], harness := (true, "aa25a0b9f794d0c6baa01cae383dc3caed484c4ab9296c2e5469d6548013d690"), looks := true }, kinds := [], alts := [], laidByText := true, laidKinds := [.data, .handle, .sentinel, .sentinel, .listed, .sentinel, .sentinel, .sentinel, .sentinel, .sentinel, .sentinel, .pinned], laidTests := true, laidLooks := .later }
def FnDefaultsCardSaid : Prop := Claim7.holds Tryz.pinned (.plain (OpenSpec.ofChange fnDefaultsSpec)) fnDefaultsCard

/-- THE TIED CARD OF 'laws.FnQuotedTables'. -/
def fnQuotedTablesCard : Claim7 := { stood := { row := fnQuotedTablesRow, standIns := [], harness := (true, "aa25a0b9f794d0c6baa01cae383dc3caed484c4ab9296c2e5469d6548013d690"), looks := true }, kinds := [], alts := [], laidByText := true, laidKinds := [.data, .handle, .sentinel, .sentinel, .listed, .sentinel, .sentinel, .sentinel, .sentinel, .sentinel, .sentinel, .pinned], laidTests := true, laidLooks := .later }
def FnQuotedTablesCardSaid : Prop := Claim7.holds Tryz.pinned (.plain (OpenSpec.ofChange fnQuotedTablesSpec)) fnQuotedTablesCard

/-- THE TIED CARD OF 'laws.FnWrongQuoteFound'. -/
def fnWrongQuoteFoundCard : Claim7 := { stood := { row := fnWrongQuoteFoundRow, standIns := [], harness := (true, "aa25a0b9f794d0c6baa01cae383dc3caed484c4ab9296c2e5469d6548013d690"), looks := true }, kinds := [], alts := [], laidByText := true, laidKinds := [.data, .handle, .sentinel, .sentinel, .listed, .sentinel, .sentinel, .sentinel, .sentinel, .sentinel, .sentinel, .pinned], laidTests := true, laidLooks := .later }
def FnWrongQuoteFoundCardSaid : Prop := Claim7.holds Tryz.pinned (.plain (OpenSpec.ofChange fnWrongQuoteFoundSpec)) fnWrongQuoteFoundCard

/-- THE SECOND FORM's CARD OF 'laws.FnDefaults'. -/
def fnDefaultsUptoCard : Claim7 := { stood := { row := fnDefaultsUptoRow, standIns := [], harness := (true, "aa25a0b9f794d0c6baa01cae383dc3caed484c4ab9296c2e5469d6548013d690"), looks := true }, kinds := [], alts := [], laidByText := true, laidKinds := [.data, .handle, .sentinel, .sentinel, .listed, .sentinel, .sentinel, .sentinel, .sentinel, .sentinel, .sentinel, .pinned], laidTests := true, laidLooks := .later }
def FnDefaultsUptoCardSaid : Prop := Claim7.holds Tryz.pinned (.plain (OpenSpec.upto fnDefaultsSpec)) fnDefaultsUptoCard

/-- THE SECOND FORM's CARD OF 'laws.FnQuotedTables'. -/
def fnQuotedTablesUptoCard : Claim7 := { stood := { row := fnQuotedTablesUptoRow, standIns := [], harness := (true, "aa25a0b9f794d0c6baa01cae383dc3caed484c4ab9296c2e5469d6548013d690"), looks := true }, kinds := [], alts := [], laidByText := true, laidKinds := [.data, .handle, .sentinel, .sentinel, .listed, .sentinel, .sentinel, .sentinel, .sentinel, .sentinel, .sentinel, .pinned], laidTests := true, laidLooks := .later }
def FnQuotedTablesUptoCardSaid : Prop := Claim7.holds Tryz.pinned (.plain (OpenSpec.upto fnQuotedTablesSpec)) fnQuotedTablesUptoCard

/-- THE SECOND FORM's CARD OF 'laws.FnWrongQuoteFound'. -/
def fnWrongQuoteFoundUptoCard : Claim7 := { stood := { row := fnWrongQuoteFoundUptoRow, standIns := [], harness := (true, "aa25a0b9f794d0c6baa01cae383dc3caed484c4ab9296c2e5469d6548013d690"), looks := true }, kinds := [], alts := [], laidByText := true, laidKinds := [.data, .handle, .sentinel, .sentinel, .listed, .sentinel, .sentinel, .sentinel, .sentinel, .sentinel, .sentinel, .pinned], laidTests := true, laidLooks := .later }
def FnWrongQuoteFoundUptoCardSaid : Prop := Claim7.holds Tryz.pinned (.plain (OpenSpec.upto fnWrongQuoteFoundSpec)) fnWrongQuoteFoundUptoCard
end Rows
end Go.Proofs.YtfadgnopfjajbaaGreatDoor
