/-
  DERIVED. GIVEN WITH THE SEED: THE CARDS: each row of YtgilnagajcfkpaaGreatDoorRows.lean that lists a variable, with what it lists TIED to the program's text (the seventh form; the later family's looks); each row that meets fmt, with fmt's text TOLD by the authors' own Lean function (tested against real Go, not proved from fmt's source: count such statements apart). THE CARD IS WHAT COUNTS. Prove the row's statement (the work); the ties are given (YtgilnagajcfkpaaGreatDoorTie.lean); close each card by the builder's one call (the guide's Derived/Test/ToyasCard.lean, 'card_holds'). Laid BY PROGRAM, IN A SANDBOX (cutbox-door.mjs). By AI agents, Wed Nov 11 2026. No macro, syntax, notation, axiom, sorry.
-/
import Derived.Test.YtgilnagajcfkpaaGreatDoorRows
import GoSem.ClaimSeven
namespace Go.Proofs.YtgilnagajcfkpaaGreatDoor
namespace Rows

/-- THE TIED CARD OF 'laws.FnDTampered'. -/
def fnDTamperedCard : Claim7 := { stood := { row := fnDTamperedRow, standIns := [], harness := (true, "959f93f4da09341aabdb8dbd38713d54dedc5cf3bc115a68e3a2710f29ac275b"), looks := true }, kinds := [], alts := [], laidByText := true, laidKinds := [.data, .data, .data, .data, .sentinel, .sentinel, .sentinel, .sentinel, .sentinel, .sentinel, .sentinel, .sentinel, .sentinel, .data], laidTests := true, laidLooks := .later }
def FnDTamperedCardSaid : Prop := Claim7.holds Tryz.pinned (.plain (OpenSpec.ofChange fnDTamperedSpec)) fnDTamperedCard

/-- THE TIED CARD OF 'laws.FnDBodyChanged'. -/
def fnDBodyChangedCard : Claim7 := { stood := { row := fnDBodyChangedRow, standIns := [], harness := (true, "959f93f4da09341aabdb8dbd38713d54dedc5cf3bc115a68e3a2710f29ac275b"), looks := true }, kinds := [], alts := [], laidByText := true, laidKinds := [.data, .data, .data, .data, .sentinel, .sentinel, .sentinel, .sentinel, .sentinel, .sentinel, .sentinel, .sentinel, .sentinel, .data], laidTests := true, laidLooks := .later }
def FnDBodyChangedCardSaid : Prop := Claim7.holds Tryz.pinned (.plain (OpenSpec.ofChange fnDBodyChangedSpec)) fnDBodyChangedCard

/-- THE TIED CARD OF 'laws.FnDHeadChanged'. -/
def fnDHeadChangedCard : Claim7 := { stood := { row := fnDHeadChangedRow, standIns := [], harness := (true, "959f93f4da09341aabdb8dbd38713d54dedc5cf3bc115a68e3a2710f29ac275b"), looks := true }, kinds := [], alts := [], laidByText := true, laidKinds := [.data, .data, .data, .data, .sentinel, .sentinel, .sentinel, .sentinel, .sentinel, .sentinel, .sentinel, .sentinel, .sentinel, .data], laidTests := true, laidLooks := .later }
def FnDHeadChangedCardSaid : Prop := Claim7.holds Tryz.pinned (.plain (OpenSpec.ofChange fnDHeadChangedSpec)) fnDHeadChangedCard

/-- THE TIED CARD OF 'laws.FnDOversigned'. -/
def fnDOversignedCard : Claim7 := { stood := { row := fnDOversignedRow, standIns := [], harness := (true, "959f93f4da09341aabdb8dbd38713d54dedc5cf3bc115a68e3a2710f29ac275b"), looks := true }, kinds := [], alts := [], laidByText := true, laidKinds := [.data, .data, .data, .data, .sentinel, .sentinel, .sentinel, .sentinel, .sentinel, .sentinel, .sentinel, .sentinel, .sentinel, .data], laidTests := true, laidLooks := .later }
def FnDOversignedCardSaid : Prop := Claim7.holds Tryz.pinned (.plain (OpenSpec.ofChange fnDOversignedSpec)) fnDOversignedCard

/-- THE SECOND FORM's CARD OF 'laws.FnDTampered'. -/
def fnDTamperedUptoCard : Claim7 := { stood := { row := fnDTamperedUptoRow, standIns := [], harness := (true, "959f93f4da09341aabdb8dbd38713d54dedc5cf3bc115a68e3a2710f29ac275b"), looks := true }, kinds := [], alts := [], laidByText := true, laidKinds := [.data, .data, .data, .data, .sentinel, .sentinel, .sentinel, .sentinel, .sentinel, .sentinel, .sentinel, .sentinel, .sentinel, .data], laidTests := true, laidLooks := .later }
def FnDTamperedUptoCardSaid : Prop := Claim7.holds Tryz.pinned (.plain (OpenSpec.upto fnDTamperedSpec)) fnDTamperedUptoCard

/-- THE SECOND FORM's CARD OF 'laws.FnDBodyChanged'. -/
def fnDBodyChangedUptoCard : Claim7 := { stood := { row := fnDBodyChangedUptoRow, standIns := [], harness := (true, "959f93f4da09341aabdb8dbd38713d54dedc5cf3bc115a68e3a2710f29ac275b"), looks := true }, kinds := [], alts := [], laidByText := true, laidKinds := [.data, .data, .data, .data, .sentinel, .sentinel, .sentinel, .sentinel, .sentinel, .sentinel, .sentinel, .sentinel, .sentinel, .data], laidTests := true, laidLooks := .later }
def FnDBodyChangedUptoCardSaid : Prop := Claim7.holds Tryz.pinned (.plain (OpenSpec.upto fnDBodyChangedSpec)) fnDBodyChangedUptoCard

/-- THE SECOND FORM's CARD OF 'laws.FnDHeadChanged'. -/
def fnDHeadChangedUptoCard : Claim7 := { stood := { row := fnDHeadChangedUptoRow, standIns := [], harness := (true, "959f93f4da09341aabdb8dbd38713d54dedc5cf3bc115a68e3a2710f29ac275b"), looks := true }, kinds := [], alts := [], laidByText := true, laidKinds := [.data, .data, .data, .data, .sentinel, .sentinel, .sentinel, .sentinel, .sentinel, .sentinel, .sentinel, .sentinel, .sentinel, .data], laidTests := true, laidLooks := .later }
def FnDHeadChangedUptoCardSaid : Prop := Claim7.holds Tryz.pinned (.plain (OpenSpec.upto fnDHeadChangedSpec)) fnDHeadChangedUptoCard

/-- THE SECOND FORM's CARD OF 'laws.FnDOversigned'. -/
def fnDOversignedUptoCard : Claim7 := { stood := { row := fnDOversignedUptoRow, standIns := [], harness := (true, "959f93f4da09341aabdb8dbd38713d54dedc5cf3bc115a68e3a2710f29ac275b"), looks := true }, kinds := [], alts := [], laidByText := true, laidKinds := [.data, .data, .data, .data, .sentinel, .sentinel, .sentinel, .sentinel, .sentinel, .sentinel, .sentinel, .sentinel, .sentinel, .data], laidTests := true, laidLooks := .later }
def FnDOversignedUptoCardSaid : Prop := Claim7.holds Tryz.pinned (.plain (OpenSpec.upto fnDOversignedSpec)) fnDOversignedUptoCard
end Rows
end Go.Proofs.YtgilnagajcfkpaaGreatDoor
