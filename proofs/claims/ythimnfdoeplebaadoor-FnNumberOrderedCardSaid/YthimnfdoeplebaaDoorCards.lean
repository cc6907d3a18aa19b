/-
  DERIVED. GIVEN WITH THE SEED: THE CARDS: each row of YthimnfdoeplebaaDoorRows.lean that lists a variable, with what it lists TIED to the program's text (the seventh form; the later family's looks); each row that meets fmt, with fmt's text TOLD by the authors' own Lean function (tested against real Go, not proved from fmt's source: count such statements apart). THE CARD IS WHAT COUNTS. Prove the row's statement (the work); the ties are given (YthimnfdoeplebaaDoorTie.lean); close each card by the builder's one call (the guide's Derived/Test/ToyasCard.lean, 'card_holds'). Laid BY PROGRAM, IN A SANDBOX (cutbox-door.mjs). By AI agents, Wed Nov 11 2026. No macro, syntax, notation, axiom, sorry.
-/
import Derived.Test.YthimnfdoeplebaaDoorRows
import GoSem.ClaimSeven
namespace Go.Proofs.YthimnfdoeplebaaDoor
namespace Rows

/-- THE TIED CARD OF 'laws.FnIntervalYears'. -/
def fnIntervalYearsCard : Claim7 := { stood := { row := fnIntervalYearsRow, standIns := [], harness := (true, "f01c36dabd195a6ed558fd9add142f04fb5c42df1059bff37a20f87016afa094"), looks := false }, kinds := [], alts := [], laidByText := true, laidKinds := [.data, .data, .data], laidTests := true, laidLooks := .later }
def FnIntervalYearsCardSaid : Prop := Claim7.holds Tryd.pinned (.plain (OpenSpec.ofChange fnIntervalYearsSpec)) fnIntervalYearsCard

/-- THE TIED CARD OF 'laws.FnNumberNegate'. -/
def fnNumberNegateCard : Claim7 := { stood := { row := fnNumberNegateRow, standIns := [], harness := (true, "f01c36dabd195a6ed558fd9add142f04fb5c42df1059bff37a20f87016afa094"), looks := false }, kinds := [], alts := [], laidByText := true, laidKinds := [.data, .data, .data], laidTests := true, laidLooks := .later }
def FnNumberNegateCardSaid : Prop := Claim7.holds Tryd.pinned (.plain (OpenSpec.ofChange fnNumberNegateSpec)) fnNumberNegateCard

/-- THE TIED CARD OF 'laws.FnNumberOrder'. -/
def fnNumberOrderCard : Claim7 := { stood := { row := fnNumberOrderRow, standIns := [], harness := (true, "f01c36dabd195a6ed558fd9add142f04fb5c42df1059bff37a20f87016afa094"), looks := false }, kinds := [], alts := [], laidByText := true, laidKinds := [.data, .data, .data], laidTests := true, laidLooks := .later }
def FnNumberOrderCardSaid : Prop := Claim7.holds Tryd.pinned (.plain (OpenSpec.ofChange fnNumberOrderSpec)) fnNumberOrderCard

/-- THE TIED CARD OF 'laws.FnNumberTaken'. -/
def fnNumberTakenCard : Claim7 := { stood := { row := fnNumberTakenRow, standIns := [], harness := (true, "f01c36dabd195a6ed558fd9add142f04fb5c42df1059bff37a20f87016afa094"), looks := false }, kinds := [], alts := [], laidByText := true, laidKinds := [.data, .data, .data], laidTests := true, laidLooks := .later }
def FnNumberTakenCardSaid : Prop := Claim7.holds Tryd.pinned (.plain (OpenSpec.ofChange fnNumberTakenSpec)) fnNumberTakenCard

/-- THE TIED CARD OF 'laws.FnNumberUints'. -/
def fnNumberUintsCard : Claim7 := { stood := { row := fnNumberUintsRow, standIns := [], harness := (true, "f01c36dabd195a6ed558fd9add142f04fb5c42df1059bff37a20f87016afa094"), looks := false }, kinds := [], alts := [], laidByText := true, laidKinds := [.data, .data, .data], laidTests := true, laidLooks := .later }
def FnNumberUintsCardSaid : Prop := Claim7.holds Tryd.pinned (.plain (OpenSpec.ofChange fnNumberUintsSpec)) fnNumberUintsCard

/-- THE TIED CARD OF 'laws.FnNumberOrdered'. -/
def fnNumberOrderedCard : Claim7 := { stood := { row := fnNumberOrderedRow, standIns := [], harness := (true, "f01c36dabd195a6ed558fd9add142f04fb5c42df1059bff37a20f87016afa094"), looks := false }, kinds := [], alts := [], laidByText := true, laidKinds := [.data, .data, .data], laidTests := true, laidLooks := .later }
def FnNumberOrderedCardSaid : Prop := Claim7.holds Tryd.pinned (.plain (OpenSpec.ofChange fnNumberOrderedSpec)) fnNumberOrderedCard

/-- THE TIED CARD OF 'laws.FnNumberParts'. -/
def fnNumberPartsCard : Claim7 := { stood := { row := fnNumberPartsRow, standIns := [], harness := (true, "f01c36dabd195a6ed558fd9add142f04fb5c42df1059bff37a20f87016afa094"), looks := false }, kinds := [], alts := [], laidByText := true, laidKinds := [.data, .data, .data], laidTests := true, laidLooks := .later }
def FnNumberPartsCardSaid : Prop := Claim7.holds Tryd.pinned (.plain (OpenSpec.ofChange fnNumberPartsSpec)) fnNumberPartsCard

/-- THE TIED CARD OF 'laws.FnJoinLedger'. -/
def fnJoinLedgerCard : Claim7 := { stood := { row := fnJoinLedgerRow, standIns := [], harness := (true, "f01c36dabd195a6ed558fd9add142f04fb5c42df1059bff37a20f87016afa094"), looks := false }, kinds := [], alts := [], laidByText := true, laidKinds := [.data, .data, .data], laidTests := true, laidLooks := .later }
def FnJoinLedgerCardSaid : Prop := Claim7.holds Tryd.pinned (.plain (OpenSpec.ofChange fnJoinLedgerSpec)) fnJoinLedgerCard

/-- THE TIED CARD OF 'laws.FnNumberSum'. -/
def fnNumberSumCard : Claim7 := { stood := { row := fnNumberSumRow, standIns := [], harness := (true, "f01c36dabd195a6ed558fd9add142f04fb5c42df1059bff37a20f87016afa094"), looks := false }, kinds := [], alts := [], laidByText := true, laidKinds := [.data, .data, .data], laidTests := true, laidLooks := .later }
def FnNumberSumCardSaid : Prop := Claim7.holds Tryd.pinned (.plain (OpenSpec.ofChange fnNumberSumSpec)) fnNumberSumCard

/-- THE TIED CARD OF 'laws.FnJoinSorted'. -/
def fnJoinSortedCard : Claim7 := { stood := { row := fnJoinSortedRow, standIns := [], harness := (true, "f01c36dabd195a6ed558fd9add142f04fb5c42df1059bff37a20f87016afa094"), looks := false }, kinds := [], alts := [], laidByText := true, laidKinds := [.data, .data, .data, .data, .pinned], laidTests := true, laidLooks := .later }
def FnJoinSortedCardSaid : Prop := Claim7.holds Tryd.pinned (.plain (OpenSpec.ofChange fnJoinSortedSpec)) fnJoinSortedCard

/-- THE TIED CARD OF 'laws.FnNumberCut'. -/
def fnNumberCutCard : Claim7 := { stood := { row := fnNumberCutRow, standIns := [], harness := (true, "f01c36dabd195a6ed558fd9add142f04fb5c42df1059bff37a20f87016afa094"), looks := false }, kinds := [], alts := [], laidByText := true, laidKinds := [.data, .data, .data], laidTests := true, laidLooks := .later }
def FnNumberCutCardSaid : Prop := Claim7.holds Tryd.pinned (.plain (OpenSpec.ofChange fnNumberCutSpec)) fnNumberCutCard

/-- THE SECOND FORM's CARD OF 'laws.FnIntervalYears'. -/
def fnIntervalYearsUptoCard : Claim7 := { stood := { row := fnIntervalYearsUptoRow, standIns := [], harness := (true, "f01c36dabd195a6ed558fd9add142f04fb5c42df1059bff37a20f87016afa094"), looks := false }, kinds := [], alts := [], laidByText := true, laidKinds := [.data, .data, .data], laidTests := true, laidLooks := .later }
def FnIntervalYearsUptoCardSaid : Prop := Claim7.holds Tryd.pinned (.plain (OpenSpec.upto fnIntervalYearsSpec)) fnIntervalYearsUptoCard

/-- THE SECOND FORM's CARD OF 'laws.FnNumberNegate'. -/
def fnNumberNegateUptoCard : Claim7 := { stood := { row := fnNumberNegateUptoRow, standIns := [], harness := (true, "f01c36dabd195a6ed558fd9add142f04fb5c42df1059bff37a20f87016afa094"), looks := false }, kinds := [], alts := [], laidByText := true, laidKinds := [.data, .data, .data], laidTests := true, laidLooks := .later }
def FnNumberNegateUptoCardSaid : Prop := Claim7.holds Tryd.pinned (.plain (OpenSpec.upto fnNumberNegateSpec)) fnNumberNegateUptoCard

/-- THE SECOND FORM's CARD OF 'laws.FnNumberOrder'. -/
def fnNumberOrderUptoCard : Claim7 := { stood := { row := fnNumberOrderUptoRow, standIns := [], harness := (true, "f01c36dabd195a6ed558fd9add142f04fb5c42df1059bff37a20f87016afa094"), looks := false }, kinds := [], alts := [], laidByText := true, laidKinds := [.data, .data, .data], laidTests := true, laidLooks := .later }
def FnNumberOrderUptoCardSaid : Prop := Claim7.holds Tryd.pinned (.plain (OpenSpec.upto fnNumberOrderSpec)) fnNumberOrderUptoCard

/-- THE SECOND FORM's CARD OF 'laws.FnNumberTaken'. -/
def fnNumberTakenUptoCard : Claim7 := { stood := { row := fnNumberTakenUptoRow, standIns := [], harness := (true, "f01c36dabd195a6ed558fd9add142f04fb5c42df1059bff37a20f87016afa094"), looks := false }, kinds := [], alts := [], laidByText := true, laidKinds := [.data, .data, .data], laidTests := true, laidLooks := .later }
def FnNumberTakenUptoCardSaid : Prop := Claim7.holds Tryd.pinned (.plain (OpenSpec.upto fnNumberTakenSpec)) fnNumberTakenUptoCard

/-- THE SECOND FORM's CARD OF 'laws.FnNumberUints'. -/
def fnNumberUintsUptoCard : Claim7 := { stood := { row := fnNumberUintsUptoRow, standIns := [], harness := (true, "f01c36dabd195a6ed558fd9add142f04fb5c42df1059bff37a20f87016afa094"), looks := false }, kinds := [], alts := [], laidByText := true, laidKinds := [.data, .data, .data], laidTests := true, laidLooks := .later }
def FnNumberUintsUptoCardSaid : Prop := Claim7.holds Tryd.pinned (.plain (OpenSpec.upto fnNumberUintsSpec)) fnNumberUintsUptoCard

/-- THE SECOND FORM's CARD OF 'laws.FnNumberOrdered'. -/
def fnNumberOrderedUptoCard : Claim7 := { stood := { row := fnNumberOrderedUptoRow, standIns := [], harness := (true, "f01c36dabd195a6ed558fd9add142f04fb5c42df1059bff37a20f87016afa094"), looks := false }, kinds := [], alts := [], laidByText := true, laidKinds := [.data, .data, .data], laidTests := true, laidLooks := .later }
def FnNumberOrderedUptoCardSaid : Prop := Claim7.holds Tryd.pinned (.plain (OpenSpec.upto fnNumberOrderedSpec)) fnNumberOrderedUptoCard

/-- THE SECOND FORM's CARD OF 'laws.FnNumberParts'. -/
def fnNumberPartsUptoCard : Claim7 := { stood := { row := fnNumberPartsUptoRow, standIns := [], harness := (true, "f01c36dabd195a6ed558fd9add142f04fb5c42df1059bff37a20f87016afa094"), looks := false }, kinds := [], alts := [], laidByText := true, laidKinds := [.data, .data, .data], laidTests := true, laidLooks := .later }
def FnNumberPartsUptoCardSaid : Prop := Claim7.holds Tryd.pinned (.plain (OpenSpec.upto fnNumberPartsSpec)) fnNumberPartsUptoCard

/-- THE SECOND FORM's CARD OF 'laws.FnJoinLedger'. -/
def fnJoinLedgerUptoCard : Claim7 := { stood := { row := fnJoinLedgerUptoRow, standIns := [], harness := (true, "f01c36dabd195a6ed558fd9add142f04fb5c42df1059bff37a20f87016afa094"), looks := false }, kinds := [], alts := [], laidByText := true, laidKinds := [.data, .data, .data], laidTests := true, laidLooks := .later }
def FnJoinLedgerUptoCardSaid : Prop := Claim7.holds Tryd.pinned (.plain (OpenSpec.upto fnJoinLedgerSpec)) fnJoinLedgerUptoCard

/-- THE SECOND FORM's CARD OF 'laws.FnNumberSum'. -/
def fnNumberSumUptoCard : Claim7 := { stood := { row := fnNumberSumUptoRow, standIns := [], harness := (true, "f01c36dabd195a6ed558fd9add142f04fb5c42df1059bff37a20f87016afa094"), looks := false }, kinds := [], alts := [], laidByText := true, laidKinds := [.data, .data, .data], laidTests := true, laidLooks := .later }
def FnNumberSumUptoCardSaid : Prop := Claim7.holds Tryd.pinned (.plain (OpenSpec.upto fnNumberSumSpec)) fnNumberSumUptoCard

/-- THE SECOND FORM's CARD OF 'laws.FnJoinSorted'. -/
def fnJoinSortedUptoCard : Claim7 := { stood := { row := fnJoinSortedUptoRow, standIns := [], harness := (true, "f01c36dabd195a6ed558fd9add142f04fb5c42df1059bff37a20f87016afa094"), looks := false }, kinds := [], alts := [], laidByText := true, laidKinds := [.data, .data, .data, .data, .pinned], laidTests := true, laidLooks := .later }
def FnJoinSortedUptoCardSaid : Prop := Claim7.holds Tryd.pinned (.plain (OpenSpec.upto fnJoinSortedSpec)) fnJoinSortedUptoCard

/-- THE SECOND FORM's CARD OF 'laws.FnNumberCut'. -/
def fnNumberCutUptoCard : Claim7 := { stood := { row := fnNumberCutUptoRow, standIns := [], harness := (true, "f01c36dabd195a6ed558fd9add142f04fb5c42df1059bff37a20f87016afa094"), looks := false }, kinds := [], alts := [], laidByText := true, laidKinds := [.data, .data, .data], laidTests := true, laidLooks := .later }
def FnNumberCutUptoCardSaid : Prop := Claim7.holds Tryd.pinned (.plain (OpenSpec.upto fnNumberCutSpec)) fnNumberCutUptoCard
end Rows
end Go.Proofs.YthimnfdoeplebaaDoor
