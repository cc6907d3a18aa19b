/-
  DERIVED. GIVEN WITH THE SEED: THE CARDS: each row of YtoaajnhbcekglaaDoorRows.lean that lists a variable, with what it lists TIED to the program's text (the seventh form; the later family's looks); each row that meets fmt, with fmt's text TOLD by the authors' own Lean function (tested against real Go, not proved from fmt's source: count such statements apart). THE CARD IS WHAT COUNTS. Prove the row's statement (the work); the ties are given (YtoaajnhbcekglaaDoorTie.lean); close each card by the builder's one call (the guide's Derived/Test/ToyasCard.lean, 'card_holds'). Laid BY PROGRAM, IN A SANDBOX (cutbox-door.mjs). By AI agents, Wed Nov 11 2026. No macro, syntax, notation, axiom, sorry.
-/
import Derived.Test.YtoaajnhbcekglaaDoorRows
import GoSem.ClaimSeven
namespace Go.Proofs.YtoaajnhbcekglaaDoor
namespace Rows

/-- THE TIED CARD OF 'laws.FnPacketHead'. -/
def fnPacketHeadCard : Claim7 := { stood := { row := fnPacketHeadRow, standIns := [], harness := (true, "7608c8b8b8da38f03e46cc5086a07d69426d61513055b3233f2b77f76284649a"), looks := false }, kinds := [], alts := [], laidByText := true, laidKinds := [.sentinel], laidTests := true, laidLooks := .later }
def FnPacketHeadCardSaid : Prop := Claim7.holds Tryd.pinned (.plain (OpenSpec.ofChange fnPacketHeadSpec)) fnPacketHeadCard

/-- THE TIED CARD OF 'laws.FnPacketRefuseCut'. -/
def fnPacketRefuseCutCard : Claim7 := { stood := { row := fnPacketRefuseCutRow, standIns := [], harness := (true, "7608c8b8b8da38f03e46cc5086a07d69426d61513055b3233f2b77f76284649a"), looks := false }, kinds := [], alts := [], laidByText := true, laidKinds := [.sentinel], laidTests := true, laidLooks := .later }
def FnPacketRefuseCutCardSaid : Prop := Claim7.holds Tryd.pinned (.plain (OpenSpec.ofChange fnPacketRefuseCutSpec)) fnPacketRefuseCutCard

/-- THE TIED CARD OF 'laws.FnPacketNested'. -/
def fnPacketNestedCard : Claim7 := { stood := { row := fnPacketNestedRow, standIns := [], harness := (true, "7608c8b8b8da38f03e46cc5086a07d69426d61513055b3233f2b77f76284649a"), looks := false }, kinds := [], alts := [], laidByText := true, laidKinds := [.sentinel], laidTests := true, laidLooks := .later }
def FnPacketNestedCardSaid : Prop := Claim7.holds Tryd.pinned (.plain (OpenSpec.ofChange fnPacketNestedSpec)) fnPacketNestedCard

/-- THE TIED CARD OF 'laws.FnPacketParts'. -/
def fnPacketPartsCard : Claim7 := { stood := { row := fnPacketPartsRow, standIns := [], harness := (true, "7608c8b8b8da38f03e46cc5086a07d69426d61513055b3233f2b77f76284649a"), looks := false }, kinds := [], alts := [], laidByText := true, laidKinds := [.sentinel], laidTests := true, laidLooks := .later }
def FnPacketPartsCardSaid : Prop := Claim7.holds Tryd.pinned (.plain (OpenSpec.ofChange fnPacketPartsSpec)) fnPacketPartsCard

/-- THE TIED CARD OF 'laws.FnPacketMarked'. -/
def fnPacketMarkedCard : Claim7 := { stood := { row := fnPacketMarkedRow, standIns := [], harness := (true, "7608c8b8b8da38f03e46cc5086a07d69426d61513055b3233f2b77f76284649a"), looks := false }, kinds := [], alts := [], laidByText := true, laidKinds := [.sentinel], laidTests := true, laidLooks := .later }
def FnPacketMarkedCardSaid : Prop := Claim7.holds Tryd.pinned (.plain (OpenSpec.ofChange fnPacketMarkedSpec)) fnPacketMarkedCard

/-- THE TIED CARD OF 'laws.FnPacketAccept'. -/
def fnPacketAcceptCard : Claim7 := { stood := { row := fnPacketAcceptRow, standIns := [], harness := (true, "7608c8b8b8da38f03e46cc5086a07d69426d61513055b3233f2b77f76284649a"), looks := false }, kinds := [], alts := [], laidByText := true, laidKinds := [.sentinel], laidTests := true, laidLooks := .later }
def FnPacketAcceptCardSaid : Prop := Claim7.holds Tryd.pinned (.plain (OpenSpec.ofChange fnPacketAcceptSpec)) fnPacketAcceptCard

/-- THE TIED CARD OF 'laws.FnPacketCarried'. -/
def fnPacketCarriedCard : Claim7 := { stood := { row := fnPacketCarriedRow, standIns := [], harness := (true, "7608c8b8b8da38f03e46cc5086a07d69426d61513055b3233f2b77f76284649a"), looks := false }, kinds := [], alts := [], laidByText := true, laidKinds := [.sentinel], laidTests := true, laidLooks := .later }
def FnPacketCarriedCardSaid : Prop := Claim7.holds Tryd.pinned (.plain (OpenSpec.ofChange fnPacketCarriedSpec)) fnPacketCarriedCard

/-- THE SECOND FORM's CARD OF 'laws.FnPacketHead'. -/
def fnPacketHeadUptoCard : Claim7 := { stood := { row := fnPacketHeadUptoRow, standIns := [], harness := (true, "7608c8b8b8da38f03e46cc5086a07d69426d61513055b3233f2b77f76284649a"), looks := false }, kinds := [], alts := [], laidByText := true, laidKinds := [.sentinel], laidTests := true, laidLooks := .later }
def FnPacketHeadUptoCardSaid : Prop := Claim7.holds Tryd.pinned (.plain (OpenSpec.upto fnPacketHeadSpec)) fnPacketHeadUptoCard

/-- THE SECOND FORM's CARD OF 'laws.FnPacketRefuseCut'. -/
def fnPacketRefuseCutUptoCard : Claim7 := { stood := { row := fnPacketRefuseCutUptoRow, standIns := [], harness := (true, "7608c8b8b8da38f03e46cc5086a07d69426d61513055b3233f2b77f76284649a"), looks := false }, kinds := [], alts := [], laidByText := true, laidKinds := [.sentinel], laidTests := true, laidLooks := .later }
def FnPacketRefuseCutUptoCardSaid : Prop := Claim7.holds Tryd.pinned (.plain (OpenSpec.upto fnPacketRefuseCutSpec)) fnPacketRefuseCutUptoCard

/-- THE SECOND FORM's CARD OF 'laws.FnPacketNested'. -/
def fnPacketNestedUptoCard : Claim7 := { stood := { row := fnPacketNestedUptoRow, standIns := [], harness := (true, "7608c8b8b8da38f03e46cc5086a07d69426d61513055b3233f2b77f76284649a"), looks := false }, kinds := [], alts := [], laidByText := true, laidKinds := [.sentinel], laidTests := true, laidLooks := .later }
def FnPacketNestedUptoCardSaid : Prop := Claim7.holds Tryd.pinned (.plain (OpenSpec.upto fnPacketNestedSpec)) fnPacketNestedUptoCard

/-- THE SECOND FORM's CARD OF 'laws.FnPacketParts'. -/
def fnPacketPartsUptoCard : Claim7 := { stood := { row := fnPacketPartsUptoRow, standIns := [], harness := (true, "7608c8b8b8da38f03e46cc5086a07d69426d61513055b3233f2b77f76284649a"), looks := false }, kinds := [], alts := [], laidByText := true, laidKinds := [.sentinel], laidTests := true, laidLooks := .later }
def FnPacketPartsUptoCardSaid : Prop := Claim7.holds Tryd.pinned (.plain (OpenSpec.upto fnPacketPartsSpec)) fnPacketPartsUptoCard

/-- THE SECOND FORM's CARD OF 'laws.FnPacketMarked'. -/
def fnPacketMarkedUptoCard : Claim7 := { stood := { row := fnPacketMarkedUptoRow, standIns := [], harness := (true, "7608c8b8b8da38f03e46cc5086a07d69426d61513055b3233f2b77f76284649a"), looks := false }, kinds := [], alts := [], laidByText := true, laidKinds := [.sentinel], laidTests := true, laidLooks := .later }
def FnPacketMarkedUptoCardSaid : Prop := Claim7.holds Tryd.pinned (.plain (OpenSpec.upto fnPacketMarkedSpec)) fnPacketMarkedUptoCard

/-- THE SECOND FORM's CARD OF 'laws.FnPacketAccept'. -/
def fnPacketAcceptUptoCard : Claim7 := { stood := { row := fnPacketAcceptUptoRow, standIns := [], harness := (true, "7608c8b8b8da38f03e46cc5086a07d69426d61513055b3233f2b77f76284649a"), looks := false }, kinds := [], alts := [], laidByText := true, laidKinds := [.sentinel], laidTests := true, laidLooks := .later }
def FnPacketAcceptUptoCardSaid : Prop := Claim7.holds Tryd.pinned (.plain (OpenSpec.upto fnPacketAcceptSpec)) fnPacketAcceptUptoCard

/-- THE SECOND FORM's CARD OF 'laws.FnPacketCarried'. -/
def fnPacketCarriedUptoCard : Claim7 := { stood := { row := fnPacketCarriedUptoRow, standIns := [], harness := (true, "7608c8b8b8da38f03e46cc5086a07d69426d61513055b3233f2b77f76284649a"), looks := false }, kinds := [], alts := [], laidByText := true, laidKinds := [.sentinel], laidTests := true, laidLooks := .later }
def FnPacketCarriedUptoCardSaid : Prop := Claim7.holds Tryd.pinned (.plain (OpenSpec.upto fnPacketCarriedSpec)) fnPacketCarriedUptoCard
end Rows
end Go.Proofs.YtoaajnhbcekglaaDoor
