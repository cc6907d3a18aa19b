/-
  DERIVED. GIVEN WITH THE SEED: THE CARDS: each row of YtkonfcgdokabaaaDoorRows.lean that lists a variable, with what it lists TIED to the program's text (the seventh form; the later family's looks); each row that meets fmt, with fmt's text TOLD by the authors' own Lean function (tested against real Go, not proved from fmt's source: count such statements apart). THE CARD IS WHAT COUNTS. Prove the row's statement (the work); the ties are given (YtkonfcgdokabaaaDoorTie.lean); close each card by the builder's one call (the guide's Derived/Test/ToyasCard.lean, 'card_holds'). Laid BY PROGRAM, IN A SANDBOX (cutbox-door.mjs). By AI agents, Wed Nov 11 2026. No macro, syntax, notation, axiom, sorry.
-/
import Derived.Test.YtkonfcgdokabaaaDoorRows
import GoSem.ClaimSeven
namespace Go.Proofs.YtkonfcgdokabaaaDoor
namespace Rows

/-- THE TIED CARD OF 'laws.FnServedRound'. -/
def fnServedRoundCard : Claim7 := { stood := { row := fnServedRoundRow, standIns := [], harness := (true, "976b104f34cd35020c1b1edef87c3c77b22f87c05b9187cfad9195abf2df5fc0"), looks := false }, kinds := [], alts := [], laidByText := true, laidKinds := [.data, .data, .data, .pinned, .pinned], laidTests := true, laidLooks := .later }
def FnServedRoundCardSaid : Prop := Claim7.holds Tryd.pinned (.plain (OpenSpec.ofChange fnServedRoundSpec)) fnServedRoundCard

/-- THE TIED CARD OF 'laws.FnServedFirst'. -/
def fnServedFirstCard : Claim7 := { stood := { row := fnServedFirstRow, standIns := [], harness := (true, "976b104f34cd35020c1b1edef87c3c77b22f87c05b9187cfad9195abf2df5fc0"), looks := false }, kinds := [], alts := [], laidByText := true, laidKinds := [.data, .data, .data, .pinned, .pinned], laidTests := true, laidLooks := .later }
def FnServedFirstCardSaid : Prop := Claim7.holds Tryd.pinned (.plain (OpenSpec.ofChange fnServedFirstSpec)) fnServedFirstCard

/-- THE TIED CARD OF 'laws.FnNetworkBack'. -/
def fnNetworkBackCard : Claim7 := { stood := { row := fnNetworkBackRow, standIns := [], harness := (true, "976b104f34cd35020c1b1edef87c3c77b22f87c05b9187cfad9195abf2df5fc0"), looks := false }, kinds := [], alts := [], laidByText := true, laidKinds := [.data, .data, .data, .data, .pinned, .pinned], laidTests := true, laidLooks := .later }
def FnNetworkBackCardSaid : Prop := Claim7.holds Tryd.pinned (.plain (OpenSpec.ofChange fnNetworkBackSpec)) fnNetworkBackCard

/-- THE TIED CARD OF 'laws.FnPrivilegeCase'. -/
def fnPrivilegeCaseCard : Claim7 := { stood := { row := fnPrivilegeCaseRow, standIns := [], harness := (true, "976b104f34cd35020c1b1edef87c3c77b22f87c05b9187cfad9195abf2df5fc0"), looks := false }, kinds := [], alts := [], laidByText := true, laidKinds := [.data, .data, .data, .data, .pinned, .pinned], laidTests := true, laidLooks := .later }
def FnPrivilegeCaseCardSaid : Prop := Claim7.holds Tryd.pinned (.plain (OpenSpec.ofChange fnPrivilegeCaseSpec)) fnPrivilegeCaseCard

/-- THE TIED CARD OF 'laws.FnServerEqual'. -/
def fnServerEqualCard : Claim7 := { stood := { row := fnServerEqualRow, standIns := [], harness := (true, "976b104f34cd35020c1b1edef87c3c77b22f87c05b9187cfad9195abf2df5fc0"), looks := false }, kinds := [], alts := [], laidByText := true, laidKinds := [.data, .data, .data, .data, .data, .data, .pinned, .pinned], laidTests := true, laidLooks := .later }
def FnServerEqualCardSaid : Prop := Claim7.holds Tryd.pinned (.plain (OpenSpec.ofChange fnServerEqualSpec)) fnServerEqualCard

/-- THE SECOND FORM's CARD OF 'laws.FnServedRound'. -/
def fnServedRoundUptoCard : Claim7 := { stood := { row := fnServedRoundUptoRow, standIns := [], harness := (true, "976b104f34cd35020c1b1edef87c3c77b22f87c05b9187cfad9195abf2df5fc0"), looks := false }, kinds := [], alts := [], laidByText := true, laidKinds := [.data, .data, .data, .pinned, .pinned], laidTests := true, laidLooks := .later }
def FnServedRoundUptoCardSaid : Prop := Claim7.holds Tryd.pinned (.plain (OpenSpec.upto fnServedRoundSpec)) fnServedRoundUptoCard

/-- THE SECOND FORM's CARD OF 'laws.FnServedFirst'. -/
def fnServedFirstUptoCard : Claim7 := { stood := { row := fnServedFirstUptoRow, standIns := [], harness := (true, "976b104f34cd35020c1b1edef87c3c77b22f87c05b9187cfad9195abf2df5fc0"), looks := false }, kinds := [], alts := [], laidByText := true, laidKinds := [.data, .data, .data, .pinned, .pinned], laidTests := true, laidLooks := .later }
def FnServedFirstUptoCardSaid : Prop := Claim7.holds Tryd.pinned (.plain (OpenSpec.upto fnServedFirstSpec)) fnServedFirstUptoCard

/-- THE SECOND FORM's CARD OF 'laws.FnNetworkBack'. -/
def fnNetworkBackUptoCard : Claim7 := { stood := { row := fnNetworkBackUptoRow, standIns := [], harness := (true, "976b104f34cd35020c1b1edef87c3c77b22f87c05b9187cfad9195abf2df5fc0"), looks := false }, kinds := [], alts := [], laidByText := true, laidKinds := [.data, .data, .data, .data, .pinned, .pinned], laidTests := true, laidLooks := .later }
def FnNetworkBackUptoCardSaid : Prop := Claim7.holds Tryd.pinned (.plain (OpenSpec.upto fnNetworkBackSpec)) fnNetworkBackUptoCard

/-- THE SECOND FORM's CARD OF 'laws.FnPrivilegeCase'. -/
def fnPrivilegeCaseUptoCard : Claim7 := { stood := { row := fnPrivilegeCaseUptoRow, standIns := [], harness := (true, "976b104f34cd35020c1b1edef87c3c77b22f87c05b9187cfad9195abf2df5fc0"), looks := false }, kinds := [], alts := [], laidByText := true, laidKinds := [.data, .data, .data, .data, .pinned, .pinned], laidTests := true, laidLooks := .later }
def FnPrivilegeCaseUptoCardSaid : Prop := Claim7.holds Tryd.pinned (.plain (OpenSpec.upto fnPrivilegeCaseSpec)) fnPrivilegeCaseUptoCard

/-- THE SECOND FORM's CARD OF 'laws.FnServerEqual'. -/
def fnServerEqualUptoCard : Claim7 := { stood := { row := fnServerEqualUptoRow, standIns := [], harness := (true, "976b104f34cd35020c1b1edef87c3c77b22f87c05b9187cfad9195abf2df5fc0"), looks := false }, kinds := [], alts := [], laidByText := true, laidKinds := [.data, .data, .data, .data, .data, .data, .pinned, .pinned], laidTests := true, laidLooks := .later }
def FnServerEqualUptoCardSaid : Prop := Claim7.holds Tryd.pinned (.plain (OpenSpec.upto fnServerEqualSpec)) fnServerEqualUptoCard
end Rows
end Go.Proofs.YtkonfcgdokabaaaDoor
