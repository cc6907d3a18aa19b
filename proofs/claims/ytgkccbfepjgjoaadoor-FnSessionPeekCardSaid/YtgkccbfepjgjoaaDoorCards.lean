/-
  DERIVED. GIVEN WITH THE SEED: THE CARDS: each row of YtgkccbfepjgjoaaDoorRows.lean that lists a variable, with what it lists TIED to the program's text (the seventh form; the later family's looks); each row that meets fmt, with fmt's text TOLD by the authors' own Lean function (tested against real Go, not proved from fmt's source: count such statements apart). THE CARD IS WHAT COUNTS. Prove the row's statement (the work); the ties are given (YtgkccbfepjgjoaaDoorTie.lean); close each card by the builder's one call (the guide's Derived/Test/ToyasCard.lean, 'card_holds'). Laid BY PROGRAM, IN A SANDBOX (cutbox-door.mjs). By AI agents, Wed Nov 11 2026. No macro, syntax, notation, axiom, sorry.
-/
import Derived.Test.YtgkccbfepjgjoaaDoorRows
import GoSem.ClaimSeven
namespace Go.Proofs.YtgkccbfepjgjoaaDoor
namespace Rows

/-- THE TIED CARD OF 'laws.FnSessionEmpty'. -/
def fnSessionEmptyCard : Claim7 := { stood := { row := fnSessionEmptyRow, standIns := [], harness := (true, "a2e9b9a904365bd8326daa90f37505f61eab358ddc0c0968babd946304da3cfd"), looks := true }, kinds := [], alts := [], laidByText := true, laidKinds := [.sentinel, .sentinel], laidTests := true, laidLooks := .later }
def FnSessionEmptyCardSaid : Prop := Claim7.holds Tryd.pinned (.plain (OpenSpec.ofChange fnSessionEmptySpec)) fnSessionEmptyCard

/-- THE TIED CARD OF 'laws.FnSessionKeyVal'. -/
def fnSessionKeyValCard : Claim7 := { stood := { row := fnSessionKeyValRow, standIns := [], harness := (true, "a2e9b9a904365bd8326daa90f37505f61eab358ddc0c0968babd946304da3cfd"), looks := true }, kinds := [], alts := [], laidByText := true, laidKinds := [.sentinel, .sentinel], laidTests := true, laidLooks := .later }
def FnSessionKeyValCardSaid : Prop := Claim7.holds Tryd.pinned (.plain (OpenSpec.ofChange fnSessionKeyValSpec)) fnSessionKeyValCard

/-- THE TIED CARD OF 'laws.FnSessionNull'. -/
def fnSessionNullCard : Claim7 := { stood := { row := fnSessionNullRow, standIns := [], harness := (true, "a2e9b9a904365bd8326daa90f37505f61eab358ddc0c0968babd946304da3cfd"), looks := true }, kinds := [], alts := [], laidByText := true, laidKinds := [.sentinel, .sentinel], laidTests := true, laidLooks := .later }
def FnSessionNullCardSaid : Prop := Claim7.holds Tryd.pinned (.plain (OpenSpec.ofChange fnSessionNullSpec)) fnSessionNullCard

/-- THE TIED CARD OF 'laws.FnSessionNulls'. -/
def fnSessionNullsCard : Claim7 := { stood := { row := fnSessionNullsRow, standIns := [], harness := (true, "a2e9b9a904365bd8326daa90f37505f61eab358ddc0c0968babd946304da3cfd"), looks := true }, kinds := [], alts := [], laidByText := true, laidKinds := [.sentinel, .sentinel], laidTests := true, laidLooks := .later }
def FnSessionNullsCardSaid : Prop := Claim7.holds Tryd.pinned (.plain (OpenSpec.ofChange fnSessionNullsSpec)) fnSessionNullsCard

/-- THE TIED CARD OF 'laws.FnSessionPlain'. -/
def fnSessionPlainCard : Claim7 := { stood := { row := fnSessionPlainRow, standIns := [], harness := (true, "a2e9b9a904365bd8326daa90f37505f61eab358ddc0c0968babd946304da3cfd"), looks := true }, kinds := [], alts := [], laidByText := true, laidKinds := [.sentinel, .sentinel], laidTests := true, laidLooks := .later }
def FnSessionPlainCardSaid : Prop := Claim7.holds Tryd.pinned (.plain (OpenSpec.ofChange fnSessionPlainSpec)) fnSessionPlainCard

/-- THE TIED CARD OF 'laws.FnSessionPeek'. -/
def fnSessionPeekCard : Claim7 := { stood := { row := fnSessionPeekRow, standIns := [], harness := (true, "a2e9b9a904365bd8326daa90f37505f61eab358ddc0c0968babd946304da3cfd"), looks := true }, kinds := [], alts := [], laidByText := true, laidKinds := [.sentinel, .sentinel], laidTests := true, laidLooks := .later }
def FnSessionPeekCardSaid : Prop := Claim7.holds Tryd.pinned (.plain (OpenSpec.ofChange fnSessionPeekSpec)) fnSessionPeekCard

/-- THE TIED CARD OF 'laws.FnSessionClrParts'. -/
def fnSessionClrPartsCard : Claim7 := { stood := { row := fnSessionClrPartsRow, standIns := [], harness := (true, "a2e9b9a904365bd8326daa90f37505f61eab358ddc0c0968babd946304da3cfd"), looks := true }, kinds := [], alts := [], laidByText := true, laidKinds := [.sentinel, .sentinel], laidTests := true, laidLooks := .later }
def FnSessionClrPartsCardSaid : Prop := Claim7.holds Tryd.pinned (.plain (OpenSpec.ofChange fnSessionClrPartsSpec)) fnSessionClrPartsCard

/-- THE TIED CARD OF 'laws.FnSessionGet'. -/
def fnSessionGetCard : Claim7 := { stood := { row := fnSessionGetRow, standIns := [], harness := (true, "a2e9b9a904365bd8326daa90f37505f61eab358ddc0c0968babd946304da3cfd"), looks := true }, kinds := [], alts := [], laidByText := true, laidKinds := [.sentinel, .sentinel], laidTests := true, laidLooks := .later }
def FnSessionGetCardSaid : Prop := Claim7.holds Tryd.pinned (.plain (OpenSpec.ofChange fnSessionGetSpec)) fnSessionGetCard

/-- THE TIED CARD OF 'laws.FnSessionPutApart'. -/
def fnSessionPutApartCard : Claim7 := { stood := { row := fnSessionPutApartRow, standIns := [], harness := (true, "a2e9b9a904365bd8326daa90f37505f61eab358ddc0c0968babd946304da3cfd"), looks := true }, kinds := [], alts := [], laidByText := true, laidKinds := [.sentinel, .sentinel], laidTests := true, laidLooks := .later }
def FnSessionPutApartCardSaid : Prop := Claim7.holds Tryd.pinned (.plain (OpenSpec.ofChange fnSessionPutApartSpec)) fnSessionPutApartCard

/-- THE TIED CARD OF 'laws.FnSessionSwapped'. -/
def fnSessionSwappedCard : Claim7 := { stood := { row := fnSessionSwappedRow, standIns := [], harness := (true, "a2e9b9a904365bd8326daa90f37505f61eab358ddc0c0968babd946304da3cfd"), looks := true }, kinds := [], alts := [], laidByText := true, laidKinds := [.sentinel, .sentinel], laidTests := true, laidLooks := .later }
def FnSessionSwappedCardSaid : Prop := Claim7.holds Tryd.pinned (.plain (OpenSpec.ofChange fnSessionSwappedSpec)) fnSessionSwappedCard

/-- THE SECOND FORM's CARD OF 'laws.FnSessionEmpty'. -/
def fnSessionEmptyUptoCard : Claim7 := { stood := { row := fnSessionEmptyUptoRow, standIns := [], harness := (true, "a2e9b9a904365bd8326daa90f37505f61eab358ddc0c0968babd946304da3cfd"), looks := true }, kinds := [], alts := [], laidByText := true, laidKinds := [.sentinel, .sentinel], laidTests := true, laidLooks := .later }
def FnSessionEmptyUptoCardSaid : Prop := Claim7.holds Tryd.pinned (.plain (OpenSpec.upto fnSessionEmptySpec)) fnSessionEmptyUptoCard

/-- THE SECOND FORM's CARD OF 'laws.FnSessionKeyVal'. -/
def fnSessionKeyValUptoCard : Claim7 := { stood := { row := fnSessionKeyValUptoRow, standIns := [], harness := (true, "a2e9b9a904365bd8326daa90f37505f61eab358ddc0c0968babd946304da3cfd"), looks := true }, kinds := [], alts := [], laidByText := true, laidKinds := [.sentinel, .sentinel], laidTests := true, laidLooks := .later }
def FnSessionKeyValUptoCardSaid : Prop := Claim7.holds Tryd.pinned (.plain (OpenSpec.upto fnSessionKeyValSpec)) fnSessionKeyValUptoCard

/-- THE SECOND FORM's CARD OF 'laws.FnSessionNull'. -/
def fnSessionNullUptoCard : Claim7 := { stood := { row := fnSessionNullUptoRow, standIns := [], harness := (true, "a2e9b9a904365bd8326daa90f37505f61eab358ddc0c0968babd946304da3cfd"), looks := true }, kinds := [], alts := [], laidByText := true, laidKinds := [.sentinel, .sentinel], laidTests := true, laidLooks := .later }
def FnSessionNullUptoCardSaid : Prop := Claim7.holds Tryd.pinned (.plain (OpenSpec.upto fnSessionNullSpec)) fnSessionNullUptoCard

/-- THE SECOND FORM's CARD OF 'laws.FnSessionNulls'. -/
def fnSessionNullsUptoCard : Claim7 := { stood := { row := fnSessionNullsUptoRow, standIns := [], harness := (true, "a2e9b9a904365bd8326daa90f37505f61eab358ddc0c0968babd946304da3cfd"), looks := true }, kinds := [], alts := [], laidByText := true, laidKinds := [.sentinel, .sentinel], laidTests := true, laidLooks := .later }
def FnSessionNullsUptoCardSaid : Prop := Claim7.holds Tryd.pinned (.plain (OpenSpec.upto fnSessionNullsSpec)) fnSessionNullsUptoCard

/-- THE SECOND FORM's CARD OF 'laws.FnSessionPlain'. -/
def fnSessionPlainUptoCard : Claim7 := { stood := { row := fnSessionPlainUptoRow, standIns := [], harness := (true, "a2e9b9a904365bd8326daa90f37505f61eab358ddc0c0968babd946304da3cfd"), looks := true }, kinds := [], alts := [], laidByText := true, laidKinds := [.sentinel, .sentinel], laidTests := true, laidLooks := .later }
def FnSessionPlainUptoCardSaid : Prop := Claim7.holds Tryd.pinned (.plain (OpenSpec.upto fnSessionPlainSpec)) fnSessionPlainUptoCard

/-- THE SECOND FORM's CARD OF 'laws.FnSessionPeek'. -/
def fnSessionPeekUptoCard : Claim7 := { stood := { row := fnSessionPeekUptoRow, standIns := [], harness := (true, "a2e9b9a904365bd8326daa90f37505f61eab358ddc0c0968babd946304da3cfd"), looks := true }, kinds := [], alts := [], laidByText := true, laidKinds := [.sentinel, .sentinel], laidTests := true, laidLooks := .later }
def FnSessionPeekUptoCardSaid : Prop := Claim7.holds Tryd.pinned (.plain (OpenSpec.upto fnSessionPeekSpec)) fnSessionPeekUptoCard

/-- THE SECOND FORM's CARD OF 'laws.FnSessionClrParts'. -/
def fnSessionClrPartsUptoCard : Claim7 := { stood := { row := fnSessionClrPartsUptoRow, standIns := [], harness := (true, "a2e9b9a904365bd8326daa90f37505f61eab358ddc0c0968babd946304da3cfd"), looks := true }, kinds := [], alts := [], laidByText := true, laidKinds := [.sentinel, .sentinel], laidTests := true, laidLooks := .later }
def FnSessionClrPartsUptoCardSaid : Prop := Claim7.holds Tryd.pinned (.plain (OpenSpec.upto fnSessionClrPartsSpec)) fnSessionClrPartsUptoCard

/-- THE SECOND FORM's CARD OF 'laws.FnSessionGet'. -/
def fnSessionGetUptoCard : Claim7 := { stood := { row := fnSessionGetUptoRow, standIns := [], harness := (true, "a2e9b9a904365bd8326daa90f37505f61eab358ddc0c0968babd946304da3cfd"), looks := true }, kinds := [], alts := [], laidByText := true, laidKinds := [.sentinel, .sentinel], laidTests := true, laidLooks := .later }
def FnSessionGetUptoCardSaid : Prop := Claim7.holds Tryd.pinned (.plain (OpenSpec.upto fnSessionGetSpec)) fnSessionGetUptoCard

/-- THE SECOND FORM's CARD OF 'laws.FnSessionPutApart'. -/
def fnSessionPutApartUptoCard : Claim7 := { stood := { row := fnSessionPutApartUptoRow, standIns := [], harness := (true, "a2e9b9a904365bd8326daa90f37505f61eab358ddc0c0968babd946304da3cfd"), looks := true }, kinds := [], alts := [], laidByText := true, laidKinds := [.sentinel, .sentinel], laidTests := true, laidLooks := .later }
def FnSessionPutApartUptoCardSaid : Prop := Claim7.holds Tryd.pinned (.plain (OpenSpec.upto fnSessionPutApartSpec)) fnSessionPutApartUptoCard

/-- THE SECOND FORM's CARD OF 'laws.FnSessionSwapped'. -/
def fnSessionSwappedUptoCard : Claim7 := { stood := { row := fnSessionSwappedUptoRow, standIns := [], harness := (true, "a2e9b9a904365bd8326daa90f37505f61eab358ddc0c0968babd946304da3cfd"), looks := true }, kinds := [], alts := [], laidByText := true, laidKinds := [.sentinel, .sentinel], laidTests := true, laidLooks := .later }
def FnSessionSwappedUptoCardSaid : Prop := Claim7.holds Tryd.pinned (.plain (OpenSpec.upto fnSessionSwappedSpec)) fnSessionSwappedUptoCard
end Rows
end Go.Proofs.YtgkccbfepjgjoaaDoor
