/-
  DERIVED. GIVEN WITH THE SEED: THE CARDS: each row of YtpadpdmidiaeoaaDoorRows.lean that lists a variable, with what it lists TIED to the program's text (the seventh form; the later family's looks); each row that meets fmt, with fmt's text TOLD by the authors' own Lean function (tested against real Go, not proved from fmt's source: count such statements apart). THE CARD IS WHAT COUNTS. Prove the row's statement (the work); the ties are given (YtpadpdmidiaeoaaDoorTie.lean); close each card by the builder's one call (the guide's Derived/Test/ToyasCard.lean, 'card_holds'). Laid BY PROGRAM, IN A SANDBOX (cutbox-door.mjs). By AI agents, Wed Nov 11 2026. No macro, syntax, notation, axiom, sorry.
-/
import Derived.Test.YtpadpdmidiaeoaaDoorRows
import GoSem.ClaimSeven
namespace Go.Proofs.YtpadpdmidiaeoaaDoor
namespace Rows

/-- THE TIED CARD OF 'laws.FnUrlJoined'. -/
def fnUrlJoinedCard : Claim7 := { stood := { row := fnUrlJoinedRow, standIns := [], harness := (true, "8da257fa31501dc643a95f28eca4ef557269d75ddd6eaa04cbd941e4abb9abf9"), looks := true }, kinds := [], alts := [], laidByText := true, laidKinds := [.data, .data, .data, .data, .listed, .data, .data, .pinned, .pinned], laidTests := true, laidLooks := .later }
def FnUrlJoinedCardSaid : Prop := Claim7.holds Tryd.pinned (.plain (OpenSpec.ofChange fnUrlJoinedSpec)) fnUrlJoinedCard

/-- THE TIED CARD OF 'laws.FnUrlBack'. -/
def fnUrlBackCard : Claim7 := { stood := { row := fnUrlBackRow, standIns := [], harness := (true, "8da257fa31501dc643a95f28eca4ef557269d75ddd6eaa04cbd941e4abb9abf9"), looks := true }, kinds := [], alts := [], laidByText := true, laidKinds := [.data, .data, .data, .data, .sentinel, .sentinel, .listed, .data, .data, .pinned, .pinned], laidTests := true, laidLooks := .later }
def FnUrlBackCardSaid : Prop := Claim7.holds Tryd.pinned (.plain (OpenSpec.ofChange fnUrlBackSpec)) fnUrlBackCard

/-- THE SECOND FORM's CARD OF 'laws.FnUrlJoined'. -/
def fnUrlJoinedUptoCard : Claim7 := { stood := { row := fnUrlJoinedUptoRow, standIns := [], harness := (true, "8da257fa31501dc643a95f28eca4ef557269d75ddd6eaa04cbd941e4abb9abf9"), looks := true }, kinds := [], alts := [], laidByText := true, laidKinds := [.data, .data, .data, .data, .listed, .data, .data, .pinned, .pinned], laidTests := true, laidLooks := .later }
def FnUrlJoinedUptoCardSaid : Prop := Claim7.holds Tryd.pinned (.plain (OpenSpec.upto fnUrlJoinedSpec)) fnUrlJoinedUptoCard

/-- THE SECOND FORM's CARD OF 'laws.FnUrlBack'. -/
def fnUrlBackUptoCard : Claim7 := { stood := { row := fnUrlBackUptoRow, standIns := [], harness := (true, "8da257fa31501dc643a95f28eca4ef557269d75ddd6eaa04cbd941e4abb9abf9"), looks := true }, kinds := [], alts := [], laidByText := true, laidKinds := [.data, .data, .data, .data, .sentinel, .sentinel, .listed, .data, .data, .pinned, .pinned], laidTests := true, laidLooks := .later }
def FnUrlBackUptoCardSaid : Prop := Claim7.holds Tryd.pinned (.plain (OpenSpec.upto fnUrlBackSpec)) fnUrlBackUptoCard
end Rows
end Go.Proofs.YtpadpdmidiaeoaaDoor
