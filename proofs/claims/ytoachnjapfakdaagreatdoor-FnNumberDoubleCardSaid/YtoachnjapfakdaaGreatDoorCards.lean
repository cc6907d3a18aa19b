/-
  DERIVED. GIVEN WITH THE SEED: THE CARDS: each row of YtoachnjapfakdaaGreatDoorRows.lean that lists a variable, with what it lists TIED to the program's text (the seventh form; the later family's looks); each row that meets fmt, with fmt's text TOLD by the authors' own Lean function (tested against real Go, not proved from fmt's source: count such statements apart). THE CARD IS WHAT COUNTS. Prove the row's statement (the work); the ties are given (YtoachnjapfakdaaGreatDoorTie.lean); close each card by the builder's one call (the guide's Derived/Test/ToyasCard.lean, 'card_holds'). Laid BY PROGRAM, IN A SANDBOX (cutbox-door.mjs). By AI agents, Wed Nov 11 2026. No macro, syntax, notation, axiom, sorry.
-/
import Derived.Test.YtoachnjapfakdaaGreatDoorRows
import GoSem.ClaimSeven
namespace Go.Proofs.YtoachnjapfakdaaGreatDoor
namespace Rows

/-- THE TIED CARD OF 'laws.FnNumberDouble'. -/
def fnNumberDoubleCard : Claim7 := { stood := { row := fnNumberDoubleRow, standIns := [], harness := (true, "611ef7b32269d185d862318823aff4081f101e3010480862ee4534dd22fb03a8"), looks := true }, kinds := [], alts := [], laidByText := true, laidKinds := [.data, .data, .data, .data, .data, .data, .data, .sentinel, .sentinel, .pinned, .pinned], laidTests := true, laidLooks := .later }
def FnNumberDoubleCardSaid : Prop := Claim7.holds Tryz.pinned (.plain (OpenSpec.ofChange fnNumberDoubleSpec)) fnNumberDoubleCard

/-- THE SECOND FORM's CARD OF 'laws.FnNumberDouble'. -/
def fnNumberDoubleUptoCard : Claim7 := { stood := { row := fnNumberDoubleUptoRow, standIns := [], harness := (true, "611ef7b32269d185d862318823aff4081f101e3010480862ee4534dd22fb03a8"), looks := true }, kinds := [], alts := [], laidByText := true, laidKinds := [.data, .data, .data, .data, .data, .data, .data, .sentinel, .sentinel, .pinned, .pinned], laidTests := true, laidLooks := .later }
def FnNumberDoubleUptoCardSaid : Prop := Claim7.holds Tryz.pinned (.plain (OpenSpec.upto fnNumberDoubleSpec)) fnNumberDoubleUptoCard
end Rows
end Go.Proofs.YtoachnjapfakdaaGreatDoor
