/-
  DERIVED. GIVEN WITH THE SEED: THE CARDS: each row of YtpadpdmidiaeoaaGreatDoorRows.lean that lists a variable, with what it lists TIED to the program's text (the seventh form; the later family's looks); each row that meets fmt, with fmt's text TOLD by the authors' own Lean function (tested against real Go, not proved from fmt's source: count such statements apart). THE CARD IS WHAT COUNTS. Prove the row's statement (the work); the ties are given (YtpadpdmidiaeoaaGreatDoorTie.lean); close each card by the builder's one call (the guide's Derived/Test/ToyasCard.lean, 'card_holds'). Laid BY PROGRAM, IN A SANDBOX (cutbox-door.mjs). By AI agents, Wed Nov 11 2026. No macro, syntax, notation, axiom, sorry.
-/
import Derived.Test.YtpadpdmidiaeoaaGreatDoorRows
import GoSem.ClaimSeven
namespace Go.Proofs.YtpadpdmidiaeoaaGreatDoor
namespace Rows

/-- THE TIED CARD OF 'laws.FnUrlOptions'. -/
def fnUrlOptionsCard : Claim7 := { stood := { row := fnUrlOptionsRow, standIns := [], harness := (true, "22acf46c2f179a790942d3c72cf78669bd4dd7bdb59454150cb07e0df8d8e497"), looks := false }, kinds := [], alts := [], laidByText := true, laidKinds := [.data, .data, .data, .data, .listed, .data, .data, .pinned, .pinned], laidTests := true, laidLooks := .later }
def FnUrlOptionsCardSaid : Prop := Claim7.holds Tryz.pinned (.plain (OpenSpec.ofChange fnUrlOptionsSpec)) fnUrlOptionsCard

/-- THE SECOND FORM's CARD OF 'laws.FnUrlOptions'. -/
def fnUrlOptionsUptoCard : Claim7 := { stood := { row := fnUrlOptionsUptoRow, standIns := [], harness := (true, "22acf46c2f179a790942d3c72cf78669bd4dd7bdb59454150cb07e0df8d8e497"), looks := false }, kinds := [], alts := [], laidByText := true, laidKinds := [.data, .data, .data, .data, .listed, .data, .data, .pinned, .pinned], laidTests := true, laidLooks := .later }
def FnUrlOptionsUptoCardSaid : Prop := Claim7.holds Tryz.pinned (.plain (OpenSpec.upto fnUrlOptionsSpec)) fnUrlOptionsUptoCard
end Rows
end Go.Proofs.YtpadpdmidiaeoaaGreatDoor
