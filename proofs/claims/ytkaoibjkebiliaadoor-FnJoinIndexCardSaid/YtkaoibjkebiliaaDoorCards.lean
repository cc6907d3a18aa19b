/-
  DERIVED. GIVEN WITH THE SEED: THE CARDS: each row of YtkaoibjkebiliaaDoorRows.lean that lists a variable, with what it lists TIED to the program's text (the seventh form; the later family's looks); each row that meets fmt, with fmt's text TOLD by the authors' own Lean function (tested against real Go, not proved from fmt's source: count such statements apart). THE CARD IS WHAT COUNTS. Prove the row's statement (the work); the ties are given (YtkaoibjkebiliaaDoorTie.lean); close each card by the builder's one call (the guide's Derived/Test/ToyasCard.lean, 'card_holds'). Laid BY PROGRAM, IN A SANDBOX (cutbox-door.mjs). By AI agents, Wed Nov 11 2026. No macro, syntax, notation, axiom, sorry.
-/
import Derived.Test.YtkaoibjkebiliaaDoorRows
import GoSem.ClaimSeven
namespace Go.Proofs.YtkaoibjkebiliaaDoor
namespace Rows

/-- THE TIED CARD OF 'laws.FnJoinSorted'. -/
def fnJoinSortedCard : Claim7 := { stood := { row := fnJoinSortedRow, standIns := [], harness := (true, "a3eabff1bd7125f51d2394e8b0fd5eab92c1c4d4f4ff2c3f862571beb88d533b"), looks := false }, kinds := [], alts := [], laidByText := true, laidKinds := [.data, .data, .data, .data, .pinned], laidTests := true, laidLooks := .later }
def FnJoinSortedCardSaid : Prop := Claim7.holds Tryd.pinned (.plain (OpenSpec.ofChange fnJoinSortedSpec)) fnJoinSortedCard

/-- THE TIED CARD OF 'laws.FnJoinIndex'. -/
def fnJoinIndexCard : Claim7 := { stood := { row := fnJoinIndexRow, standIns := [], harness := (true, "a3eabff1bd7125f51d2394e8b0fd5eab92c1c4d4f4ff2c3f862571beb88d533b"), looks := false }, kinds := [], alts := [], laidByText := true, laidKinds := [.data, .data, .data], laidTests := true, laidLooks := .later }
def FnJoinIndexCardSaid : Prop := Claim7.holds Tryd.pinned (.plain (OpenSpec.ofChange fnJoinIndexSpec)) fnJoinIndexCard

/-- THE SECOND FORM's CARD OF 'laws.FnJoinSorted'. -/
def fnJoinSortedUptoCard : Claim7 := { stood := { row := fnJoinSortedUptoRow, standIns := [], harness := (true, "a3eabff1bd7125f51d2394e8b0fd5eab92c1c4d4f4ff2c3f862571beb88d533b"), looks := false }, kinds := [], alts := [], laidByText := true, laidKinds := [.data, .data, .data, .data, .pinned], laidTests := true, laidLooks := .later }
def FnJoinSortedUptoCardSaid : Prop := Claim7.holds Tryd.pinned (.plain (OpenSpec.upto fnJoinSortedSpec)) fnJoinSortedUptoCard

/-- THE SECOND FORM's CARD OF 'laws.FnJoinIndex'. -/
def fnJoinIndexUptoCard : Claim7 := { stood := { row := fnJoinIndexUptoRow, standIns := [], harness := (true, "a3eabff1bd7125f51d2394e8b0fd5eab92c1c4d4f4ff2c3f862571beb88d533b"), looks := false }, kinds := [], alts := [], laidByText := true, laidKinds := [.data, .data, .data], laidTests := true, laidLooks := .later }
def FnJoinIndexUptoCardSaid : Prop := Claim7.holds Tryd.pinned (.plain (OpenSpec.upto fnJoinIndexSpec)) fnJoinIndexUptoCard
end Rows
end Go.Proofs.YtkaoibjkebiliaaDoor
