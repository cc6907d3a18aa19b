/-
  NARROWER THAN 'FOR EVERY INPUT', by the rows' own cells (each row's printed sentence says how): FnPacketHead: laid · FnPacketRefuseCut: laid · FnPacketNested: laid · FnPacketParts: laid · FnPacketMarked: laid · FnPacketAccept: laid · FnPacketCarried: laid.
  DERIVED. THE GIVEN ROWS OF THIS SEAT. 7 by the template 'for every input the law returns true; each argument reads behind the call as it read before'; 0 by the template 'total and deterministic' (their statements: YtoaajnhbcekglaaDoorTotals.lean).
  GIVEN WITH THE SEED: the statements are not yours to turn. If you find one false, say at which input.
  Laid BY PROGRAM, IN A SANDBOX (cutbox-rows.mjs): the forced cells as the released guide's own fill.sh prints them over the translation 0d0012ff00939997… (all of the seat's roots in one cut). By AI agents, Wed Nov 11 2026. No macro, syntax, notation, axiom, sorry.
-/
import Derived.Test.YtoaajnhbcekglaaDoorChecked
import GoSem.Claim
import GoSem.ClaimJoined
import GoSem.ClaimMapViews
import Derived.JoinedTies
import Derived.KernelRfl
namespace Go.Proofs.YtoaajnhbcekglaaDoor
/- THE CELL 'sum', in the pinned program and in every row, IS THE sha256 OF THE DUMP (.gsa) THAT YtoaajnhbcekglaaDoorProg.lean LOADS. Nothing in Lean hashes anything: it is a label: what it is worth is what the hold of that sum in a sandbox is worth. -/
noncomputable def Tryd.pinned : Pinned := { name := "ytoaajnhbcekglaadoor", sum := "0d0012ff0093999717cfdbe4cf007249321bd9f6bfd73eda1b61d8c1c01d68bb", checked := Tryd.checked }
namespace Rows
def none {H : Type} : Left H := { results := [], args := [] }

/- WHAT THE LISTED PACKAGE-LEVEL VARIABLES READ AS WHEN THE CALL BEGINS. Each datum BY PROGRAM (the guide's laid-datum.mjs) off the statement by which the dump's own 'gosem.cut.vars' lays the variable. In a bare row this is a premise. The card (YtoaajnhbcekglaaDoorCards.lean) ties it to the program's text. -/
def laid_bytes_ErrTooLarge {H : Type} : DataW H := .iface "*errors.errorString" (.ptr (.agg [.lit (.string [98, 121, 116, 101, 115, 46, 66, 117, 102, 102, 101, 114, 58, 32, 116, 111, 111, 32, 108, 97, 114, 103, 101])]))

/-- 'laws.FnPacketHead': WHATEVER THE INPUT: true; the input reads as it did. -/
def fnPacketHeadSpec : ChangeSpec := { name := "fnPacketHead", fn := fun _ => fun
  | [d1, d2] => { results := [.lit (.bool true)], args := [d1, d2] }
  | _ => none }
def fnPacketHeadRow : OpenClaim := { program := "ytoaajnhbcekglaadoor", sum := "0d0012ff0093999717cfdbe4cf007249321bd9f6bfd73eda1b61d8c1c01d68bb", func := "pub-dodona/laws.FnPacketHead", spec := "fnPacketHead", named := ["encoding/binary.BigEndian", "bytes.ErrTooLarge"], apart := false, laid := [("bytes.ErrTooLarge", laid_bytes_ErrTooLarge)] }
def FnPacketHeadSaid : Prop := fnPacketHeadRow.holds Tryd.pinned (OpenSpec.ofChange fnPacketHeadSpec)

/-- ITS FALSE NEIGHBOUR: 'it returns false'. Refute it at one input. -/
def fnPacketHeadWrong : ChangeSpec := { name := "fnPacketHead", fn := fun _ => fun
  | [d1, d2] => { results := [.lit (.bool false)], args := [d1, d2] }
  | _ => none }
def FnPacketHeadWrongFalsely : Prop := fnPacketHeadRow.holds Tryd.pinned (OpenSpec.ofChange fnPacketHeadWrong)

/-- 'laws.FnPacketRefuseCut': WHATEVER THE INPUT: true; the input reads as it did. -/
def fnPacketRefuseCutSpec : ChangeSpec := { name := "fnPacketRefuseCut", fn := fun _ => fun
  | [d1, d2] => { results := [.lit (.bool true)], args := [d1, d2] }
  | _ => none }
def fnPacketRefuseCutRow : OpenClaim := { program := "ytoaajnhbcekglaadoor", sum := "0d0012ff0093999717cfdbe4cf007249321bd9f6bfd73eda1b61d8c1c01d68bb", func := "pub-dodona/laws.FnPacketRefuseCut", spec := "fnPacketRefuseCut", named := ["encoding/binary.BigEndian", "bytes.ErrTooLarge"], apart := false, laid := [("bytes.ErrTooLarge", laid_bytes_ErrTooLarge)] }
def FnPacketRefuseCutSaid : Prop := fnPacketRefuseCutRow.holds Tryd.pinned (OpenSpec.ofChange fnPacketRefuseCutSpec)

/-- ITS FALSE NEIGHBOUR: 'it returns false'. Refute it at one input. -/
def fnPacketRefuseCutWrong : ChangeSpec := { name := "fnPacketRefuseCut", fn := fun _ => fun
  | [d1, d2] => { results := [.lit (.bool false)], args := [d1, d2] }
  | _ => none }
def FnPacketRefuseCutWrongFalsely : Prop := fnPacketRefuseCutRow.holds Tryd.pinned (OpenSpec.ofChange fnPacketRefuseCutWrong)

/-- 'laws.FnPacketNested': WHATEVER THE INPUT: true; the input reads as it did. -/
def fnPacketNestedSpec : ChangeSpec := { name := "fnPacketNested", fn := fun _ => fun
  | [d1, d2, d3] => { results := [.lit (.bool true)], args := [d1, d2, d3] }
  | _ => none }
def fnPacketNestedRow : OpenClaim := { program := "ytoaajnhbcekglaadoor", sum := "0d0012ff0093999717cfdbe4cf007249321bd9f6bfd73eda1b61d8c1c01d68bb", func := "pub-dodona/laws.FnPacketNested", spec := "fnPacketNested", named := ["encoding/binary.BigEndian", "bytes.ErrTooLarge"], apart := false, laid := [("bytes.ErrTooLarge", laid_bytes_ErrTooLarge)] }
def FnPacketNestedSaid : Prop := fnPacketNestedRow.holds Tryd.pinned (OpenSpec.ofChange fnPacketNestedSpec)

/-- ITS FALSE NEIGHBOUR: 'it returns false'. Refute it at one input. -/
def fnPacketNestedWrong : ChangeSpec := { name := "fnPacketNested", fn := fun _ => fun
  | [d1, d2, d3] => { results := [.lit (.bool false)], args := [d1, d2, d3] }
  | _ => none }
def FnPacketNestedWrongFalsely : Prop := fnPacketNestedRow.holds Tryd.pinned (OpenSpec.ofChange fnPacketNestedWrong)

/-- 'laws.FnPacketParts': WHATEVER THE INPUT: true; the input reads as it did. -/
def fnPacketPartsSpec : ChangeSpec := { name := "fnPacketParts", fn := fun _ => fun
  | [d1, d2, d3] => { results := [.lit (.bool true)], args := [d1, d2, d3] }
  | _ => none }
def fnPacketPartsRow : OpenClaim := { program := "ytoaajnhbcekglaadoor", sum := "0d0012ff0093999717cfdbe4cf007249321bd9f6bfd73eda1b61d8c1c01d68bb", func := "pub-dodona/laws.FnPacketParts", spec := "fnPacketParts", named := ["encoding/binary.BigEndian", "bytes.ErrTooLarge"], apart := false, laid := [("bytes.ErrTooLarge", laid_bytes_ErrTooLarge)] }
def FnPacketPartsSaid : Prop := fnPacketPartsRow.holds Tryd.pinned (OpenSpec.ofChange fnPacketPartsSpec)

/-- ITS FALSE NEIGHBOUR: 'it returns false'. Refute it at one input. -/
def fnPacketPartsWrong : ChangeSpec := { name := "fnPacketParts", fn := fun _ => fun
  | [d1, d2, d3] => { results := [.lit (.bool false)], args := [d1, d2, d3] }
  | _ => none }
def FnPacketPartsWrongFalsely : Prop := fnPacketPartsRow.holds Tryd.pinned (OpenSpec.ofChange fnPacketPartsWrong)

/-- 'laws.FnPacketMarked': WHATEVER THE INPUT: true; the input reads as it did. -/
def fnPacketMarkedSpec : ChangeSpec := { name := "fnPacketMarked", fn := fun _ => fun
  | [d1, d2] => { results := [.lit (.bool true)], args := [d1, d2] }
  | _ => none }
def fnPacketMarkedRow : OpenClaim := { program := "ytoaajnhbcekglaadoor", sum := "0d0012ff0093999717cfdbe4cf007249321bd9f6bfd73eda1b61d8c1c01d68bb", func := "pub-dodona/laws.FnPacketMarked", spec := "fnPacketMarked", named := ["encoding/binary.BigEndian", "bytes.ErrTooLarge"], apart := false, laid := [("bytes.ErrTooLarge", laid_bytes_ErrTooLarge)] }
def FnPacketMarkedSaid : Prop := fnPacketMarkedRow.holds Tryd.pinned (OpenSpec.ofChange fnPacketMarkedSpec)

/-- ITS FALSE NEIGHBOUR: 'it returns false'. Refute it at one input. -/
def fnPacketMarkedWrong : ChangeSpec := { name := "fnPacketMarked", fn := fun _ => fun
  | [d1, d2] => { results := [.lit (.bool false)], args := [d1, d2] }
  | _ => none }
def FnPacketMarkedWrongFalsely : Prop := fnPacketMarkedRow.holds Tryd.pinned (OpenSpec.ofChange fnPacketMarkedWrong)

/-- 'laws.FnPacketAccept': WHATEVER THE INPUT: true; the input reads as it did. -/
def fnPacketAcceptSpec : ChangeSpec := { name := "fnPacketAccept", fn := fun _ => fun
  | [d] => { results := [.lit (.bool true)], args := [d] }
  | _ => none }
def fnPacketAcceptRow : OpenClaim := { program := "ytoaajnhbcekglaadoor", sum := "0d0012ff0093999717cfdbe4cf007249321bd9f6bfd73eda1b61d8c1c01d68bb", func := "pub-dodona/laws.FnPacketAccept", spec := "fnPacketAccept", named := ["encoding/binary.BigEndian", "bytes.ErrTooLarge"], apart := false, laid := [("bytes.ErrTooLarge", laid_bytes_ErrTooLarge)] }
def FnPacketAcceptSaid : Prop := fnPacketAcceptRow.holds Tryd.pinned (OpenSpec.ofChange fnPacketAcceptSpec)

/-- ITS FALSE NEIGHBOUR: 'it returns false'. Refute it at one input. -/
def fnPacketAcceptWrong : ChangeSpec := { name := "fnPacketAccept", fn := fun _ => fun
  | [d] => { results := [.lit (.bool false)], args := [d] }
  | _ => none }
def FnPacketAcceptWrongFalsely : Prop := fnPacketAcceptRow.holds Tryd.pinned (OpenSpec.ofChange fnPacketAcceptWrong)

/-- 'laws.FnPacketCarried': WHATEVER THE INPUT: true; the input reads as it did. -/
def fnPacketCarriedSpec : ChangeSpec := { name := "fnPacketCarried", fn := fun _ => fun
  | [d1, d2] => { results := [.lit (.bool true)], args := [d1, d2] }
  | _ => none }
def fnPacketCarriedRow : OpenClaim := { program := "ytoaajnhbcekglaadoor", sum := "0d0012ff0093999717cfdbe4cf007249321bd9f6bfd73eda1b61d8c1c01d68bb", func := "pub-dodona/laws.FnPacketCarried", spec := "fnPacketCarried", named := ["encoding/binary.BigEndian", "bytes.ErrTooLarge"], apart := false, laid := [("bytes.ErrTooLarge", laid_bytes_ErrTooLarge)] }
def FnPacketCarriedSaid : Prop := fnPacketCarriedRow.holds Tryd.pinned (OpenSpec.ofChange fnPacketCarriedSpec)

/-- ITS FALSE NEIGHBOUR: 'it returns false'. Refute it at one input. -/
def fnPacketCarriedWrong : ChangeSpec := { name := "fnPacketCarried", fn := fun _ => fun
  | [d1, d2] => { results := [.lit (.bool false)], args := [d1, d2] }
  | _ => none }
def FnPacketCarriedWrongFalsely : Prop := fnPacketCarriedRow.holds Tryd.pinned (OpenSpec.ofChange fnPacketCarriedWrong)

/- THE SECOND FORM. 'bulk': how many values and letters a reading holds, each counted each time it is reached (what is shared counts as often as it is met; a slice's spare places count too). A statement '..UptoSaid' is the law's where the arguments, and the package variables that the reading takes, are together of bulk at most 1048576: NARROWER than '..Said'. Prove '..Said' where nothing that the law and all that it calls make is longer than what came in: it says more and counts as full. Else prove '..UptoSaid'. A law counts once. -/
mutual
def uptoBulk {H : Type} : DataW H → Nat
  | .lit (.string bytes) => bytes.length + 1
  | .lit _ => 1
  | .nil => 1
  | .ptr d => uptoBulk d + 1
  | .slice elems spare => uptoBulkAll elems + uptoBulkAll spare + 1
  | .agg parts => uptoBulkAll parts + 1
  | .iface _ d => uptoBulk d + 1
  | .map entries => uptoBulkEntries entries + 1
  | .held _ => 1
def uptoBulkAll {H : Type} : List (DataW H) → Nat
  | [] => 0
  | d :: r => uptoBulk d + uptoBulkAll r
def uptoBulkEntries {H : Type} : List (Lit × DataW H) → Nat
  | [] => 0
  | x :: r => uptoBulkEntry x + uptoBulkEntries r
def uptoBulkEntry {H : Type} : Lit × DataW H → Nat
  | (.string bytes, d) => bytes.length + uptoBulk d + 1
  | (_, d) => uptoBulk d + 1
 end
def uptoSmall : (H : Type) → List (DataW H) → Bool := fun _ ds => decide (uptoBulkAll ds ≤ 1048576)
def OpenSpec.upto (s : _root_.Go.ChangeSpec) : _root_.Go.OpenSpec := { _root_.Go.OpenSpec.ofChange s with cond := some uptoSmall }

/-- 'laws.FnPacketHead', WHERE WHAT IT READS IS OF BULK AT MOST 1048576: true; the input reads as it did. -/
def fnPacketHeadUptoRow : OpenClaim := { program := "ytoaajnhbcekglaadoor", sum := "0d0012ff0093999717cfdbe4cf007249321bd9f6bfd73eda1b61d8c1c01d68bb", func := "pub-dodona/laws.FnPacketHead", spec := "fnPacketHead", named := ["encoding/binary.BigEndian", "bytes.ErrTooLarge"], apart := false, laid := [("bytes.ErrTooLarge", laid_bytes_ErrTooLarge)], narrowed := true }
def FnPacketHeadUptoSaid : Prop := fnPacketHeadUptoRow.holds Tryd.pinned (OpenSpec.upto fnPacketHeadSpec)

/-- 'laws.FnPacketRefuseCut', WHERE WHAT IT READS IS OF BULK AT MOST 1048576: true; the input reads as it did. -/
def fnPacketRefuseCutUptoRow : OpenClaim := { program := "ytoaajnhbcekglaadoor", sum := "0d0012ff0093999717cfdbe4cf007249321bd9f6bfd73eda1b61d8c1c01d68bb", func := "pub-dodona/laws.FnPacketRefuseCut", spec := "fnPacketRefuseCut", named := ["encoding/binary.BigEndian", "bytes.ErrTooLarge"], apart := false, laid := [("bytes.ErrTooLarge", laid_bytes_ErrTooLarge)], narrowed := true }
def FnPacketRefuseCutUptoSaid : Prop := fnPacketRefuseCutUptoRow.holds Tryd.pinned (OpenSpec.upto fnPacketRefuseCutSpec)

/-- 'laws.FnPacketNested', WHERE WHAT IT READS IS OF BULK AT MOST 1048576: true; the input reads as it did. -/
def fnPacketNestedUptoRow : OpenClaim := { program := "ytoaajnhbcekglaadoor", sum := "0d0012ff0093999717cfdbe4cf007249321bd9f6bfd73eda1b61d8c1c01d68bb", func := "pub-dodona/laws.FnPacketNested", spec := "fnPacketNested", named := ["encoding/binary.BigEndian", "bytes.ErrTooLarge"], apart := false, laid := [("bytes.ErrTooLarge", laid_bytes_ErrTooLarge)], narrowed := true }
def FnPacketNestedUptoSaid : Prop := fnPacketNestedUptoRow.holds Tryd.pinned (OpenSpec.upto fnPacketNestedSpec)

/-- 'laws.FnPacketParts', WHERE WHAT IT READS IS OF BULK AT MOST 1048576: true; the input reads as it did. -/
def fnPacketPartsUptoRow : OpenClaim := { program := "ytoaajnhbcekglaadoor", sum := "0d0012ff0093999717cfdbe4cf007249321bd9f6bfd73eda1b61d8c1c01d68bb", func := "pub-dodona/laws.FnPacketParts", spec := "fnPacketParts", named := ["encoding/binary.BigEndian", "bytes.ErrTooLarge"], apart := false, laid := [("bytes.ErrTooLarge", laid_bytes_ErrTooLarge)], narrowed := true }
def FnPacketPartsUptoSaid : Prop := fnPacketPartsUptoRow.holds Tryd.pinned (OpenSpec.upto fnPacketPartsSpec)

/-- 'laws.FnPacketMarked', WHERE WHAT IT READS IS OF BULK AT MOST 1048576: true; the input reads as it did. -/
def fnPacketMarkedUptoRow : OpenClaim := { program := "ytoaajnhbcekglaadoor", sum := "0d0012ff0093999717cfdbe4cf007249321bd9f6bfd73eda1b61d8c1c01d68bb", func := "pub-dodona/laws.FnPacketMarked", spec := "fnPacketMarked", named := ["encoding/binary.BigEndian", "bytes.ErrTooLarge"], apart := false, laid := [("bytes.ErrTooLarge", laid_bytes_ErrTooLarge)], narrowed := true }
def FnPacketMarkedUptoSaid : Prop := fnPacketMarkedUptoRow.holds Tryd.pinned (OpenSpec.upto fnPacketMarkedSpec)

/-- 'laws.FnPacketAccept', WHERE WHAT IT READS IS OF BULK AT MOST 1048576: true; the input reads as it did. -/
def fnPacketAcceptUptoRow : OpenClaim := { program := "ytoaajnhbcekglaadoor", sum := "0d0012ff0093999717cfdbe4cf007249321bd9f6bfd73eda1b61d8c1c01d68bb", func := "pub-dodona/laws.FnPacketAccept", spec := "fnPacketAccept", named := ["encoding/binary.BigEndian", "bytes.ErrTooLarge"], apart := false, laid := [("bytes.ErrTooLarge", laid_bytes_ErrTooLarge)], narrowed := true }
def FnPacketAcceptUptoSaid : Prop := fnPacketAcceptUptoRow.holds Tryd.pinned (OpenSpec.upto fnPacketAcceptSpec)

/-- 'laws.FnPacketCarried', WHERE WHAT IT READS IS OF BULK AT MOST 1048576: true; the input reads as it did. -/
def fnPacketCarriedUptoRow : OpenClaim := { program := "ytoaajnhbcekglaadoor", sum := "0d0012ff0093999717cfdbe4cf007249321bd9f6bfd73eda1b61d8c1c01d68bb", func := "pub-dodona/laws.FnPacketCarried", spec := "fnPacketCarried", named := ["encoding/binary.BigEndian", "bytes.ErrTooLarge"], apart := false, laid := [("bytes.ErrTooLarge", laid_bytes_ErrTooLarge)], narrowed := true }
def FnPacketCarriedUptoSaid : Prop := fnPacketCarriedUptoRow.holds Tryd.pinned (OpenSpec.upto fnPacketCarriedSpec)

end Rows
end Go.Proofs.YtoaajnhbcekglaaDoor
