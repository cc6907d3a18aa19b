/-
  NARROWER THAN 'FOR EVERY INPUT', by the rows' own cells (each row's printed sentence says how): FnSessionEmpty: laid · FnSessionKeyVal: laid · FnSessionNull: laid · FnSessionNulls: laid · FnSessionPlain: laid · FnSessionPeek: laid · FnSessionClrParts: laid · FnSessionGet: laid · FnSessionPutApart: laid · FnSessionSwapped: laid.
  DERIVED. THE GIVEN ROWS OF THIS SEAT. 10 by the template 'for every input the law returns true; each argument reads behind the call as it read before'; 0 by the template 'total and deterministic' (their statements: YtgkccbfepjgjoaaDoorTotals.lean).
  GIVEN WITH THE SEED: the statements are not yours to turn. If you find one false, say at which input.
  Laid BY PROGRAM, IN A SANDBOX (cutbox-rows.mjs): the forced cells as the released guide's own fill.sh prints them over the translation 9b0613f8d6c3e295… (all of the seat's roots in one cut). By AI agents, Wed Nov 11 2026. No macro, syntax, notation, axiom, sorry.
-/
import Derived.Test.YtgkccbfepjgjoaaDoorChecked
import GoSem.Claim
import GoSem.ClaimJoined
import GoSem.ClaimMapViews
import Derived.JoinedTies
import Derived.KernelRfl
namespace Go.Proofs.YtgkccbfepjgjoaaDoor
/- THE CELL 'sum', in the pinned program and in every row, IS THE sha256 OF THE DUMP (.gsa) THAT YtgkccbfepjgjoaaDoorProg.lean LOADS. Nothing in Lean hashes anything: it is a label: what it is worth is what the hold of that sum in a sandbox is worth. -/
noncomputable def Tryd.pinned : Pinned := { name := "ytgkccbfepjgjoaadoor", sum := "9b0613f8d6c3e295e0c85b7695b1bfde4e13c6976cff33cb867ba12fb99b34ed", checked := Tryd.checked }
namespace Rows
def none {H : Type} : Left H := { results := [], args := [] }

/- WHAT THE LISTED PACKAGE-LEVEL VARIABLES READ AS WHEN THE CALL BEGINS. Each datum BY PROGRAM (the guide's laid-datum.mjs) off the statement by which the dump's own 'gosem.cut.vars' lays the variable. In a bare row this is a premise. The card (YtgkccbfepjgjoaaDoorCards.lean) ties it to the program's text. -/
def laid_bytes_ErrTooLarge {H : Type} : DataW H := .iface "*errors.errorString" (.ptr (.agg [.lit (.string [98, 121, 116, 101, 115, 46, 66, 117, 102, 102, 101, 114, 58, 32, 116, 111, 111, 32, 108, 97, 114, 103, 101])]))
def laid_pub_dodona_pub_goora_network_errEnd {H : Type} : DataW H := .iface "*errors.errorString" (.ptr (.agg [.lit (.string [110, 111, 32, 109, 111, 114, 101, 32, 105, 110, 112, 117, 116])]))

/-- 'laws.FnSessionEmpty': WHATEVER THE INPUT: true; the input reads as it did. -/
def fnSessionEmptySpec : ChangeSpec := { name := "fnSessionEmpty", fn := fun _ => fun
  | [d1, d2, d3] => { results := [.lit (.bool true)], args := [d1, d2, d3] }
  | _ => none }
def fnSessionEmptyRow : OpenClaim := { program := "ytgkccbfepjgjoaadoor", sum := "9b0613f8d6c3e295e0c85b7695b1bfde4e13c6976cff33cb867ba12fb99b34ed", func := "pub-dodona/laws.FnSessionEmpty", spec := "fnSessionEmpty", named := ["pub-dodona/pub/goora/network.errEnd", "encoding/binary.BigEndian", "encoding/binary.LittleEndian", "bytes.ErrTooLarge"], apart := false, laid := [("bytes.ErrTooLarge", laid_bytes_ErrTooLarge), ("pub-dodona/pub/goora/network.errEnd", laid_pub_dodona_pub_goora_network_errEnd)] }
def FnSessionEmptySaid : Prop := fnSessionEmptyRow.holds Tryd.pinned (OpenSpec.ofChange fnSessionEmptySpec)

/-- ITS FALSE NEIGHBOUR: 'it returns false'. Refute it at one input. -/
def fnSessionEmptyWrong : ChangeSpec := { name := "fnSessionEmpty", fn := fun _ => fun
  | [d1, d2, d3] => { results := [.lit (.bool false)], args := [d1, d2, d3] }
  | _ => none }
def FnSessionEmptyWrongFalsely : Prop := fnSessionEmptyRow.holds Tryd.pinned (OpenSpec.ofChange fnSessionEmptyWrong)

/-- 'laws.FnSessionKeyVal': WHATEVER THE INPUT: true; the input reads as it did. -/
def fnSessionKeyValSpec : ChangeSpec := { name := "fnSessionKeyVal", fn := fun _ => fun
  | [d1, d2, d3, d4] => { results := [.lit (.bool true)], args := [d1, d2, d3, d4] }
  | _ => none }
def fnSessionKeyValRow : OpenClaim := { program := "ytgkccbfepjgjoaadoor", sum := "9b0613f8d6c3e295e0c85b7695b1bfde4e13c6976cff33cb867ba12fb99b34ed", func := "pub-dodona/laws.FnSessionKeyVal", spec := "fnSessionKeyVal", named := ["bytes.ErrTooLarge", "encoding/binary.BigEndian", "encoding/binary.LittleEndian", "pub-dodona/pub/goora/network.errEnd"], apart := false, laid := [("bytes.ErrTooLarge", laid_bytes_ErrTooLarge), ("pub-dodona/pub/goora/network.errEnd", laid_pub_dodona_pub_goora_network_errEnd)] }
def FnSessionKeyValSaid : Prop := fnSessionKeyValRow.holds Tryd.pinned (OpenSpec.ofChange fnSessionKeyValSpec)

/-- ITS FALSE NEIGHBOUR: 'it returns false'. Refute it at one input. -/
def fnSessionKeyValWrong : ChangeSpec := { name := "fnSessionKeyVal", fn := fun _ => fun
  | [d1, d2, d3, d4] => { results := [.lit (.bool false)], args := [d1, d2, d3, d4] }
  | _ => none }
def FnSessionKeyValWrongFalsely : Prop := fnSessionKeyValRow.holds Tryd.pinned (OpenSpec.ofChange fnSessionKeyValWrong)

/-- 'laws.FnSessionNull': WHATEVER THE INPUT: true; the input reads as it did. -/
def fnSessionNullSpec : ChangeSpec := { name := "fnSessionNull", fn := fun _ => fun
  | [d1, d2, d3, d4] => { results := [.lit (.bool true)], args := [d1, d2, d3, d4] }
  | _ => none }
def fnSessionNullRow : OpenClaim := { program := "ytgkccbfepjgjoaadoor", sum := "9b0613f8d6c3e295e0c85b7695b1bfde4e13c6976cff33cb867ba12fb99b34ed", func := "pub-dodona/laws.FnSessionNull", spec := "fnSessionNull", inPlace := ["internal/bytealg.IndexByte"], named := ["bytes.ErrTooLarge", "encoding/binary.BigEndian", "encoding/binary.LittleEndian", "pub-dodona/pub/goora/network.errEnd"], apart := false, laid := [("bytes.ErrTooLarge", laid_bytes_ErrTooLarge), ("pub-dodona/pub/goora/network.errEnd", laid_pub_dodona_pub_goora_network_errEnd)] }
def FnSessionNullSaid : Prop := fnSessionNullRow.holds Tryd.pinned (OpenSpec.ofChange fnSessionNullSpec)

/-- ITS FALSE NEIGHBOUR: 'it returns false'. Refute it at one input. -/
def fnSessionNullWrong : ChangeSpec := { name := "fnSessionNull", fn := fun _ => fun
  | [d1, d2, d3, d4] => { results := [.lit (.bool false)], args := [d1, d2, d3, d4] }
  | _ => none }
def FnSessionNullWrongFalsely : Prop := fnSessionNullRow.holds Tryd.pinned (OpenSpec.ofChange fnSessionNullWrong)

/-- 'laws.FnSessionNulls': WHATEVER THE INPUT: true; the input reads as it did. -/
def fnSessionNullsSpec : ChangeSpec := { name := "fnSessionNulls", fn := fun _ => fun
  | [d] => { results := [.lit (.bool true)], args := [d] }
  | _ => none }
def fnSessionNullsRow : OpenClaim := { program := "ytgkccbfepjgjoaadoor", sum := "9b0613f8d6c3e295e0c85b7695b1bfde4e13c6976cff33cb867ba12fb99b34ed", func := "pub-dodona/laws.FnSessionNulls", spec := "fnSessionNulls", inPlace := ["internal/bytealg.IndexByte"], named := ["bytes.ErrTooLarge", "encoding/binary.BigEndian", "encoding/binary.LittleEndian", "pub-dodona/pub/goora/network.errEnd"], apart := false, laid := [("bytes.ErrTooLarge", laid_bytes_ErrTooLarge), ("pub-dodona/pub/goora/network.errEnd", laid_pub_dodona_pub_goora_network_errEnd)] }
def FnSessionNullsSaid : Prop := fnSessionNullsRow.holds Tryd.pinned (OpenSpec.ofChange fnSessionNullsSpec)

/-- ITS FALSE NEIGHBOUR: 'it returns false'. Refute it at one input. -/
def fnSessionNullsWrong : ChangeSpec := { name := "fnSessionNulls", fn := fun _ => fun
  | [d] => { results := [.lit (.bool false)], args := [d] }
  | _ => none }
def FnSessionNullsWrongFalsely : Prop := fnSessionNullsRow.holds Tryd.pinned (OpenSpec.ofChange fnSessionNullsWrong)

/-- 'laws.FnSessionPlain': WHATEVER THE INPUT: true; the input reads as it did. -/
def fnSessionPlainSpec : ChangeSpec := { name := "fnSessionPlain", fn := fun _ => fun
  | [d1, d2, d3] => { results := [.lit (.bool true)], args := [d1, d2, d3] }
  | _ => none }
def fnSessionPlainRow : OpenClaim := { program := "ytgkccbfepjgjoaadoor", sum := "9b0613f8d6c3e295e0c85b7695b1bfde4e13c6976cff33cb867ba12fb99b34ed", func := "pub-dodona/laws.FnSessionPlain", spec := "fnSessionPlain", inPlace := ["internal/bytealg.Compare"], unfollowed := true, recurses := true, named := ["bytes.ErrTooLarge", "encoding/binary.BigEndian", "encoding/binary.LittleEndian", "pub-dodona/pub/goora/network.errEnd"], apart := false, laid := [("bytes.ErrTooLarge", laid_bytes_ErrTooLarge), ("pub-dodona/pub/goora/network.errEnd", laid_pub_dodona_pub_goora_network_errEnd)] }
def FnSessionPlainSaid : Prop := fnSessionPlainRow.holds Tryd.pinned (OpenSpec.ofChange fnSessionPlainSpec)

/-- ITS FALSE NEIGHBOUR: 'it returns false'. Refute it at one input. -/
def fnSessionPlainWrong : ChangeSpec := { name := "fnSessionPlain", fn := fun _ => fun
  | [d1, d2, d3] => { results := [.lit (.bool false)], args := [d1, d2, d3] }
  | _ => none }
def FnSessionPlainWrongFalsely : Prop := fnSessionPlainRow.holds Tryd.pinned (OpenSpec.ofChange fnSessionPlainWrong)

/-- 'laws.FnSessionPeek': WHATEVER THE INPUT: true; the input reads as it did. -/
def fnSessionPeekSpec : ChangeSpec := { name := "fnSessionPeek", fn := fun _ => fun
  | [d1, d2, d3] => { results := [.lit (.bool true)], args := [d1, d2, d3] }
  | _ => none }
def fnSessionPeekRow : OpenClaim := { program := "ytgkccbfepjgjoaadoor", sum := "9b0613f8d6c3e295e0c85b7695b1bfde4e13c6976cff33cb867ba12fb99b34ed", func := "pub-dodona/laws.FnSessionPeek", spec := "fnSessionPeek", named := ["bytes.ErrTooLarge", "encoding/binary.BigEndian", "encoding/binary.LittleEndian", "pub-dodona/pub/goora/network.errEnd"], apart := false, laid := [("bytes.ErrTooLarge", laid_bytes_ErrTooLarge), ("pub-dodona/pub/goora/network.errEnd", laid_pub_dodona_pub_goora_network_errEnd)] }
def FnSessionPeekSaid : Prop := fnSessionPeekRow.holds Tryd.pinned (OpenSpec.ofChange fnSessionPeekSpec)

/-- ITS FALSE NEIGHBOUR: 'it returns false'. Refute it at one input. -/
def fnSessionPeekWrong : ChangeSpec := { name := "fnSessionPeek", fn := fun _ => fun
  | [d1, d2, d3] => { results := [.lit (.bool false)], args := [d1, d2, d3] }
  | _ => none }
def FnSessionPeekWrongFalsely : Prop := fnSessionPeekRow.holds Tryd.pinned (OpenSpec.ofChange fnSessionPeekWrong)

/-- 'laws.FnSessionClrParts': WHATEVER THE INPUT: true; the input reads as it did. -/
def fnSessionClrPartsSpec : ChangeSpec := { name := "fnSessionClrParts", fn := fun _ => fun
  | [d1, d2, d3] => { results := [.lit (.bool true)], args := [d1, d2, d3] }
  | _ => none }
def fnSessionClrPartsRow : OpenClaim := { program := "ytgkccbfepjgjoaadoor", sum := "9b0613f8d6c3e295e0c85b7695b1bfde4e13c6976cff33cb867ba12fb99b34ed", func := "pub-dodona/laws.FnSessionClrParts", spec := "fnSessionClrParts", named := ["bytes.ErrTooLarge", "encoding/binary.BigEndian", "encoding/binary.LittleEndian", "pub-dodona/pub/goora/network.errEnd"], apart := false, laid := [("bytes.ErrTooLarge", laid_bytes_ErrTooLarge), ("pub-dodona/pub/goora/network.errEnd", laid_pub_dodona_pub_goora_network_errEnd)] }
def FnSessionClrPartsSaid : Prop := fnSessionClrPartsRow.holds Tryd.pinned (OpenSpec.ofChange fnSessionClrPartsSpec)

/-- ITS FALSE NEIGHBOUR: 'it returns false'. Refute it at one input. -/
def fnSessionClrPartsWrong : ChangeSpec := { name := "fnSessionClrParts", fn := fun _ => fun
  | [d1, d2, d3] => { results := [.lit (.bool false)], args := [d1, d2, d3] }
  | _ => none }
def FnSessionClrPartsWrongFalsely : Prop := fnSessionClrPartsRow.holds Tryd.pinned (OpenSpec.ofChange fnSessionClrPartsWrong)

/-- 'laws.FnSessionGet': WHATEVER THE INPUT: true; the input reads as it did. -/
def fnSessionGetSpec : ChangeSpec := { name := "fnSessionGet", fn := fun _ => fun
  | [d1, d2, d3] => { results := [.lit (.bool true)], args := [d1, d2, d3] }
  | _ => none }
def fnSessionGetRow : OpenClaim := { program := "ytgkccbfepjgjoaadoor", sum := "9b0613f8d6c3e295e0c85b7695b1bfde4e13c6976cff33cb867ba12fb99b34ed", func := "pub-dodona/laws.FnSessionGet", spec := "fnSessionGet", unfollowed := true, recurses := true, named := ["bytes.ErrTooLarge", "encoding/binary.BigEndian", "encoding/binary.LittleEndian", "pub-dodona/pub/goora/network.errEnd"], apart := false, laid := [("bytes.ErrTooLarge", laid_bytes_ErrTooLarge), ("pub-dodona/pub/goora/network.errEnd", laid_pub_dodona_pub_goora_network_errEnd)] }
def FnSessionGetSaid : Prop := fnSessionGetRow.holds Tryd.pinned (OpenSpec.ofChange fnSessionGetSpec)

/-- ITS FALSE NEIGHBOUR: 'it returns false'. Refute it at one input. -/
def fnSessionGetWrong : ChangeSpec := { name := "fnSessionGet", fn := fun _ => fun
  | [d1, d2, d3] => { results := [.lit (.bool false)], args := [d1, d2, d3] }
  | _ => none }
def FnSessionGetWrongFalsely : Prop := fnSessionGetRow.holds Tryd.pinned (OpenSpec.ofChange fnSessionGetWrong)

/-- 'laws.FnSessionPutApart': WHATEVER THE INPUT: true; the input reads as it did. -/
def fnSessionPutApartSpec : ChangeSpec := { name := "fnSessionPutApart", fn := fun _ => fun
  | [d1, d2, d3, d4] => { results := [.lit (.bool true)], args := [d1, d2, d3, d4] }
  | _ => none }
def fnSessionPutApartRow : OpenClaim := { program := "ytgkccbfepjgjoaadoor", sum := "9b0613f8d6c3e295e0c85b7695b1bfde4e13c6976cff33cb867ba12fb99b34ed", func := "pub-dodona/laws.FnSessionPutApart", spec := "fnSessionPutApart", unfollowed := true, recurses := true, named := ["bytes.ErrTooLarge", "encoding/binary.BigEndian", "encoding/binary.LittleEndian", "pub-dodona/pub/goora/network.errEnd"], apart := false, laid := [("bytes.ErrTooLarge", laid_bytes_ErrTooLarge), ("pub-dodona/pub/goora/network.errEnd", laid_pub_dodona_pub_goora_network_errEnd)] }
def FnSessionPutApartSaid : Prop := fnSessionPutApartRow.holds Tryd.pinned (OpenSpec.ofChange fnSessionPutApartSpec)

/-- ITS FALSE NEIGHBOUR: 'it returns false'. Refute it at one input. -/
def fnSessionPutApartWrong : ChangeSpec := { name := "fnSessionPutApart", fn := fun _ => fun
  | [d1, d2, d3, d4] => { results := [.lit (.bool false)], args := [d1, d2, d3, d4] }
  | _ => none }
def FnSessionPutApartWrongFalsely : Prop := fnSessionPutApartRow.holds Tryd.pinned (OpenSpec.ofChange fnSessionPutApartWrong)

/-- 'laws.FnSessionSwapped': WHATEVER THE INPUT: true; the input reads as it did. -/
def fnSessionSwappedSpec : ChangeSpec := { name := "fnSessionSwapped", fn := fun _ => fun
  | [d1, d2, d3] => { results := [.lit (.bool true)], args := [d1, d2, d3] }
  | _ => none }
def fnSessionSwappedRow : OpenClaim := { program := "ytgkccbfepjgjoaadoor", sum := "9b0613f8d6c3e295e0c85b7695b1bfde4e13c6976cff33cb867ba12fb99b34ed", func := "pub-dodona/laws.FnSessionSwapped", spec := "fnSessionSwapped", unfollowed := true, recurses := true, named := ["bytes.ErrTooLarge", "encoding/binary.BigEndian", "encoding/binary.LittleEndian", "pub-dodona/pub/goora/network.errEnd"], apart := false, laid := [("bytes.ErrTooLarge", laid_bytes_ErrTooLarge), ("pub-dodona/pub/goora/network.errEnd", laid_pub_dodona_pub_goora_network_errEnd)] }
def FnSessionSwappedSaid : Prop := fnSessionSwappedRow.holds Tryd.pinned (OpenSpec.ofChange fnSessionSwappedSpec)

/-- ITS FALSE NEIGHBOUR: 'it returns false'. Refute it at one input. -/
def fnSessionSwappedWrong : ChangeSpec := { name := "fnSessionSwapped", fn := fun _ => fun
  | [d1, d2, d3] => { results := [.lit (.bool false)], args := [d1, d2, d3] }
  | _ => none }
def FnSessionSwappedWrongFalsely : Prop := fnSessionSwappedRow.holds Tryd.pinned (OpenSpec.ofChange fnSessionSwappedWrong)

/- THE SECOND FORM. 'bulk': how many values and letters a reading holds, each counted each time it is reached (what is shared counts as often as it is met; a slice's spare places count too). A statement '..UptoSaid' is the law's where the arguments, and the package variables that the reading takes, are together of bulk at most 1048576: NARROWER than '..Said'. Prove '..Said' where nothing that the law and all that it calls make is longer than what came in: it says more and counts as full. Else prove '..UptoSaid'. A law counts once. -/
mutual
def uptoBulk {H : Type} : DataW H → Nat
  | .lit (.string bytes) => bytes.length + 1
  | .lit _ => 1
  | .nil => 1
  | .ptr d => uptoBulk d + 1
  | .slice elems spare => uptoBulkAll elems + uptoBulkAll spare + 1
  | .agg parts => uptoBulkAll parts + 1
  | .iface _ d => uptoBulk d + 1
  | .map entries => uptoBulkEntries entries + 1
  | .held _ => 1
def uptoBulkAll {H : Type} : List (DataW H) → Nat
  | [] => 0
  | d :: r => uptoBulk d + uptoBulkAll r
def uptoBulkEntries {H : Type} : List (Lit × DataW H) → Nat
  | [] => 0
  | x :: r => uptoBulkEntry x + uptoBulkEntries r
def uptoBulkEntry {H : Type} : Lit × DataW H → Nat
  | (.string bytes, d) => bytes.length + uptoBulk d + 1
  | (_, d) => uptoBulk d + 1
 end
def uptoSmall : (H : Type) → List (DataW H) → Bool := fun _ ds => decide (uptoBulkAll ds ≤ 1048576)
def OpenSpec.upto (s : _root_.Go.ChangeSpec) : _root_.Go.OpenSpec := { _root_.Go.OpenSpec.ofChange s with cond := some uptoSmall }

/-- 'laws.FnSessionEmpty', WHERE WHAT IT READS IS OF BULK AT MOST 1048576: true; the input reads as it did. -/
def fnSessionEmptyUptoRow : OpenClaim := { program := "ytgkccbfepjgjoaadoor", sum := "9b0613f8d6c3e295e0c85b7695b1bfde4e13c6976cff33cb867ba12fb99b34ed", func := "pub-dodona/laws.FnSessionEmpty", spec := "fnSessionEmpty", named := ["pub-dodona/pub/goora/network.errEnd", "encoding/binary.BigEndian", "encoding/binary.LittleEndian", "bytes.ErrTooLarge"], apart := false, laid := [("bytes.ErrTooLarge", laid_bytes_ErrTooLarge), ("pub-dodona/pub/goora/network.errEnd", laid_pub_dodona_pub_goora_network_errEnd)], narrowed := true }
def FnSessionEmptyUptoSaid : Prop := fnSessionEmptyUptoRow.holds Tryd.pinned (OpenSpec.upto fnSessionEmptySpec)

/-- 'laws.FnSessionKeyVal', WHERE WHAT IT READS IS OF BULK AT MOST 1048576: true; the input reads as it did. -/
def fnSessionKeyValUptoRow : OpenClaim := { program := "ytgkccbfepjgjoaadoor", sum := "9b0613f8d6c3e295e0c85b7695b1bfde4e13c6976cff33cb867ba12fb99b34ed", func := "pub-dodona/laws.FnSessionKeyVal", spec := "fnSessionKeyVal", named := ["bytes.ErrTooLarge", "encoding/binary.BigEndian", "encoding/binary.LittleEndian", "pub-dodona/pub/goora/network.errEnd"], apart := false, laid := [("bytes.ErrTooLarge", laid_bytes_ErrTooLarge), ("pub-dodona/pub/goora/network.errEnd", laid_pub_dodona_pub_goora_network_errEnd)], narrowed := true }
def FnSessionKeyValUptoSaid : Prop := fnSessionKeyValUptoRow.holds Tryd.pinned (OpenSpec.upto fnSessionKeyValSpec)

/-- 'laws.FnSessionNull', WHERE WHAT IT READS IS OF BULK AT MOST 1048576: true; the input reads as it did. -/
def fnSessionNullUptoRow : OpenClaim := { program := "ytgkccbfepjgjoaadoor", sum := "9b0613f8d6c3e295e0c85b7695b1bfde4e13c6976cff33cb867ba12fb99b34ed", func := "pub-dodona/laws.FnSessionNull", spec := "fnSessionNull", inPlace := ["internal/bytealg.IndexByte"], named := ["bytes.ErrTooLarge", "encoding/binary.BigEndian", "encoding/binary.LittleEndian", "pub-dodona/pub/goora/network.errEnd"], apart := false, laid := [("bytes.ErrTooLarge", laid_bytes_ErrTooLarge), ("pub-dodona/pub/goora/network.errEnd", laid_pub_dodona_pub_goora_network_errEnd)], narrowed := true }
def FnSessionNullUptoSaid : Prop := fnSessionNullUptoRow.holds Tryd.pinned (OpenSpec.upto fnSessionNullSpec)

/-- 'laws.FnSessionNulls', WHERE WHAT IT READS IS OF BULK AT MOST 1048576: true; the input reads as it did. -/
def fnSessionNullsUptoRow : OpenClaim := { program := "ytgkccbfepjgjoaadoor", sum := "9b0613f8d6c3e295e0c85b7695b1bfde4e13c6976cff33cb867ba12fb99b34ed", func := "pub-dodona/laws.FnSessionNulls", spec := "fnSessionNulls", inPlace := ["internal/bytealg.IndexByte"], named := ["bytes.ErrTooLarge", "encoding/binary.BigEndian", "encoding/binary.LittleEndian", "pub-dodona/pub/goora/network.errEnd"], apart := false, laid := [("bytes.ErrTooLarge", laid_bytes_ErrTooLarge), ("pub-dodona/pub/goora/network.errEnd", laid_pub_dodona_pub_goora_network_errEnd)], narrowed := true }
def FnSessionNullsUptoSaid : Prop := fnSessionNullsUptoRow.holds Tryd.pinned (OpenSpec.upto fnSessionNullsSpec)

/-- 'laws.FnSessionPlain', WHERE WHAT IT READS IS OF BULK AT MOST 1048576: true; the input reads as it did. -/
def fnSessionPlainUptoRow : OpenClaim := { program := "ytgkccbfepjgjoaadoor", sum := "9b0613f8d6c3e295e0c85b7695b1bfde4e13c6976cff33cb867ba12fb99b34ed", func := "pub-dodona/laws.FnSessionPlain", spec := "fnSessionPlain", inPlace := ["internal/bytealg.Compare"], unfollowed := true, recurses := true, named := ["bytes.ErrTooLarge", "encoding/binary.BigEndian", "encoding/binary.LittleEndian", "pub-dodona/pub/goora/network.errEnd"], apart := false, laid := [("bytes.ErrTooLarge", laid_bytes_ErrTooLarge), ("pub-dodona/pub/goora/network.errEnd", laid_pub_dodona_pub_goora_network_errEnd)], narrowed := true }
def FnSessionPlainUptoSaid : Prop := fnSessionPlainUptoRow.holds Tryd.pinned (OpenSpec.upto fnSessionPlainSpec)

/-- 'laws.FnSessionPeek', WHERE WHAT IT READS IS OF BULK AT MOST 1048576: true; the input reads as it did. -/
def fnSessionPeekUptoRow : OpenClaim := { program := "ytgkccbfepjgjoaadoor", sum := "9b0613f8d6c3e295e0c85b7695b1bfde4e13c6976cff33cb867ba12fb99b34ed", func := "pub-dodona/laws.FnSessionPeek", spec := "fnSessionPeek", named := ["bytes.ErrTooLarge", "encoding/binary.BigEndian", "encoding/binary.LittleEndian", "pub-dodona/pub/goora/network.errEnd"], apart := false, laid := [("bytes.ErrTooLarge", laid_bytes_ErrTooLarge), ("pub-dodona/pub/goora/network.errEnd", laid_pub_dodona_pub_goora_network_errEnd)], narrowed := true }
def FnSessionPeekUptoSaid : Prop := fnSessionPeekUptoRow.holds Tryd.pinned (OpenSpec.upto fnSessionPeekSpec)

/-- 'laws.FnSessionClrParts', WHERE WHAT IT READS IS OF BULK AT MOST 1048576: true; the input reads as it did. -/
def fnSessionClrPartsUptoRow : OpenClaim := { program := "ytgkccbfepjgjoaadoor", sum := "9b0613f8d6c3e295e0c85b7695b1bfde4e13c6976cff33cb867ba12fb99b34ed", func := "pub-dodona/laws.FnSessionClrParts", spec := "fnSessionClrParts", named := ["bytes.ErrTooLarge", "encoding/binary.BigEndian", "encoding/binary.LittleEndian", "pub-dodona/pub/goora/network.errEnd"], apart := false, laid := [("bytes.ErrTooLarge", laid_bytes_ErrTooLarge), ("pub-dodona/pub/goora/network.errEnd", laid_pub_dodona_pub_goora_network_errEnd)], narrowed := true }
def FnSessionClrPartsUptoSaid : Prop := fnSessionClrPartsUptoRow.holds Tryd.pinned (OpenSpec.upto fnSessionClrPartsSpec)

/-- 'laws.FnSessionGet', WHERE WHAT IT READS IS OF BULK AT MOST 1048576: true; the input reads as it did. -/
def fnSessionGetUptoRow : OpenClaim := { program := "ytgkccbfepjgjoaadoor", sum := "9b0613f8d6c3e295e0c85b7695b1bfde4e13c6976cff33cb867ba12fb99b34ed", func := "pub-dodona/laws.FnSessionGet", spec := "fnSessionGet", unfollowed := true, recurses := true, named := ["bytes.ErrTooLarge", "encoding/binary.BigEndian", "encoding/binary.LittleEndian", "pub-dodona/pub/goora/network.errEnd"], apart := false, laid := [("bytes.ErrTooLarge", laid_bytes_ErrTooLarge), ("pub-dodona/pub/goora/network.errEnd", laid_pub_dodona_pub_goora_network_errEnd)], narrowed := true }
def FnSessionGetUptoSaid : Prop := fnSessionGetUptoRow.holds Tryd.pinned (OpenSpec.upto fnSessionGetSpec)

/-- 'laws.FnSessionPutApart', WHERE WHAT IT READS IS OF BULK AT MOST 1048576: true; the input reads as it did. -/
def fnSessionPutApartUptoRow : OpenClaim := { program := "ytgkccbfepjgjoaadoor", sum := "9b0613f8d6c3e295e0c85b7695b1bfde4e13c6976cff33cb867ba12fb99b34ed", func := "pub-dodona/laws.FnSessionPutApart", spec := "fnSessionPutApart", unfollowed := true, recurses := true, named := ["bytes.ErrTooLarge", "encoding/binary.BigEndian", "encoding/binary.LittleEndian", "pub-dodona/pub/goora/network.errEnd"], apart := false, laid := [("bytes.ErrTooLarge", laid_bytes_ErrTooLarge), ("pub-dodona/pub/goora/network.errEnd", laid_pub_dodona_pub_goora_network_errEnd)], narrowed := true }
def FnSessionPutApartUptoSaid : Prop := fnSessionPutApartUptoRow.holds Tryd.pinned (OpenSpec.upto fnSessionPutApartSpec)

/-- 'laws.FnSessionSwapped', WHERE WHAT IT READS IS OF BULK AT MOST 1048576: true; the input reads as it did. -/
def fnSessionSwappedUptoRow : OpenClaim := { program := "ytgkccbfepjgjoaadoor", sum := "9b0613f8d6c3e295e0c85b7695b1bfde4e13c6976cff33cb867ba12fb99b34ed", func := "pub-dodona/laws.FnSessionSwapped", spec := "fnSessionSwapped", unfollowed := true, recurses := true, named := ["bytes.ErrTooLarge", "encoding/binary.BigEndian", "encoding/binary.LittleEndian", "pub-dodona/pub/goora/network.errEnd"], apart := false, laid := [("bytes.ErrTooLarge", laid_bytes_ErrTooLarge), ("pub-dodona/pub/goora/network.errEnd", laid_pub_dodona_pub_goora_network_errEnd)], narrowed := true }
def FnSessionSwappedUptoSaid : Prop := fnSessionSwappedUptoRow.holds Tryd.pinned (OpenSpec.upto fnSessionSwappedSpec)

end Rows
end Go.Proofs.YtgkccbfepjgjoaaDoor
