/-
  NARROWER THAN 'FOR EVERY INPUT', by the rows' own cells (each row's printed sentence says how): FnIntervalYears: laid · FnNumberNegate: laid · FnNumberOrder: laid · FnNumberTaken: laid · FnNumberUints: laid · FnNumberOrdered: laid · FnNumberParts: laid · FnJoinLedger: laid · FnNumberSum: laid · FnJoinSorted: laid · FnNumberCut: laid.
  DERIVED. THE GIVEN ROWS OF THIS SEAT. 11 by the template 'for every input the law returns true; each argument reads behind the call as it read before'; 0 by the template 'total and deterministic' (their statements: YthimnfdoeplebaaDoorTotals.lean).
  GIVEN WITH THE SEED: the statements are not yours to turn. If you find one false, say at which input.
  Laid BY PROGRAM, IN A SANDBOX (cutbox-rows.mjs): the forced cells as the released guide's own fill.sh prints them over the translation 7a30d7261991b0b9… (all of the seat's roots in one cut). By AI agents, Wed Nov 11 2026. No macro, syntax, notation, axiom, sorry.
-/
import Derived.Test.YthimnfdoeplebaaDoorChecked
import GoSem.PinnedTables
import GoSem.Claim
import GoSem.ClaimJoined
import GoSem.ClaimMapViews
import Derived.JoinedTies
import Derived.KernelRfl
namespace Go.Proofs.YthimnfdoeplebaaDoor
/- THE CELL 'sum', in the pinned program and in every row, IS THE sha256 OF THE DUMP (.gsa) THAT YthimnfdoeplebaaDoorProg.lean LOADS. Nothing in Lean hashes anything: it is a label: what it is worth is what the hold of that sum in a sandbox is worth. -/
noncomputable def Tryd.pinned : Pinned := { name := "ythimnfdoeplebaadoor", sum := "7a30d7261991b0b97101f24e046cdd9e48c2c3cd246c7ca4d9ca81abe3c85bd3", checked := Tryd.checked }
namespace Rows
def none {H : Type} : Left H := { results := [], args := [] }

/- WHAT THE LISTED PACKAGE-LEVEL VARIABLES READ AS WHEN THE CALL BEGINS. Each datum BY PROGRAM (the guide's laid-datum.mjs) off the statement by which the dump's own 'gosem.cut.vars' lays the variable. In a bare row this is a premise. The card (YthimnfdoeplebaaDoorCards.lean) ties it to the program's text. -/
def laid_math_bits_deBruijn32tab {H : Type} : DataW H := .agg [.lit (.int .u8 0), .lit (.int .u8 1), .lit (.int .u8 28), .lit (.int .u8 2), .lit (.int .u8 29), .lit (.int .u8 14), .lit (.int .u8 24), .lit (.int .u8 3), .lit (.int .u8 30), .lit (.int .u8 22), .lit (.int .u8 20), .lit (.int .u8 15), .lit (.int .u8 25), .lit (.int .u8 17), .lit (.int .u8 4), .lit (.int .u8 8), .lit (.int .u8 31), .lit (.int .u8 27), .lit (.int .u8 13), .lit (.int .u8 23), .lit (.int .u8 21), .lit (.int .u8 19), .lit (.int .u8 16), .lit (.int .u8 7), .lit (.int .u8 26), .lit (.int .u8 12), .lit (.int .u8 18), .lit (.int .u8 6), .lit (.int .u8 11), .lit (.int .u8 5), .lit (.int .u8 10), .lit (.int .u8 9)]
def laid_math_bits_deBruijn64tab {H : Type} : DataW H := .agg [.lit (.int .u8 0), .lit (.int .u8 1), .lit (.int .u8 56), .lit (.int .u8 2), .lit (.int .u8 57), .lit (.int .u8 49), .lit (.int .u8 28), .lit (.int .u8 3), .lit (.int .u8 61), .lit (.int .u8 58), .lit (.int .u8 42), .lit (.int .u8 50), .lit (.int .u8 38), .lit (.int .u8 29), .lit (.int .u8 17), .lit (.int .u8 4), .lit (.int .u8 62), .lit (.int .u8 47), .lit (.int .u8 59), .lit (.int .u8 36), .lit (.int .u8 45), .lit (.int .u8 43), .lit (.int .u8 51), .lit (.int .u8 22), .lit (.int .u8 53), .lit (.int .u8 39), .lit (.int .u8 33), .lit (.int .u8 30), .lit (.int .u8 24), .lit (.int .u8 18), .lit (.int .u8 12), .lit (.int .u8 5), .lit (.int .u8 63), .lit (.int .u8 55), .lit (.int .u8 48), .lit (.int .u8 27), .lit (.int .u8 60), .lit (.int .u8 41), .lit (.int .u8 37), .lit (.int .u8 16), .lit (.int .u8 46), .lit (.int .u8 35), .lit (.int .u8 44), .lit (.int .u8 21), .lit (.int .u8 52), .lit (.int .u8 32), .lit (.int .u8 23), .lit (.int .u8 11), .lit (.int .u8 54), .lit (.int .u8 26), .lit (.int .u8 40), .lit (.int .u8 15), .lit (.int .u8 34), .lit (.int .u8 20), .lit (.int .u8 31), .lit (.int .u8 10), .lit (.int .u8 25), .lit (.int .u8 14), .lit (.int .u8 19), .lit (.int .u8 9), .lit (.int .u8 13), .lit (.int .u8 8), .lit (.int .u8 7), .lit (.int .u8 6)]
def laid_internal_strconv_uint64pow10 {H : Type} : DataW H := .agg [.lit (.int .u64 1), .lit (.int .u64 10), .lit (.int .u64 100), .lit (.int .u64 1000), .lit (.int .u64 10000), .lit (.int .u64 100000), .lit (.int .u64 1000000), .lit (.int .u64 10000000), .lit (.int .u64 100000000), .lit (.int .u64 1000000000), .lit (.int .u64 10000000000), .lit (.int .u64 100000000000), .lit (.int .u64 1000000000000), .lit (.int .u64 10000000000000), .lit (.int .u64 100000000000000), .lit (.int .u64 1000000000000000), .lit (.int .u64 10000000000000000), .lit (.int .u64 100000000000000000), .lit (.int .u64 1000000000000000000), .lit (.int .u64 10000000000000000000)]
def laid_unicode_utf8_acceptRanges {H : Type} : DataW H := .agg [.agg [.lit (.int .u8 128), .lit (.int .u8 191)], .agg [.lit (.int .u8 160), .lit (.int .u8 191)], .agg [.lit (.int .u8 128), .lit (.int .u8 159)], .agg [.lit (.int .u8 144), .lit (.int .u8 191)], .agg [.lit (.int .u8 128), .lit (.int .u8 143)], .agg [.lit (.int .u8 0), .lit (.int .u8 0)], .agg [.lit (.int .u8 0), .lit (.int .u8 0)], .agg [.lit (.int .u8 0), .lit (.int .u8 0)], .agg [.lit (.int .u8 0), .lit (.int .u8 0)], .agg [.lit (.int .u8 0), .lit (.int .u8 0)], .agg [.lit (.int .u8 0), .lit (.int .u8 0)], .agg [.lit (.int .u8 0), .lit (.int .u8 0)], .agg [.lit (.int .u8 0), .lit (.int .u8 0)], .agg [.lit (.int .u8 0), .lit (.int .u8 0)], .agg [.lit (.int .u8 0), .lit (.int .u8 0)], .agg [.lit (.int .u8 0), .lit (.int .u8 0)]]
/-- One of Go's own tables, pinned by name: the form's constant. -/
def laid_unicode_utf8_first : DataW Unit := Go.Pinned.utf8First

/-- 'laws.FnIntervalYears': WHATEVER THE INPUT: true; the input reads as it did. -/
def fnIntervalYearsSpec : ChangeSpec := { name := "fnIntervalYears", fn := fun _ => fun
  | [d1, d2] => { results := [.lit (.bool true)], args := [d1, d2] }
  | _ => none }
def fnIntervalYearsRow : OpenClaim := { program := "ythimnfdoeplebaadoor", sum := "7a30d7261991b0b97101f24e046cdd9e48c2c3cd246c7ca4d9ca81abe3c85bd3", func := "pub-dodona/laws.FnIntervalYears", spec := "fnIntervalYears", named := ["encoding/binary.BigEndian", "internal/strconv.uint64pow10", "math/bits.deBruijn32tab", "math/bits.deBruijn64tab"], apart := false, laid := [("math/bits.deBruijn32tab", laid_math_bits_deBruijn32tab), ("math/bits.deBruijn64tab", laid_math_bits_deBruijn64tab), ("internal/strconv.uint64pow10", laid_internal_strconv_uint64pow10)] }
def FnIntervalYearsSaid : Prop := fnIntervalYearsRow.holds Tryd.pinned (OpenSpec.ofChange fnIntervalYearsSpec)

/-- ITS FALSE NEIGHBOUR: 'it returns false'. Refute it at one input. -/
def fnIntervalYearsWrong : ChangeSpec := { name := "fnIntervalYears", fn := fun _ => fun
  | [d1, d2] => { results := [.lit (.bool false)], args := [d1, d2] }
  | _ => none }
def FnIntervalYearsWrongFalsely : Prop := fnIntervalYearsRow.holds Tryd.pinned (OpenSpec.ofChange fnIntervalYearsWrong)

/-- 'laws.FnNumberNegate': WHATEVER THE INPUT: true; the input reads as it did. -/
def fnNumberNegateSpec : ChangeSpec := { name := "fnNumberNegate", fn := fun _ => fun
  | [d] => { results := [.lit (.bool true)], args := [d] }
  | _ => none }
def fnNumberNegateRow : OpenClaim := { program := "ythimnfdoeplebaadoor", sum := "7a30d7261991b0b97101f24e046cdd9e48c2c3cd246c7ca4d9ca81abe3c85bd3", func := "pub-dodona/laws.FnNumberNegate", spec := "fnNumberNegate", inPlace := ["math/bits.Add64"], named := ["internal/strconv.uint64pow10", "math/bits.deBruijn32tab", "math/bits.deBruijn64tab"], apart := false, laid := [("math/bits.deBruijn32tab", laid_math_bits_deBruijn32tab), ("math/bits.deBruijn64tab", laid_math_bits_deBruijn64tab), ("internal/strconv.uint64pow10", laid_internal_strconv_uint64pow10)] }
def FnNumberNegateSaid : Prop := fnNumberNegateRow.holds Tryd.pinned (OpenSpec.ofChange fnNumberNegateSpec)

/-- ITS FALSE NEIGHBOUR: 'it returns false'. Refute it at one input. -/
def fnNumberNegateWrong : ChangeSpec := { name := "fnNumberNegate", fn := fun _ => fun
  | [d] => { results := [.lit (.bool false)], args := [d] }
  | _ => none }
def FnNumberNegateWrongFalsely : Prop := fnNumberNegateRow.holds Tryd.pinned (OpenSpec.ofChange fnNumberNegateWrong)

/-- 'laws.FnNumberOrder': WHATEVER THE INPUT: true; the input reads as it did. -/
def fnNumberOrderSpec : ChangeSpec := { name := "fnNumberOrder", fn := fun _ => fun
  | [d1, d2] => { results := [.lit (.bool true)], args := [d1, d2] }
  | _ => none }
def fnNumberOrderRow : OpenClaim := { program := "ythimnfdoeplebaadoor", sum := "7a30d7261991b0b97101f24e046cdd9e48c2c3cd246c7ca4d9ca81abe3c85bd3", func := "pub-dodona/laws.FnNumberOrder", spec := "fnNumberOrder", inPlace := ["internal/bytealg.Compare", "math/bits.Add64"], named := ["internal/strconv.uint64pow10", "math/bits.deBruijn32tab", "math/bits.deBruijn64tab"], apart := false, laid := [("math/bits.deBruijn32tab", laid_math_bits_deBruijn32tab), ("math/bits.deBruijn64tab", laid_math_bits_deBruijn64tab), ("internal/strconv.uint64pow10", laid_internal_strconv_uint64pow10)] }
def FnNumberOrderSaid : Prop := fnNumberOrderRow.holds Tryd.pinned (OpenSpec.ofChange fnNumberOrderSpec)

/-- ITS FALSE NEIGHBOUR: 'it returns false'. Refute it at one input. -/
def fnNumberOrderWrong : ChangeSpec := { name := "fnNumberOrder", fn := fun _ => fun
  | [d1, d2] => { results := [.lit (.bool false)], args := [d1, d2] }
  | _ => none }
def FnNumberOrderWrongFalsely : Prop := fnNumberOrderRow.holds Tryd.pinned (OpenSpec.ofChange fnNumberOrderWrong)

/-- 'laws.FnNumberTaken': WHATEVER THE INPUT: true; the input reads as it did. -/
def fnNumberTakenSpec : ChangeSpec := { name := "fnNumberTaken", fn := fun _ => fun
  | [d1, d2, d3] => { results := [.lit (.bool true)], args := [d1, d2, d3] }
  | _ => none }
def fnNumberTakenRow : OpenClaim := { program := "ythimnfdoeplebaadoor", sum := "7a30d7261991b0b97101f24e046cdd9e48c2c3cd246c7ca4d9ca81abe3c85bd3", func := "pub-dodona/laws.FnNumberTaken", spec := "fnNumberTaken", inPlace := ["math/bits.Add64"], named := ["internal/strconv.uint64pow10", "math/bits.deBruijn32tab", "math/bits.deBruijn64tab"], apart := false, laid := [("math/bits.deBruijn32tab", laid_math_bits_deBruijn32tab), ("math/bits.deBruijn64tab", laid_math_bits_deBruijn64tab), ("internal/strconv.uint64pow10", laid_internal_strconv_uint64pow10)] }
def FnNumberTakenSaid : Prop := fnNumberTakenRow.holds Tryd.pinned (OpenSpec.ofChange fnNumberTakenSpec)

/-- ITS FALSE NEIGHBOUR: 'it returns false'. Refute it at one input. -/
def fnNumberTakenWrong : ChangeSpec := { name := "fnNumberTaken", fn := fun _ => fun
  | [d1, d2, d3] => { results := [.lit (.bool false)], args := [d1, d2, d3] }
  | _ => none }
def FnNumberTakenWrongFalsely : Prop := fnNumberTakenRow.holds Tryd.pinned (OpenSpec.ofChange fnNumberTakenWrong)

/-- 'laws.FnNumberUints': WHATEVER THE INPUT: true; the input reads as it did. -/
def fnNumberUintsSpec : ChangeSpec := { name := "fnNumberUints", fn := fun _ => fun
  | [d1, d2] => { results := [.lit (.bool true)], args := [d1, d2] }
  | _ => none }
def fnNumberUintsRow : OpenClaim := { program := "ythimnfdoeplebaadoor", sum := "7a30d7261991b0b97101f24e046cdd9e48c2c3cd246c7ca4d9ca81abe3c85bd3", func := "pub-dodona/laws.FnNumberUints", spec := "fnNumberUints", inPlace := ["internal/bytealg.Compare", "math/bits.Add64"], named := ["internal/strconv.uint64pow10", "math/bits.deBruijn32tab", "math/bits.deBruijn64tab"], apart := false, laid := [("math/bits.deBruijn32tab", laid_math_bits_deBruijn32tab), ("math/bits.deBruijn64tab", laid_math_bits_deBruijn64tab), ("internal/strconv.uint64pow10", laid_internal_strconv_uint64pow10)] }
def FnNumberUintsSaid : Prop := fnNumberUintsRow.holds Tryd.pinned (OpenSpec.ofChange fnNumberUintsSpec)

/-- ITS FALSE NEIGHBOUR: 'it returns false'. Refute it at one input. -/
def fnNumberUintsWrong : ChangeSpec := { name := "fnNumberUints", fn := fun _ => fun
  | [d1, d2] => { results := [.lit (.bool false)], args := [d1, d2] }
  | _ => none }
def FnNumberUintsWrongFalsely : Prop := fnNumberUintsRow.holds Tryd.pinned (OpenSpec.ofChange fnNumberUintsWrong)

/-- 'laws.FnNumberOrdered': WHATEVER THE INPUT: true; the input reads as it did. -/
def fnNumberOrderedSpec : ChangeSpec := { name := "fnNumberOrdered", fn := fun _ => fun
  | [d1, d2] => { results := [.lit (.bool true)], args := [d1, d2] }
  | _ => none }
def fnNumberOrderedRow : OpenClaim := { program := "ythimnfdoeplebaadoor", sum := "7a30d7261991b0b97101f24e046cdd9e48c2c3cd246c7ca4d9ca81abe3c85bd3", func := "pub-dodona/laws.FnNumberOrdered", spec := "fnNumberOrdered", inPlace := ["math.Float64frombits", "math.Float64bits", "math/bits.Add64"], named := ["internal/strconv.uint64pow10", "math/bits.deBruijn32tab", "math/bits.deBruijn64tab", "encoding/binary.BigEndian"], apart := false, laid := [("math/bits.deBruijn32tab", laid_math_bits_deBruijn32tab), ("math/bits.deBruijn64tab", laid_math_bits_deBruijn64tab), ("internal/strconv.uint64pow10", laid_internal_strconv_uint64pow10)] }
def FnNumberOrderedSaid : Prop := fnNumberOrderedRow.holds Tryd.pinned (OpenSpec.ofChange fnNumberOrderedSpec)

/-- ITS FALSE NEIGHBOUR: 'it returns false'. Refute it at one input. -/
def fnNumberOrderedWrong : ChangeSpec := { name := "fnNumberOrdered", fn := fun _ => fun
  | [d1, d2] => { results := [.lit (.bool false)], args := [d1, d2] }
  | _ => none }
def FnNumberOrderedWrongFalsely : Prop := fnNumberOrderedRow.holds Tryd.pinned (OpenSpec.ofChange fnNumberOrderedWrong)

/-- 'laws.FnNumberParts': WHATEVER THE INPUT: true; the input reads as it did. -/
def fnNumberPartsSpec : ChangeSpec := { name := "fnNumberParts", fn := fun _ => fun
  | [d1, d2, d3] => { results := [.lit (.bool true)], args := [d1, d2, d3] }
  | _ => none }
def fnNumberPartsRow : OpenClaim := { program := "ythimnfdoeplebaadoor", sum := "7a30d7261991b0b97101f24e046cdd9e48c2c3cd246c7ca4d9ca81abe3c85bd3", func := "pub-dodona/laws.FnNumberParts", spec := "fnNumberParts", inPlace := ["math/bits.Add64"], unfollowed := true, recurses := true, named := ["internal/strconv.uint64pow10", "math/bits.deBruijn32tab", "math/bits.deBruijn64tab"], apart := false, laid := [("math/bits.deBruijn32tab", laid_math_bits_deBruijn32tab), ("math/bits.deBruijn64tab", laid_math_bits_deBruijn64tab), ("internal/strconv.uint64pow10", laid_internal_strconv_uint64pow10)] }
def FnNumberPartsSaid : Prop := fnNumberPartsRow.holds Tryd.pinned (OpenSpec.ofChange fnNumberPartsSpec)

/-- ITS FALSE NEIGHBOUR: 'it returns false'. Refute it at one input. -/
def fnNumberPartsWrong : ChangeSpec := { name := "fnNumberParts", fn := fun _ => fun
  | [d1, d2, d3] => { results := [.lit (.bool false)], args := [d1, d2, d3] }
  | _ => none }
def FnNumberPartsWrongFalsely : Prop := fnNumberPartsRow.holds Tryd.pinned (OpenSpec.ofChange fnNumberPartsWrong)

/-- 'laws.FnJoinLedger': WHATEVER THE INPUT: true; the input reads as it did. -/
def fnJoinLedgerSpec : ChangeSpec := { name := "fnJoinLedger", fn := fun _ => fun
  | [d] => { results := [.lit (.bool true)], args := [d] }
  | _ => none }
def fnJoinLedgerRow : OpenClaim := { program := "ythimnfdoeplebaadoor", sum := "7a30d7261991b0b97101f24e046cdd9e48c2c3cd246c7ca4d9ca81abe3c85bd3", func := "pub-dodona/laws.FnJoinLedger", spec := "fnJoinLedger", inPlace := ["math/bits.Add64", "math.archMin", "math.Float64bits", "math.Float64frombits", "internal/bytealg.Compare"], named := ["internal/strconv.uint64pow10", "math/bits.deBruijn32tab", "math/bits.deBruijn64tab"], apart := false, laid := [("math/bits.deBruijn32tab", laid_math_bits_deBruijn32tab), ("math/bits.deBruijn64tab", laid_math_bits_deBruijn64tab), ("internal/strconv.uint64pow10", laid_internal_strconv_uint64pow10)] }
def FnJoinLedgerSaid : Prop := fnJoinLedgerRow.holds Tryd.pinned (OpenSpec.ofChange fnJoinLedgerSpec)

/-- ITS FALSE NEIGHBOUR: 'it returns false'. Refute it at one input. -/
def fnJoinLedgerWrong : ChangeSpec := { name := "fnJoinLedger", fn := fun _ => fun
  | [d] => { results := [.lit (.bool false)], args := [d] }
  | _ => none }
def FnJoinLedgerWrongFalsely : Prop := fnJoinLedgerRow.holds Tryd.pinned (OpenSpec.ofChange fnJoinLedgerWrong)

/-- 'laws.FnNumberSum': WHATEVER THE INPUT: true; the input reads as it did. -/
def fnNumberSumSpec : ChangeSpec := { name := "fnNumberSum", fn := fun _ => fun
  | [d1, d2] => { results := [.lit (.bool true)], args := [d1, d2] }
  | _ => none }
def fnNumberSumRow : OpenClaim := { program := "ythimnfdoeplebaadoor", sum := "7a30d7261991b0b97101f24e046cdd9e48c2c3cd246c7ca4d9ca81abe3c85bd3", func := "pub-dodona/laws.FnNumberSum", spec := "fnNumberSum", inPlace := ["math.archMin", "math.Float64bits", "math.Float64frombits", "internal/bytealg.Compare", "math/bits.Add64"], named := ["internal/strconv.uint64pow10", "math/bits.deBruijn32tab", "math/bits.deBruijn64tab"], apart := false, laid := [("math/bits.deBruijn32tab", laid_math_bits_deBruijn32tab), ("math/bits.deBruijn64tab", laid_math_bits_deBruijn64tab), ("internal/strconv.uint64pow10", laid_internal_strconv_uint64pow10)] }
def FnNumberSumSaid : Prop := fnNumberSumRow.holds Tryd.pinned (OpenSpec.ofChange fnNumberSumSpec)

/-- ITS FALSE NEIGHBOUR: 'it returns false'. Refute it at one input. -/
def fnNumberSumWrong : ChangeSpec := { name := "fnNumberSum", fn := fun _ => fun
  | [d1, d2] => { results := [.lit (.bool false)], args := [d1, d2] }
  | _ => none }
def FnNumberSumWrongFalsely : Prop := fnNumberSumRow.holds Tryd.pinned (OpenSpec.ofChange fnNumberSumWrong)

/-- 'laws.FnJoinSorted': WHATEVER THE INPUT: true; the input reads as it did. -/
def fnJoinSortedSpec : ChangeSpec := { name := "fnJoinSorted", fn := fun _ => fun
  | [d] => { results := [.lit (.bool true)], args := [d] }
  | _ => none }
def fnJoinSortedRow : OpenClaim := { program := "ythimnfdoeplebaadoor", sum := "7a30d7261991b0b97101f24e046cdd9e48c2c3cd246c7ca4d9ca81abe3c85bd3", func := "pub-dodona/laws.FnJoinSorted", spec := "fnJoinSorted", inPlace := ["math/bits.Add64", "internal/bytealg.Compare"], unfollowed := true, recurses := true, named := ["unicode/utf8.first", "unicode/utf8.acceptRanges", "internal/strconv.uint64pow10", "math/bits.deBruijn32tab", "math/bits.deBruijn64tab"], apart := false, laid := [("math/bits.deBruijn32tab", laid_math_bits_deBruijn32tab), ("math/bits.deBruijn64tab", laid_math_bits_deBruijn64tab), ("internal/strconv.uint64pow10", laid_internal_strconv_uint64pow10), ("unicode/utf8.acceptRanges", laid_unicode_utf8_acceptRanges), ("unicode/utf8.first", laid_unicode_utf8_first)] }
def FnJoinSortedSaid : Prop := fnJoinSortedRow.holds Tryd.pinned (OpenSpec.ofChange fnJoinSortedSpec)

/-- ITS FALSE NEIGHBOUR: 'it returns false'. Refute it at one input. -/
def fnJoinSortedWrong : ChangeSpec := { name := "fnJoinSorted", fn := fun _ => fun
  | [d] => { results := [.lit (.bool false)], args := [d] }
  | _ => none }
def FnJoinSortedWrongFalsely : Prop := fnJoinSortedRow.holds Tryd.pinned (OpenSpec.ofChange fnJoinSortedWrong)

/-- 'laws.FnNumberCut': WHATEVER THE INPUT: true; the input reads as it did. -/
def fnNumberCutSpec : ChangeSpec := { name := "fnNumberCut", fn := fun _ => fun
  | [d1, d2] => { results := [.lit (.bool true)], args := [d1, d2] }
  | _ => none }
def fnNumberCutRow : OpenClaim := { program := "ythimnfdoeplebaadoor", sum := "7a30d7261991b0b97101f24e046cdd9e48c2c3cd246c7ca4d9ca81abe3c85bd3", func := "pub-dodona/laws.FnNumberCut", spec := "fnNumberCut", inPlace := ["math/bits.Add64", "math.archMin", "math.Float64bits", "math.Float64frombits"], named := ["internal/strconv.uint64pow10", "math/bits.deBruijn32tab", "math/bits.deBruijn64tab"], apart := false, laid := [("math/bits.deBruijn32tab", laid_math_bits_deBruijn32tab), ("math/bits.deBruijn64tab", laid_math_bits_deBruijn64tab), ("internal/strconv.uint64pow10", laid_internal_strconv_uint64pow10)] }
def FnNumberCutSaid : Prop := fnNumberCutRow.holds Tryd.pinned (OpenSpec.ofChange fnNumberCutSpec)

/-- ITS FALSE NEIGHBOUR: 'it returns false'. Refute it at one input. -/
def fnNumberCutWrong : ChangeSpec := { name := "fnNumberCut", fn := fun _ => fun
  | [d1, d2] => { results := [.lit (.bool false)], args := [d1, d2] }
  | _ => none }
def FnNumberCutWrongFalsely : Prop := fnNumberCutRow.holds Tryd.pinned (OpenSpec.ofChange fnNumberCutWrong)

/- THE SECOND FORM. 'bulk': how many values and letters a reading holds, each counted each time it is reached (what is shared counts as often as it is met; a slice's spare places count too). A statement '..UptoSaid' is the law's where the arguments, and the package variables that the reading takes, are together of bulk at most 1048576: NARROWER than '..Said'. Prove '..Said' where nothing that the law and all that it calls make is longer than what came in: it says more and counts as full. Else prove '..UptoSaid'. A law counts once. -/
mutual
def uptoBulk {H : Type} : DataW H → Nat
  | .lit (.string bytes) => bytes.length + 1
  | .lit _ => 1
  | .nil => 1
  | .ptr d => uptoBulk d + 1
  | .slice elems spare => uptoBulkAll elems + uptoBulkAll spare + 1
  | .agg parts => uptoBulkAll parts + 1
  | .iface _ d => uptoBulk d + 1
  | .map entries => uptoBulkEntries entries + 1
  | .held _ => 1
def uptoBulkAll {H : Type} : List (DataW H) → Nat
  | [] => 0
  | d :: r => uptoBulk d + uptoBulkAll r
def uptoBulkEntries {H : Type} : List (Lit × DataW H) → Nat
  | [] => 0
  | x :: r => uptoBulkEntry x + uptoBulkEntries r
def uptoBulkEntry {H : Type} : Lit × DataW H → Nat
  | (.string bytes, d) => bytes.length + uptoBulk d + 1
  | (_, d) => uptoBulk d + 1
 end
def uptoSmall : (H : Type) → List (DataW H) → Bool := fun _ ds => decide (uptoBulkAll ds ≤ 1048576)
def OpenSpec.upto (s : _root_.Go.ChangeSpec) : _root_.Go.OpenSpec := { _root_.Go.OpenSpec.ofChange s with cond := some uptoSmall }

/-- 'laws.FnIntervalYears', WHERE WHAT IT READS IS OF BULK AT MOST 1048576: true; the input reads as it did. -/
def fnIntervalYearsUptoRow : OpenClaim := { program := "ythimnfdoeplebaadoor", sum := "7a30d7261991b0b97101f24e046cdd9e48c2c3cd246c7ca4d9ca81abe3c85bd3", func := "pub-dodona/laws.FnIntervalYears", spec := "fnIntervalYears", named := ["encoding/binary.BigEndian", "internal/strconv.uint64pow10", "math/bits.deBruijn32tab", "math/bits.deBruijn64tab"], apart := false, laid := [("math/bits.deBruijn32tab", laid_math_bits_deBruijn32tab), ("math/bits.deBruijn64tab", laid_math_bits_deBruijn64tab), ("internal/strconv.uint64pow10", laid_internal_strconv_uint64pow10)], narrowed := true }
def FnIntervalYearsUptoSaid : Prop := fnIntervalYearsUptoRow.holds Tryd.pinned (OpenSpec.upto fnIntervalYearsSpec)

/-- 'laws.FnNumberNegate', WHERE WHAT IT READS IS OF BULK AT MOST 1048576: true; the input reads as it did. -/
def fnNumberNegateUptoRow : OpenClaim := { program := "ythimnfdoeplebaadoor", sum := "7a30d7261991b0b97101f24e046cdd9e48c2c3cd246c7ca4d9ca81abe3c85bd3", func := "pub-dodona/laws.FnNumberNegate", spec := "fnNumberNegate", inPlace := ["math/bits.Add64"], named := ["internal/strconv.uint64pow10", "math/bits.deBruijn32tab", "math/bits.deBruijn64tab"], apart := false, laid := [("math/bits.deBruijn32tab", laid_math_bits_deBruijn32tab), ("math/bits.deBruijn64tab", laid_math_bits_deBruijn64tab), ("internal/strconv.uint64pow10", laid_internal_strconv_uint64pow10)], narrowed := true }
def FnNumberNegateUptoSaid : Prop := fnNumberNegateUptoRow.holds Tryd.pinned (OpenSpec.upto fnNumberNegateSpec)

/-- 'laws.FnNumberOrder', WHERE WHAT IT READS IS OF BULK AT MOST 1048576: true; the input reads as it did. -/
def fnNumberOrderUptoRow : OpenClaim := { program := "ythimnfdoeplebaadoor", sum := "7a30d7261991b0b97101f24e046cdd9e48c2c3cd246c7ca4d9ca81abe3c85bd3", func := "pub-dodona/laws.FnNumberOrder", spec := "fnNumberOrder", inPlace := ["internal/bytealg.Compare", "math/bits.Add64"], named := ["internal/strconv.uint64pow10", "math/bits.deBruijn32tab", "math/bits.deBruijn64tab"], apart := false, laid := [("math/bits.deBruijn32tab", laid_math_bits_deBruijn32tab), ("math/bits.deBruijn64tab", laid_math_bits_deBruijn64tab), ("internal/strconv.uint64pow10", laid_internal_strconv_uint64pow10)], narrowed := true }
def FnNumberOrderUptoSaid : Prop := fnNumberOrderUptoRow.holds Tryd.pinned (OpenSpec.upto fnNumberOrderSpec)

/-- 'laws.FnNumberTaken', WHERE WHAT IT READS IS OF BULK AT MOST 1048576: true; the input reads as it did. -/
def fnNumberTakenUptoRow : OpenClaim := { program := "ythimnfdoeplebaadoor", sum := "7a30d7261991b0b97101f24e046cdd9e48c2c3cd246c7ca4d9ca81abe3c85bd3", func := "pub-dodona/laws.FnNumberTaken", spec := "fnNumberTaken", inPlace := ["math/bits.Add64"], named := ["internal/strconv.uint64pow10", "math/bits.deBruijn32tab", "math/bits.deBruijn64tab"], apart := false, laid := [("math/bits.deBruijn32tab", laid_math_bits_deBruijn32tab), ("math/bits.deBruijn64tab", laid_math_bits_deBruijn64tab), ("internal/strconv.uint64pow10", laid_internal_strconv_uint64pow10)], narrowed := true }
def FnNumberTakenUptoSaid : Prop := fnNumberTakenUptoRow.holds Tryd.pinned (OpenSpec.upto fnNumberTakenSpec)

/-- 'laws.FnNumberUints', WHERE WHAT IT READS IS OF BULK AT MOST 1048576: true; the input reads as it did. -/
def fnNumberUintsUptoRow : OpenClaim := { program := "ythimnfdoeplebaadoor", sum := "7a30d7261991b0b97101f24e046cdd9e48c2c3cd246c7ca4d9ca81abe3c85bd3", func := "pub-dodona/laws.FnNumberUints", spec := "fnNumberUints", inPlace := ["internal/bytealg.Compare", "math/bits.Add64"], named := ["internal/strconv.uint64pow10", "math/bits.deBruijn32tab", "math/bits.deBruijn64tab"], apart := false, laid := [("math/bits.deBruijn32tab", laid_math_bits_deBruijn32tab), ("math/bits.deBruijn64tab", laid_math_bits_deBruijn64tab), ("internal/strconv.uint64pow10", laid_internal_strconv_uint64pow10)], narrowed := true }
def FnNumberUintsUptoSaid : Prop := fnNumberUintsUptoRow.holds Tryd.pinned (OpenSpec.upto fnNumberUintsSpec)

/-- 'laws.FnNumberOrdered', WHERE WHAT IT READS IS OF BULK AT MOST 1048576: true; the input reads as it did. -/
def fnNumberOrderedUptoRow : OpenClaim := { program := "ythimnfdoeplebaadoor", sum := "7a30d7261991b0b97101f24e046cdd9e48c2c3cd246c7ca4d9ca81abe3c85bd3", func := "pub-dodona/laws.FnNumberOrdered", spec := "fnNumberOrdered", inPlace := ["math.Float64frombits", "math.Float64bits", "math/bits.Add64"], named := ["internal/strconv.uint64pow10", "math/bits.deBruijn32tab", "math/bits.deBruijn64tab", "encoding/binary.BigEndian"], apart := false, laid := [("math/bits.deBruijn32tab", laid_math_bits_deBruijn32tab), ("math/bits.deBruijn64tab", laid_math_bits_deBruijn64tab), ("internal/strconv.uint64pow10", laid_internal_strconv_uint64pow10)], narrowed := true }
def FnNumberOrderedUptoSaid : Prop := fnNumberOrderedUptoRow.holds Tryd.pinned (OpenSpec.upto fnNumberOrderedSpec)

/-- 'laws.FnNumberParts', WHERE WHAT IT READS IS OF BULK AT MOST 1048576: true; the input reads as it did. -/
def fnNumberPartsUptoRow : OpenClaim := { program := "ythimnfdoeplebaadoor", sum := "7a30d7261991b0b97101f24e046cdd9e48c2c3cd246c7ca4d9ca81abe3c85bd3", func := "pub-dodona/laws.FnNumberParts", spec := "fnNumberParts", inPlace := ["math/bits.Add64"], unfollowed := true, recurses := true, named := ["internal/strconv.uint64pow10", "math/bits.deBruijn32tab", "math/bits.deBruijn64tab"], apart := false, laid := [("math/bits.deBruijn32tab", laid_math_bits_deBruijn32tab), ("math/bits.deBruijn64tab", laid_math_bits_deBruijn64tab), ("internal/strconv.uint64pow10", laid_internal_strconv_uint64pow10)], narrowed := true }
def FnNumberPartsUptoSaid : Prop := fnNumberPartsUptoRow.holds Tryd.pinned (OpenSpec.upto fnNumberPartsSpec)

/-- 'laws.FnJoinLedger', WHERE WHAT IT READS IS OF BULK AT MOST 1048576: true; the input reads as it did. -/
def fnJoinLedgerUptoRow : OpenClaim := { program := "ythimnfdoeplebaadoor", sum := "7a30d7261991b0b97101f24e046cdd9e48c2c3cd246c7ca4d9ca81abe3c85bd3", func := "pub-dodona/laws.FnJoinLedger", spec := "fnJoinLedger", inPlace := ["math/bits.Add64", "math.archMin", "math.Float64bits", "math.Float64frombits", "internal/bytealg.Compare"], named := ["internal/strconv.uint64pow10", "math/bits.deBruijn32tab", "math/bits.deBruijn64tab"], apart := false, laid := [("math/bits.deBruijn32tab", laid_math_bits_deBruijn32tab), ("math/bits.deBruijn64tab", laid_math_bits_deBruijn64tab), ("internal/strconv.uint64pow10", laid_internal_strconv_uint64pow10)], narrowed := true }
def FnJoinLedgerUptoSaid : Prop := fnJoinLedgerUptoRow.holds Tryd.pinned (OpenSpec.upto fnJoinLedgerSpec)

/-- 'laws.FnNumberSum', WHERE WHAT IT READS IS OF BULK AT MOST 1048576: true; the input reads as it did. -/
def fnNumberSumUptoRow : OpenClaim := { program := "ythimnfdoeplebaadoor", sum := "7a30d7261991b0b97101f24e046cdd9e48c2c3cd246c7ca4d9ca81abe3c85bd3", func := "pub-dodona/laws.FnNumberSum", spec := "fnNumberSum", inPlace := ["math.archMin", "math.Float64bits", "math.Float64frombits", "internal/bytealg.Compare", "math/bits.Add64"], named := ["internal/strconv.uint64pow10", "math/bits.deBruijn32tab", "math/bits.deBruijn64tab"], apart := false, laid := [("math/bits.deBruijn32tab", laid_math_bits_deBruijn32tab), ("math/bits.deBruijn64tab", laid_math_bits_deBruijn64tab), ("internal/strconv.uint64pow10", laid_internal_strconv_uint64pow10)], narrowed := true }
def FnNumberSumUptoSaid : Prop := fnNumberSumUptoRow.holds Tryd.pinned (OpenSpec.upto fnNumberSumSpec)

/-- 'laws.FnJoinSorted', WHERE WHAT IT READS IS OF BULK AT MOST 1048576: true; the input reads as it did. -/
def fnJoinSortedUptoRow : OpenClaim := { program := "ythimnfdoeplebaadoor", sum := "7a30d7261991b0b97101f24e046cdd9e48c2c3cd246c7ca4d9ca81abe3c85bd3", func := "pub-dodona/laws.FnJoinSorted", spec := "fnJoinSorted", inPlace := ["math/bits.Add64", "internal/bytealg.Compare"], unfollowed := true, recurses := true, named := ["unicode/utf8.first", "unicode/utf8.acceptRanges", "internal/strconv.uint64pow10", "math/bits.deBruijn32tab", "math/bits.deBruijn64tab"], apart := false, laid := [("math/bits.deBruijn32tab", laid_math_bits_deBruijn32tab), ("math/bits.deBruijn64tab", laid_math_bits_deBruijn64tab), ("internal/strconv.uint64pow10", laid_internal_strconv_uint64pow10), ("unicode/utf8.acceptRanges", laid_unicode_utf8_acceptRanges), ("unicode/utf8.first", laid_unicode_utf8_first)], narrowed := true }
def FnJoinSortedUptoSaid : Prop := fnJoinSortedUptoRow.holds Tryd.pinned (OpenSpec.upto fnJoinSortedSpec)

/-- 'laws.FnNumberCut', WHERE WHAT IT READS IS OF BULK AT MOST 1048576: true; the input reads as it did. -/
def fnNumberCutUptoRow : OpenClaim := { program := "ythimnfdoeplebaadoor", sum := "7a30d7261991b0b97101f24e046cdd9e48c2c3cd246c7ca4d9ca81abe3c85bd3", func := "pub-dodona/laws.FnNumberCut", spec := "fnNumberCut", inPlace := ["math/bits.Add64", "math.archMin", "math.Float64bits", "math.Float64frombits"], named := ["internal/strconv.uint64pow10", "math/bits.deBruijn32tab", "math/bits.deBruijn64tab"], apart := false, laid := [("math/bits.deBruijn32tab", laid_math_bits_deBruijn32tab), ("math/bits.deBruijn64tab", laid_math_bits_deBruijn64tab), ("internal/strconv.uint64pow10", laid_internal_strconv_uint64pow10)], narrowed := true }
def FnNumberCutUptoSaid : Prop := fnNumberCutUptoRow.holds Tryd.pinned (OpenSpec.upto fnNumberCutSpec)

end Rows
end Go.Proofs.YthimnfdoeplebaaDoor
