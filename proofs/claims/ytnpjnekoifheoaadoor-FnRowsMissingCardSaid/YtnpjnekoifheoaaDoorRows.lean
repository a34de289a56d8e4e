/-
  NARROWER THAN 'FOR EVERY INPUT', by the rows' own cells (each row's printed sentence says how): FnNameAssign: laid · FnNameEnds: laid · FnNamesMany: laid · FnInRebound: loops, laid · FnNamedOne: loops, laid · FnNamedMissing: loops, laid · FnRowsMissing: loops, laid · FnRowsOther: loops, laid · FnRowsText: loops, laid.
  DERIVED. THE GIVEN ROWS OF THIS SEAT. 9 by the template 'for every input the law returns true; each argument reads behind the call as it read before'; 0 by the template 'total and deterministic' (their statements: YtnpjnekoifheoaaDoorTotals.lean).
  GIVEN WITH THE SEED: the statements are not yours to turn. If you find one false, say at which input.
  Laid BY PROGRAM, IN A SANDBOX (cutbox-rows.mjs): the forced cells as the released guide's own fill.sh prints them over the translation 4833310526c0efc5… (all of the seat's roots in one cut). By AI agents, Wed Nov 11 2026. No macro, syntax, notation, axiom, sorry.
-/
import Derived.Test.YtnpjnekoifheoaaDoorChecked
import GoSem.Claim
import GoSem.ClaimJoined
import GoSem.ClaimMapViews
import Derived.JoinedTies
import Derived.KernelRfl
namespace Go.Proofs.YtnpjnekoifheoaaDoor
/- THE CELL 'sum', in the pinned program and in every row, IS THE sha256 OF THE DUMP (.gsa) THAT YtnpjnekoifheoaaDoorProg.lean LOADS. Nothing in Lean hashes anything: it is a label: what it is worth is what the hold of that sum in a sandbox is worth. -/
noncomputable def Tryd.pinned : Pinned := { name := "ytnpjnekoifheoaadoor", sum := "4833310526c0efc522c57ab2c69f49d723b7f390cdfb4c6b1d53287ed0d5c5b9", checked := Tryd.checked }
namespace Rows
def none {H : Type} : Left H := { results := [], args := [] }

/- WHAT THE LISTED PACKAGE-LEVEL VARIABLES READ AS WHEN THE CALL BEGINS. Each datum BY PROGRAM (the guide's laid-datum.mjs) off the statement by which the dump's own 'gosem.cut.vars' lays the variable. In a bare row this is a premise. The card (YtnpjnekoifheoaaDoorCards.lean) ties it to the program's text. -/
def laid_math_bits_deBruijn32tab {H : Type} : DataW H := .agg [.lit (.int .u8 0), .lit (.int .u8 1), .lit (.int .u8 28), .lit (.int .u8 2), .lit (.int .u8 29), .lit (.int .u8 14), .lit (.int .u8 24), .lit (.int .u8 3), .lit (.int .u8 30), .lit (.int .u8 22), .lit (.int .u8 20), .lit (.int .u8 15), .lit (.int .u8 25), .lit (.int .u8 17), .lit (.int .u8 4), .lit (.int .u8 8), .lit (.int .u8 31), .lit (.int .u8 27), .lit (.int .u8 13), .lit (.int .u8 23), .lit (.int .u8 21), .lit (.int .u8 19), .lit (.int .u8 16), .lit (.int .u8 7), .lit (.int .u8 26), .lit (.int .u8 12), .lit (.int .u8 18), .lit (.int .u8 6), .lit (.int .u8 11), .lit (.int .u8 5), .lit (.int .u8 10), .lit (.int .u8 9)]
def laid_math_bits_deBruijn64tab {H : Type} : DataW H := .agg [.lit (.int .u8 0), .lit (.int .u8 1), .lit (.int .u8 56), .lit (.int .u8 2), .lit (.int .u8 57), .lit (.int .u8 49), .lit (.int .u8 28), .lit (.int .u8 3), .lit (.int .u8 61), .lit (.int .u8 58), .lit (.int .u8 42), .lit (.int .u8 50), .lit (.int .u8 38), .lit (.int .u8 29), .lit (.int .u8 17), .lit (.int .u8 4), .lit (.int .u8 62), .lit (.int .u8 47), .lit (.int .u8 59), .lit (.int .u8 36), .lit (.int .u8 45), .lit (.int .u8 43), .lit (.int .u8 51), .lit (.int .u8 22), .lit (.int .u8 53), .lit (.int .u8 39), .lit (.int .u8 33), .lit (.int .u8 30), .lit (.int .u8 24), .lit (.int .u8 18), .lit (.int .u8 12), .lit (.int .u8 5), .lit (.int .u8 63), .lit (.int .u8 55), .lit (.int .u8 48), .lit (.int .u8 27), .lit (.int .u8 60), .lit (.int .u8 41), .lit (.int .u8 37), .lit (.int .u8 16), .lit (.int .u8 46), .lit (.int .u8 35), .lit (.int .u8 44), .lit (.int .u8 21), .lit (.int .u8 52), .lit (.int .u8 32), .lit (.int .u8 23), .lit (.int .u8 11), .lit (.int .u8 54), .lit (.int .u8 26), .lit (.int .u8 40), .lit (.int .u8 15), .lit (.int .u8 34), .lit (.int .u8 20), .lit (.int .u8 31), .lit (.int .u8 10), .lit (.int .u8 25), .lit (.int .u8 14), .lit (.int .u8 19), .lit (.int .u8 9), .lit (.int .u8 13), .lit (.int .u8 8), .lit (.int .u8 7), .lit (.int .u8 6)]
def laid_internal_strconv_uint64pow10 {H : Type} : DataW H := .agg [.lit (.int .u64 1), .lit (.int .u64 10), .lit (.int .u64 100), .lit (.int .u64 1000), .lit (.int .u64 10000), .lit (.int .u64 100000), .lit (.int .u64 1000000), .lit (.int .u64 10000000), .lit (.int .u64 100000000), .lit (.int .u64 1000000000), .lit (.int .u64 10000000000), .lit (.int .u64 100000000000), .lit (.int .u64 1000000000000), .lit (.int .u64 10000000000000), .lit (.int .u64 100000000000000), .lit (.int .u64 1000000000000000), .lit (.int .u64 10000000000000000), .lit (.int .u64 100000000000000000), .lit (.int .u64 1000000000000000000), .lit (.int .u64 10000000000000000000)]
def laid_bytes_ErrTooLarge {H : Type} : DataW H := .iface "*errors.errorString" (.ptr (.agg [.lit (.string [98, 121, 116, 101, 115, 46, 66, 117, 102, 102, 101, 114, 58, 32, 116, 111, 111, 32, 108, 97, 114, 103, 101])]))

/-- 'laws.FnNameAssign': WHATEVER THE INPUT: true; the input reads as it did. -/
def fnNameAssignSpec : ChangeSpec := { name := "fnNameAssign", fn := fun _ => fun
  | [d1, d2, d3, d4] => { results := [.lit (.bool true)], args := [d1, d2, d3, d4] }
  | _ => none }
def fnNameAssignRow : OpenClaim := { program := "ytnpjnekoifheoaadoor", sum := "4833310526c0efc522c57ab2c69f49d723b7f390cdfb4c6b1d53287ed0d5c5b9", func := "given.example/pub-notarial/laws.FnNameAssign", spec := "fnNameAssign", named := ["internal/strconv.uint64pow10", "math/bits.deBruijn32tab", "math/bits.deBruijn64tab"], apart := false, laid := [("math/bits.deBruijn32tab", laid_math_bits_deBruijn32tab), ("math/bits.deBruijn64tab", laid_math_bits_deBruijn64tab), ("internal/strconv.uint64pow10", laid_internal_strconv_uint64pow10)] }
def FnNameAssignSaid : Prop := fnNameAssignRow.holds Tryd.pinned (OpenSpec.ofChange fnNameAssignSpec)

/-- ITS FALSE NEIGHBOUR: 'it returns false'. Refute it at one input. -/
def fnNameAssignWrong : ChangeSpec := { name := "fnNameAssign", fn := fun _ => fun
  | [d1, d2, d3, d4] => { results := [.lit (.bool false)], args := [d1, d2, d3, d4] }
  | _ => none }
def FnNameAssignWrongFalsely : Prop := fnNameAssignRow.holds Tryd.pinned (OpenSpec.ofChange fnNameAssignWrong)

/-- 'laws.FnNameEnds': WHATEVER THE INPUT: true; the input reads as it did. -/
def fnNameEndsSpec : ChangeSpec := { name := "fnNameEnds", fn := fun _ => fun
  | [d1, d2, d3] => { results := [.lit (.bool true)], args := [d1, d2, d3] }
  | _ => none }
def fnNameEndsRow : OpenClaim := { program := "ytnpjnekoifheoaadoor", sum := "4833310526c0efc522c57ab2c69f49d723b7f390cdfb4c6b1d53287ed0d5c5b9", func := "given.example/pub-notarial/laws.FnNameEnds", spec := "fnNameEnds", named := ["internal/strconv.uint64pow10", "math/bits.deBruijn32tab", "math/bits.deBruijn64tab"], apart := false, laid := [("math/bits.deBruijn32tab", laid_math_bits_deBruijn32tab), ("math/bits.deBruijn64tab", laid_math_bits_deBruijn64tab), ("internal/strconv.uint64pow10", laid_internal_strconv_uint64pow10)] }
def FnNameEndsSaid : Prop := fnNameEndsRow.holds Tryd.pinned (OpenSpec.ofChange fnNameEndsSpec)

/-- ITS FALSE NEIGHBOUR: 'it returns false'. Refute it at one input. -/
def fnNameEndsWrong : ChangeSpec := { name := "fnNameEnds", fn := fun _ => fun
  | [d1, d2, d3] => { results := [.lit (.bool false)], args := [d1, d2, d3] }
  | _ => none }
def FnNameEndsWrongFalsely : Prop := fnNameEndsRow.holds Tryd.pinned (OpenSpec.ofChange fnNameEndsWrong)

/-- 'laws.FnNamesMany': WHATEVER THE INPUT: true; the input reads as it did. -/
def fnNamesManySpec : ChangeSpec := { name := "fnNamesMany", fn := fun _ => fun
  | [d1, d2, d3] => { results := [.lit (.bool true)], args := [d1, d2, d3] }
  | _ => none }
def fnNamesManyRow : OpenClaim := { program := "ytnpjnekoifheoaadoor", sum := "4833310526c0efc522c57ab2c69f49d723b7f390cdfb4c6b1d53287ed0d5c5b9", func := "given.example/pub-notarial/laws.FnNamesMany", spec := "fnNamesMany", named := ["internal/strconv.uint64pow10", "math/bits.deBruijn32tab", "math/bits.deBruijn64tab"], apart := false, laid := [("math/bits.deBruijn32tab", laid_math_bits_deBruijn32tab), ("math/bits.deBruijn64tab", laid_math_bits_deBruijn64tab), ("internal/strconv.uint64pow10", laid_internal_strconv_uint64pow10)] }
def FnNamesManySaid : Prop := fnNamesManyRow.holds Tryd.pinned (OpenSpec.ofChange fnNamesManySpec)

/-- ITS FALSE NEIGHBOUR: 'it returns false'. Refute it at one input. -/
def fnNamesManyWrong : ChangeSpec := { name := "fnNamesMany", fn := fun _ => fun
  | [d1, d2, d3] => { results := [.lit (.bool false)], args := [d1, d2, d3] }
  | _ => none }
def FnNamesManyWrongFalsely : Prop := fnNamesManyRow.holds Tryd.pinned (OpenSpec.ofChange fnNamesManyWrong)

/-- 'laws.FnInRebound': WHATEVER THE INPUT: true; the input reads as it did. -/
def fnInReboundSpec : ChangeSpec := { name := "fnInRebound", fn := fun _ => fun
  | [d1, d2] => { results := [.lit (.bool true)], args := [d1, d2] }
  | _ => none }
def fnInReboundRow : OpenClaim := { program := "ytnpjnekoifheoaadoor", sum := "4833310526c0efc522c57ab2c69f49d723b7f390cdfb4c6b1d53287ed0d5c5b9", func := "given.example/pub-notarial/laws.FnInRebound", spec := "fnInRebound", inPlace := ["internal/abi.NoEscape", "internal/bytealg.MakeNoZero"], recurses := true, named := ["internal/strconv.uint64pow10", "math/bits.deBruijn32tab", "math/bits.deBruijn64tab"], loops := true, apart := false, laid := [("math/bits.deBruijn32tab", laid_math_bits_deBruijn32tab), ("math/bits.deBruijn64tab", laid_math_bits_deBruijn64tab), ("internal/strconv.uint64pow10", laid_internal_strconv_uint64pow10)] }
def FnInReboundSaid : Prop := fnInReboundRow.holds Tryd.pinned (OpenSpec.ofChange fnInReboundSpec)

/-- ITS FALSE NEIGHBOUR: 'it returns false'. Refute it at one input. -/
def fnInReboundWrong : ChangeSpec := { name := "fnInRebound", fn := fun _ => fun
  | [d1, d2] => { results := [.lit (.bool false)], args := [d1, d2] }
  | _ => none }
def FnInReboundWrongFalsely : Prop := fnInReboundRow.holds Tryd.pinned (OpenSpec.ofChange fnInReboundWrong)

/-- 'laws.FnNamedOne': WHATEVER THE INPUT: true; the input reads as it did. -/
def fnNamedOneSpec : ChangeSpec := { name := "fnNamedOne", fn := fun _ => fun
  | [d1, d2, d3, d4] => { results := [.lit (.bool true)], args := [d1, d2, d3, d4] }
  | _ => none }
def fnNamedOneRow : OpenClaim := { program := "ytnpjnekoifheoaadoor", sum := "4833310526c0efc522c57ab2c69f49d723b7f390cdfb4c6b1d53287ed0d5c5b9", func := "given.example/pub-notarial/laws.FnNamedOne", spec := "fnNamedOne", recurses := true, named := ["internal/strconv.uint64pow10", "math/bits.deBruijn32tab", "math/bits.deBruijn64tab", "bytes.ErrTooLarge"], loops := true, apart := false, laid := [("math/bits.deBruijn32tab", laid_math_bits_deBruijn32tab), ("math/bits.deBruijn64tab", laid_math_bits_deBruijn64tab), ("internal/strconv.uint64pow10", laid_internal_strconv_uint64pow10), ("bytes.ErrTooLarge", laid_bytes_ErrTooLarge)] }
def FnNamedOneSaid : Prop := fnNamedOneRow.holds Tryd.pinned (OpenSpec.ofChange fnNamedOneSpec)

/-- ITS FALSE NEIGHBOUR: 'it returns false'. Refute it at one input. -/
def fnNamedOneWrong : ChangeSpec := { name := "fnNamedOne", fn := fun _ => fun
  | [d1, d2, d3, d4] => { results := [.lit (.bool false)], args := [d1, d2, d3, d4] }
  | _ => none }
def FnNamedOneWrongFalsely : Prop := fnNamedOneRow.holds Tryd.pinned (OpenSpec.ofChange fnNamedOneWrong)

/-- 'laws.FnNamedMissing': WHATEVER THE INPUT: true; the input reads as it did. -/
def fnNamedMissingSpec : ChangeSpec := { name := "fnNamedMissing", fn := fun _ => fun
  | [d1, d2, d3] => { results := [.lit (.bool true)], args := [d1, d2, d3] }
  | _ => none }
def fnNamedMissingRow : OpenClaim := { program := "ytnpjnekoifheoaadoor", sum := "4833310526c0efc522c57ab2c69f49d723b7f390cdfb4c6b1d53287ed0d5c5b9", func := "given.example/pub-notarial/laws.FnNamedMissing", spec := "fnNamedMissing", recurses := true, named := ["internal/strconv.uint64pow10", "math/bits.deBruijn32tab", "math/bits.deBruijn64tab", "bytes.ErrTooLarge"], loops := true, apart := false, laid := [("math/bits.deBruijn32tab", laid_math_bits_deBruijn32tab), ("math/bits.deBruijn64tab", laid_math_bits_deBruijn64tab), ("internal/strconv.uint64pow10", laid_internal_strconv_uint64pow10), ("bytes.ErrTooLarge", laid_bytes_ErrTooLarge)] }
def FnNamedMissingSaid : Prop := fnNamedMissingRow.holds Tryd.pinned (OpenSpec.ofChange fnNamedMissingSpec)

/-- ITS FALSE NEIGHBOUR: 'it returns false'. Refute it at one input. -/
def fnNamedMissingWrong : ChangeSpec := { name := "fnNamedMissing", fn := fun _ => fun
  | [d1, d2, d3] => { results := [.lit (.bool false)], args := [d1, d2, d3] }
  | _ => none }
def FnNamedMissingWrongFalsely : Prop := fnNamedMissingRow.holds Tryd.pinned (OpenSpec.ofChange fnNamedMissingWrong)

/-- 'laws.FnRowsMissing': WHATEVER THE INPUT: true; the input reads as it did. -/
def fnRowsMissingSpec : ChangeSpec := { name := "fnRowsMissing", fn := fun _ => fun
  | [d1, d2, d3, d4] => { results := [.lit (.bool true)], args := [d1, d2, d3, d4] }
  | _ => none }
def fnRowsMissingRow : OpenClaim := { program := "ytnpjnekoifheoaadoor", sum := "4833310526c0efc522c57ab2c69f49d723b7f390cdfb4c6b1d53287ed0d5c5b9", func := "given.example/pub-notarial/laws.FnRowsMissing", spec := "fnRowsMissing", recurses := true, named := ["internal/strconv.uint64pow10", "math/bits.deBruijn32tab", "math/bits.deBruijn64tab", "bytes.ErrTooLarge"], loops := true, apart := false, laid := [("math/bits.deBruijn32tab", laid_math_bits_deBruijn32tab), ("math/bits.deBruijn64tab", laid_math_bits_deBruijn64tab), ("internal/strconv.uint64pow10", laid_internal_strconv_uint64pow10), ("bytes.ErrTooLarge", laid_bytes_ErrTooLarge)] }
def FnRowsMissingSaid : Prop := fnRowsMissingRow.holds Tryd.pinned (OpenSpec.ofChange fnRowsMissingSpec)

/-- ITS FALSE NEIGHBOUR: 'it returns false'. Refute it at one input. -/
def fnRowsMissingWrong : ChangeSpec := { name := "fnRowsMissing", fn := fun _ => fun
  | [d1, d2, d3, d4] => { results := [.lit (.bool false)], args := [d1, d2, d3, d4] }
  | _ => none }
def FnRowsMissingWrongFalsely : Prop := fnRowsMissingRow.holds Tryd.pinned (OpenSpec.ofChange fnRowsMissingWrong)

/-- 'laws.FnRowsOther': WHATEVER THE INPUT: true; the input reads as it did. -/
def fnRowsOtherSpec : ChangeSpec := { name := "fnRowsOther", fn := fun _ => fun
  | [d1, d2, d3] => { results := [.lit (.bool true)], args := [d1, d2, d3] }
  | _ => none }
def fnRowsOtherRow : OpenClaim := { program := "ytnpjnekoifheoaadoor", sum := "4833310526c0efc522c57ab2c69f49d723b7f390cdfb4c6b1d53287ed0d5c5b9", func := "given.example/pub-notarial/laws.FnRowsOther", spec := "fnRowsOther", recurses := true, named := ["internal/strconv.uint64pow10", "math/bits.deBruijn32tab", "math/bits.deBruijn64tab", "bytes.ErrTooLarge"], loops := true, apart := false, laid := [("math/bits.deBruijn32tab", laid_math_bits_deBruijn32tab), ("math/bits.deBruijn64tab", laid_math_bits_deBruijn64tab), ("internal/strconv.uint64pow10", laid_internal_strconv_uint64pow10), ("bytes.ErrTooLarge", laid_bytes_ErrTooLarge)] }
def FnRowsOtherSaid : Prop := fnRowsOtherRow.holds Tryd.pinned (OpenSpec.ofChange fnRowsOtherSpec)

/-- ITS FALSE NEIGHBOUR: 'it returns false'. Refute it at one input. -/
def fnRowsOtherWrong : ChangeSpec := { name := "fnRowsOther", fn := fun _ => fun
  | [d1, d2, d3] => { results := [.lit (.bool false)], args := [d1, d2, d3] }
  | _ => none }
def FnRowsOtherWrongFalsely : Prop := fnRowsOtherRow.holds Tryd.pinned (OpenSpec.ofChange fnRowsOtherWrong)

/-- 'laws.FnRowsText': WHATEVER THE INPUT: true; the input reads as it did. -/
def fnRowsTextSpec : ChangeSpec := { name := "fnRowsText", fn := fun _ => fun
  | [d1, d2, d3] => { results := [.lit (.bool true)], args := [d1, d2, d3] }
  | _ => none }
def fnRowsTextRow : OpenClaim := { program := "ytnpjnekoifheoaadoor", sum := "4833310526c0efc522c57ab2c69f49d723b7f390cdfb4c6b1d53287ed0d5c5b9", func := "given.example/pub-notarial/laws.FnRowsText", spec := "fnRowsText", recurses := true, named := ["internal/strconv.uint64pow10", "math/bits.deBruijn32tab", "math/bits.deBruijn64tab", "bytes.ErrTooLarge"], loops := true, apart := false, laid := [("math/bits.deBruijn32tab", laid_math_bits_deBruijn32tab), ("math/bits.deBruijn64tab", laid_math_bits_deBruijn64tab), ("internal/strconv.uint64pow10", laid_internal_strconv_uint64pow10), ("bytes.ErrTooLarge", laid_bytes_ErrTooLarge)] }
def FnRowsTextSaid : Prop := fnRowsTextRow.holds Tryd.pinned (OpenSpec.ofChange fnRowsTextSpec)

/-- ITS FALSE NEIGHBOUR: 'it returns false'. Refute it at one input. -/
def fnRowsTextWrong : ChangeSpec := { name := "fnRowsText", fn := fun _ => fun
  | [d1, d2, d3] => { results := [.lit (.bool false)], args := [d1, d2, d3] }
  | _ => none }
def FnRowsTextWrongFalsely : Prop := fnRowsTextRow.holds Tryd.pinned (OpenSpec.ofChange fnRowsTextWrong)

/- THE SECOND FORM. 'bulk': how many values and letters a reading holds, each counted each time it is reached (what is shared counts as often as it is met; a slice's spare places count too). A statement '..UptoSaid' is the law's where the arguments, and the package variables that the reading takes, are together of bulk at most 1048576: NARROWER than '..Said'. Prove '..Said' where nothing that the law and all that it calls make is longer than what came in: it says more and counts as full. Else prove '..UptoSaid'. A law counts once. -/
mutual
def uptoBulk {H : Type} : DataW H → Nat
  | .lit (.string bytes) => bytes.length + 1
  | .lit _ => 1
  | .nil => 1
  | .ptr d => uptoBulk d + 1
  | .slice elems spare => uptoBulkAll elems + uptoBulkAll spare + 1
  | .agg parts => uptoBulkAll parts + 1
  | .iface _ d => uptoBulk d + 1
  | .map entries => uptoBulkEntries entries + 1
  | .held _ => 1
def uptoBulkAll {H : Type} : List (DataW H) → Nat
  | [] => 0
  | d :: r => uptoBulk d + uptoBulkAll r
def uptoBulkEntries {H : Type} : List (Lit × DataW H) → Nat
  | [] => 0
  | x :: r => uptoBulkEntry x + uptoBulkEntries r
def uptoBulkEntry {H : Type} : Lit × DataW H → Nat
  | (.string bytes, d) => bytes.length + uptoBulk d + 1
  | (_, d) => uptoBulk d + 1
 end
def uptoSmall : (H : Type) → List (DataW H) → Bool := fun _ ds => decide (uptoBulkAll ds ≤ 1048576)
def OpenSpec.upto (s : _root_.Go.ChangeSpec) : _root_.Go.OpenSpec := { _root_.Go.OpenSpec.ofChange s with cond := some uptoSmall }

/-- 'laws.FnNameAssign', WHERE WHAT IT READS IS OF BULK AT MOST 1048576: true; the input reads as it did. -/
def fnNameAssignUptoRow : OpenClaim := { program := "ytnpjnekoifheoaadoor", sum := "4833310526c0efc522c57ab2c69f49d723b7f390cdfb4c6b1d53287ed0d5c5b9", func := "given.example/pub-notarial/laws.FnNameAssign", spec := "fnNameAssign", named := ["internal/strconv.uint64pow10", "math/bits.deBruijn32tab", "math/bits.deBruijn64tab"], apart := false, laid := [("math/bits.deBruijn32tab", laid_math_bits_deBruijn32tab), ("math/bits.deBruijn64tab", laid_math_bits_deBruijn64tab), ("internal/strconv.uint64pow10", laid_internal_strconv_uint64pow10)], narrowed := true }
def FnNameAssignUptoSaid : Prop := fnNameAssignUptoRow.holds Tryd.pinned (OpenSpec.upto fnNameAssignSpec)

/-- 'laws.FnNameEnds', WHERE WHAT IT READS IS OF BULK AT MOST 1048576: true; the input reads as it did. -/
def fnNameEndsUptoRow : OpenClaim := { program := "ytnpjnekoifheoaadoor", sum := "4833310526c0efc522c57ab2c69f49d723b7f390cdfb4c6b1d53287ed0d5c5b9", func := "given.example/pub-notarial/laws.FnNameEnds", spec := "fnNameEnds", named := ["internal/strconv.uint64pow10", "math/bits.deBruijn32tab", "math/bits.deBruijn64tab"], apart := false, laid := [("math/bits.deBruijn32tab", laid_math_bits_deBruijn32tab), ("math/bits.deBruijn64tab", laid_math_bits_deBruijn64tab), ("internal/strconv.uint64pow10", laid_internal_strconv_uint64pow10)], narrowed := true }
def FnNameEndsUptoSaid : Prop := fnNameEndsUptoRow.holds Tryd.pinned (OpenSpec.upto fnNameEndsSpec)

/-- 'laws.FnNamesMany', WHERE WHAT IT READS IS OF BULK AT MOST 1048576: true; the input reads as it did. -/
def fnNamesManyUptoRow : OpenClaim := { program := "ytnpjnekoifheoaadoor", sum := "4833310526c0efc522c57ab2c69f49d723b7f390cdfb4c6b1d53287ed0d5c5b9", func := "given.example/pub-notarial/laws.FnNamesMany", spec := "fnNamesMany", named := ["internal/strconv.uint64pow10", "math/bits.deBruijn32tab", "math/bits.deBruijn64tab"], apart := false, laid := [("math/bits.deBruijn32tab", laid_math_bits_deBruijn32tab), ("math/bits.deBruijn64tab", laid_math_bits_deBruijn64tab), ("internal/strconv.uint64pow10", laid_internal_strconv_uint64pow10)], narrowed := true }
def FnNamesManyUptoSaid : Prop := fnNamesManyUptoRow.holds Tryd.pinned (OpenSpec.upto fnNamesManySpec)

/-- 'laws.FnInRebound', WHERE WHAT IT READS IS OF BULK AT MOST 1048576: true; the input reads as it did. -/
def fnInReboundUptoRow : OpenClaim := { program := "ytnpjnekoifheoaadoor", sum := "4833310526c0efc522c57ab2c69f49d723b7f390cdfb4c6b1d53287ed0d5c5b9", func := "given.example/pub-notarial/laws.FnInRebound", spec := "fnInRebound", inPlace := ["internal/abi.NoEscape", "internal/bytealg.MakeNoZero"], recurses := true, named := ["internal/strconv.uint64pow10", "math/bits.deBruijn32tab", "math/bits.deBruijn64tab"], loops := true, apart := false, laid := [("math/bits.deBruijn32tab", laid_math_bits_deBruijn32tab), ("math/bits.deBruijn64tab", laid_math_bits_deBruijn64tab), ("internal/strconv.uint64pow10", laid_internal_strconv_uint64pow10)], narrowed := true }
def FnInReboundUptoSaid : Prop := fnInReboundUptoRow.holds Tryd.pinned (OpenSpec.upto fnInReboundSpec)

/-- 'laws.FnNamedOne', WHERE WHAT IT READS IS OF BULK AT MOST 1048576: true; the input reads as it did. -/
def fnNamedOneUptoRow : OpenClaim := { program := "ytnpjnekoifheoaadoor", sum := "4833310526c0efc522c57ab2c69f49d723b7f390cdfb4c6b1d53287ed0d5c5b9", func := "given.example/pub-notarial/laws.FnNamedOne", spec := "fnNamedOne", recurses := true, named := ["internal/strconv.uint64pow10", "math/bits.deBruijn32tab", "math/bits.deBruijn64tab", "bytes.ErrTooLarge"], loops := true, apart := false, laid := [("math/bits.deBruijn32tab", laid_math_bits_deBruijn32tab), ("math/bits.deBruijn64tab", laid_math_bits_deBruijn64tab), ("internal/strconv.uint64pow10", laid_internal_strconv_uint64pow10), ("bytes.ErrTooLarge", laid_bytes_ErrTooLarge)], narrowed := true }
def FnNamedOneUptoSaid : Prop := fnNamedOneUptoRow.holds Tryd.pinned (OpenSpec.upto fnNamedOneSpec)

/-- 'laws.FnNamedMissing', WHERE WHAT IT READS IS OF BULK AT MOST 1048576: true; the input reads as it did. -/
def fnNamedMissingUptoRow : OpenClaim := { program := "ytnpjnekoifheoaadoor", sum := "4833310526c0efc522c57ab2c69f49d723b7f390cdfb4c6b1d53287ed0d5c5b9", func := "given.example/pub-notarial/laws.FnNamedMissing", spec := "fnNamedMissing", recurses := true, named := ["internal/strconv.uint64pow10", "math/bits.deBruijn32tab", "math/bits.deBruijn64tab", "bytes.ErrTooLarge"], loops := true, apart := false, laid := [("math/bits.deBruijn32tab", laid_math_bits_deBruijn32tab), ("math/bits.deBruijn64tab", laid_math_bits_deBruijn64tab), ("internal/strconv.uint64pow10", laid_internal_strconv_uint64pow10), ("bytes.ErrTooLarge", laid_bytes_ErrTooLarge)], narrowed := true }
def FnNamedMissingUptoSaid : Prop := fnNamedMissingUptoRow.holds Tryd.pinned (OpenSpec.upto fnNamedMissingSpec)

/-- 'laws.FnRowsMissing', WHERE WHAT IT READS IS OF BULK AT MOST 1048576: true; the input reads as it did. -/
def fnRowsMissingUptoRow : OpenClaim := { program := "ytnpjnekoifheoaadoor", sum := "4833310526c0efc522c57ab2c69f49d723b7f390cdfb4c6b1d53287ed0d5c5b9", func := "given.example/pub-notarial/laws.FnRowsMissing", spec := "fnRowsMissing", recurses := true, named := ["internal/strconv.uint64pow10", "math/bits.deBruijn32tab", "math/bits.deBruijn64tab", "bytes.ErrTooLarge"], loops := true, apart := false, laid := [("math/bits.deBruijn32tab", laid_math_bits_deBruijn32tab), ("math/bits.deBruijn64tab", laid_math_bits_deBruijn64tab), ("internal/strconv.uint64pow10", laid_internal_strconv_uint64pow10), ("bytes.ErrTooLarge", laid_bytes_ErrTooLarge)], narrowed := true }
def FnRowsMissingUptoSaid : Prop := fnRowsMissingUptoRow.holds Tryd.pinned (OpenSpec.upto fnRowsMissingSpec)

/-- 'laws.FnRowsOther', WHERE WHAT IT READS IS OF BULK AT MOST 1048576: true; the input reads as it did. -/
def fnRowsOtherUptoRow : OpenClaim := { program := "ytnpjnekoifheoaadoor", sum := "4833310526c0efc522c57ab2c69f49d723b7f390cdfb4c6b1d53287ed0d5c5b9", func := "given.example/pub-notarial/laws.FnRowsOther", spec := "fnRowsOther", recurses := true, named := ["internal/strconv.uint64pow10", "math/bits.deBruijn32tab", "math/bits.deBruijn64tab", "bytes.ErrTooLarge"], loops := true, apart := false, laid := [("math/bits.deBruijn32tab", laid_math_bits_deBruijn32tab), ("math/bits.deBruijn64tab", laid_math_bits_deBruijn64tab), ("internal/strconv.uint64pow10", laid_internal_strconv_uint64pow10), ("bytes.ErrTooLarge", laid_bytes_ErrTooLarge)], narrowed := true }
def FnRowsOtherUptoSaid : Prop := fnRowsOtherUptoRow.holds Tryd.pinned (OpenSpec.upto fnRowsOtherSpec)

/-- 'laws.FnRowsText', WHERE WHAT IT READS IS OF BULK AT MOST 1048576: true; the input reads as it did. -/
def fnRowsTextUptoRow : OpenClaim := { program := "ytnpjnekoifheoaadoor", sum := "4833310526c0efc522c57ab2c69f49d723b7f390cdfb4c6b1d53287ed0d5c5b9", func := "given.example/pub-notarial/laws.FnRowsText", spec := "fnRowsText", recurses := true, named := ["internal/strconv.uint64pow10", "math/bits.deBruijn32tab", "math/bits.deBruijn64tab", "bytes.ErrTooLarge"], loops := true, apart := false, laid := [("math/bits.deBruijn32tab", laid_math_bits_deBruijn32tab), ("math/bits.deBruijn64tab", laid_math_bits_deBruijn64tab), ("internal/strconv.uint64pow10", laid_internal_strconv_uint64pow10), ("bytes.ErrTooLarge", laid_bytes_ErrTooLarge)], narrowed := true }
def FnRowsTextUptoSaid : Prop := fnRowsTextUptoRow.holds Tryd.pinned (OpenSpec.upto fnRowsTextSpec)

end Rows
end Go.Proofs.YtnpjnekoifheoaaDoor
