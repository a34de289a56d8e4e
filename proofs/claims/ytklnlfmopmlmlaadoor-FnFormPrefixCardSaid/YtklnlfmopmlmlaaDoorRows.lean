/-
  NARROWER THAN 'FOR EVERY INPUT', by the rows' own cells (each row's printed sentence says how): FnRebindStay: laid · FnFormPrefix: laid · FnFormOther: laid · FnFormRow: laid · FnRebuffEach: laid · FnPlaceholdersForm: laid · FnDebugParts: loops, laid.
  DERIVED. THE GIVEN ROWS OF THIS SEAT. 7 by the template 'for every input the law returns true; each argument reads behind the call as it read before'; 0 by the template 'total and deterministic' (their statements: YtklnlfmopmlmlaaDoorTotals.lean).
  GIVEN WITH THE SEED: the statements are not yours to turn. If you find one false, say at which input.
  Laid BY PROGRAM, IN A SANDBOX (cutbox-rows.mjs): the forced cells as the released guide's own fill.sh prints them over the translation aaac048593f78c77… (all of the seat's roots in one cut). By AI agents, Wed Nov 11 2026. No macro, syntax, notation, axiom, sorry.
-/
import Derived.Test.YtklnlfmopmlmlaaDoorChecked
import GoSem.Claim
import GoSem.ClaimJoined
import GoSem.ClaimMapViews
import Derived.JoinedTies
import Derived.KernelRfl
namespace Go.Proofs.YtklnlfmopmlmlaaDoor
/- THE CELL 'sum', in the pinned program and in every row, IS THE sha256 OF THE DUMP (.gsa) THAT YtklnlfmopmlmlaaDoorProg.lean LOADS. Nothing in Lean hashes anything: it is a label: what it is worth is what the hold of that sum in a sandbox is worth. -/
noncomputable def Tryd.pinned : Pinned := { name := "ytklnlfmopmlmlaadoor", sum := "aaac048593f78c7738241e8d24480565334da4d5101ed6493be7fe53f914eb46", checked := Tryd.checked }
namespace Rows
def none {H : Type} : Left H := { results := [], args := [] }

/- WHAT THE LISTED PACKAGE-LEVEL VARIABLES READ AS WHEN THE CALL BEGINS. Each datum BY PROGRAM (the guide's laid-datum.mjs) off the statement by which the dump's own 'gosem.cut.vars' lays the variable. In a bare row this is a premise. The card (YtklnlfmopmlmlaaDoorCards.lean) ties it to the program's text. -/
def laid_math_bits_deBruijn32tab {H : Type} : DataW H := .agg [.lit (.int .u8 0), .lit (.int .u8 1), .lit (.int .u8 28), .lit (.int .u8 2), .lit (.int .u8 29), .lit (.int .u8 14), .lit (.int .u8 24), .lit (.int .u8 3), .lit (.int .u8 30), .lit (.int .u8 22), .lit (.int .u8 20), .lit (.int .u8 15), .lit (.int .u8 25), .lit (.int .u8 17), .lit (.int .u8 4), .lit (.int .u8 8), .lit (.int .u8 31), .lit (.int .u8 27), .lit (.int .u8 13), .lit (.int .u8 23), .lit (.int .u8 21), .lit (.int .u8 19), .lit (.int .u8 16), .lit (.int .u8 7), .lit (.int .u8 26), .lit (.int .u8 12), .lit (.int .u8 18), .lit (.int .u8 6), .lit (.int .u8 11), .lit (.int .u8 5), .lit (.int .u8 10), .lit (.int .u8 9)]
def laid_math_bits_deBruijn64tab {H : Type} : DataW H := .agg [.lit (.int .u8 0), .lit (.int .u8 1), .lit (.int .u8 56), .lit (.int .u8 2), .lit (.int .u8 57), .lit (.int .u8 49), .lit (.int .u8 28), .lit (.int .u8 3), .lit (.int .u8 61), .lit (.int .u8 58), .lit (.int .u8 42), .lit (.int .u8 50), .lit (.int .u8 38), .lit (.int .u8 29), .lit (.int .u8 17), .lit (.int .u8 4), .lit (.int .u8 62), .lit (.int .u8 47), .lit (.int .u8 59), .lit (.int .u8 36), .lit (.int .u8 45), .lit (.int .u8 43), .lit (.int .u8 51), .lit (.int .u8 22), .lit (.int .u8 53), .lit (.int .u8 39), .lit (.int .u8 33), .lit (.int .u8 30), .lit (.int .u8 24), .lit (.int .u8 18), .lit (.int .u8 12), .lit (.int .u8 5), .lit (.int .u8 63), .lit (.int .u8 55), .lit (.int .u8 48), .lit (.int .u8 27), .lit (.int .u8 60), .lit (.int .u8 41), .lit (.int .u8 37), .lit (.int .u8 16), .lit (.int .u8 46), .lit (.int .u8 35), .lit (.int .u8 44), .lit (.int .u8 21), .lit (.int .u8 52), .lit (.int .u8 32), .lit (.int .u8 23), .lit (.int .u8 11), .lit (.int .u8 54), .lit (.int .u8 26), .lit (.int .u8 40), .lit (.int .u8 15), .lit (.int .u8 34), .lit (.int .u8 20), .lit (.int .u8 31), .lit (.int .u8 10), .lit (.int .u8 25), .lit (.int .u8 14), .lit (.int .u8 19), .lit (.int .u8 9), .lit (.int .u8 13), .lit (.int .u8 8), .lit (.int .u8 7), .lit (.int .u8 6)]
def laid_internal_strconv_uint64pow10 {H : Type} : DataW H := .agg [.lit (.int .u64 1), .lit (.int .u64 10), .lit (.int .u64 100), .lit (.int .u64 1000), .lit (.int .u64 10000), .lit (.int .u64 100000), .lit (.int .u64 1000000), .lit (.int .u64 10000000), .lit (.int .u64 100000000), .lit (.int .u64 1000000000), .lit (.int .u64 10000000000), .lit (.int .u64 100000000000), .lit (.int .u64 1000000000000), .lit (.int .u64 10000000000000), .lit (.int .u64 100000000000000), .lit (.int .u64 1000000000000000), .lit (.int .u64 10000000000000000), .lit (.int .u64 100000000000000000), .lit (.int .u64 1000000000000000000), .lit (.int .u64 10000000000000000000)]
def laid_bytes_ErrTooLarge {H : Type} : DataW H := .iface "*errors.errorString" (.ptr (.agg [.lit (.string [98, 121, 116, 101, 115, 46, 66, 117, 102, 102, 101, 114, 58, 32, 116, 111, 111, 32, 108, 97, 114, 103, 101])]))
def laid_given_example_pub_notarial_pub_squirrel_Question {H : Type} : DataW H := .agg []
def laid_given_example_pub_notarial_pub_squirrel_Dollar {H : Type} : DataW H := .agg []
def laid_given_example_pub_notarial_pub_squirrel_Colon {H : Type} : DataW H := .agg []
def laid_given_example_pub_notarial_pub_squirrel_AtP {H : Type} : DataW H := .agg []

/-- 'laws.FnRebindStay': WHATEVER THE INPUT: true; the input reads as it did. -/
def fnRebindStaySpec : ChangeSpec := { name := "fnRebindStay", fn := fun _ => fun
  | [d] => { results := [.lit (.bool true)], args := [d] }
  | _ => none }
def fnRebindStayRow : OpenClaim := { program := "ytklnlfmopmlmlaadoor", sum := "aaac048593f78c7738241e8d24480565334da4d5101ed6493be7fe53f914eb46", func := "given.example/pub-notarial/laws.FnRebindStay", spec := "fnRebindStay", unfollowed := true, recurses := true, named := ["internal/strconv.uint64pow10", "math/bits.deBruijn32tab", "math/bits.deBruijn64tab"], apart := false, laid := [("math/bits.deBruijn32tab", laid_math_bits_deBruijn32tab), ("math/bits.deBruijn64tab", laid_math_bits_deBruijn64tab), ("internal/strconv.uint64pow10", laid_internal_strconv_uint64pow10)] }
def FnRebindStaySaid : Prop := fnRebindStayRow.holds Tryd.pinned (OpenSpec.ofChange fnRebindStaySpec)

/-- ITS FALSE NEIGHBOUR: 'it returns false'. Refute it at one input. -/
def fnRebindStayWrong : ChangeSpec := { name := "fnRebindStay", fn := fun _ => fun
  | [d] => { results := [.lit (.bool false)], args := [d] }
  | _ => none }
def FnRebindStayWrongFalsely : Prop := fnRebindStayRow.holds Tryd.pinned (OpenSpec.ofChange fnRebindStayWrong)

/-- 'laws.FnFormPrefix': WHATEVER THE INPUT: true; the input reads as it did. -/
def fnFormPrefixSpec : ChangeSpec := { name := "fnFormPrefix", fn := fun _ => fun
  | [d1, d2] => { results := [.lit (.bool true)], args := [d1, d2] }
  | _ => none }
def fnFormPrefixRow : OpenClaim := { program := "ytklnlfmopmlmlaadoor", sum := "aaac048593f78c7738241e8d24480565334da4d5101ed6493be7fe53f914eb46", func := "given.example/pub-notarial/laws.FnFormPrefix", spec := "fnFormPrefix", unfollowed := true, recurses := true, named := ["bytes.ErrTooLarge", "internal/strconv.uint64pow10", "math/bits.deBruijn32tab", "math/bits.deBruijn64tab"], apart := false, laid := [("math/bits.deBruijn32tab", laid_math_bits_deBruijn32tab), ("math/bits.deBruijn64tab", laid_math_bits_deBruijn64tab), ("internal/strconv.uint64pow10", laid_internal_strconv_uint64pow10), ("bytes.ErrTooLarge", laid_bytes_ErrTooLarge)] }
def FnFormPrefixSaid : Prop := fnFormPrefixRow.holds Tryd.pinned (OpenSpec.ofChange fnFormPrefixSpec)

/-- ITS FALSE NEIGHBOUR: 'it returns false'. Refute it at one input. -/
def fnFormPrefixWrong : ChangeSpec := { name := "fnFormPrefix", fn := fun _ => fun
  | [d1, d2] => { results := [.lit (.bool false)], args := [d1, d2] }
  | _ => none }
def FnFormPrefixWrongFalsely : Prop := fnFormPrefixRow.holds Tryd.pinned (OpenSpec.ofChange fnFormPrefixWrong)

/-- 'laws.FnFormOther': WHATEVER THE INPUT: true; the input reads as it did. -/
def fnFormOtherSpec : ChangeSpec := { name := "fnFormOther", vars := ["given.example/pub-notarial/pub/squirrel.Question", "given.example/pub-notarial/pub/squirrel.Dollar", "given.example/pub-notarial/pub/squirrel.Colon", "given.example/pub-notarial/pub/squirrel.AtP"], fn := fun _ => fun
  | [d1, d2, d3, g1, g2, g3, g4] => { results := [.lit (.bool true)], args := [d1, d2, d3], vars := [g1, g2, g3, g4] }
  | _ => none }
def fnFormOtherRow : OpenClaim := { program := "ytklnlfmopmlmlaadoor", sum := "aaac048593f78c7738241e8d24480565334da4d5101ed6493be7fe53f914eb46", func := "given.example/pub-notarial/laws.FnFormOther", spec := "fnFormOther", unfollowed := true, recurses := true, named := ["given.example/pub-notarial/pub/squirrel.Question", "given.example/pub-notarial/pub/squirrel.Dollar", "given.example/pub-notarial/pub/squirrel.Colon", "given.example/pub-notarial/pub/squirrel.AtP"], apart := false, laid := [("given.example/pub-notarial/pub/squirrel.Question", laid_given_example_pub_notarial_pub_squirrel_Question), ("given.example/pub-notarial/pub/squirrel.Dollar", laid_given_example_pub_notarial_pub_squirrel_Dollar), ("given.example/pub-notarial/pub/squirrel.Colon", laid_given_example_pub_notarial_pub_squirrel_Colon), ("given.example/pub-notarial/pub/squirrel.AtP", laid_given_example_pub_notarial_pub_squirrel_AtP)] }
def FnFormOtherSaid : Prop := fnFormOtherRow.holds Tryd.pinned (OpenSpec.ofChange fnFormOtherSpec)

/-- ITS FALSE NEIGHBOUR: 'it returns false'. Refute it at one input. -/
def fnFormOtherWrong : ChangeSpec := { name := "fnFormOther", vars := ["given.example/pub-notarial/pub/squirrel.Question", "given.example/pub-notarial/pub/squirrel.Dollar", "given.example/pub-notarial/pub/squirrel.Colon", "given.example/pub-notarial/pub/squirrel.AtP"], fn := fun _ => fun
  | [d1, d2, d3, g1, g2, g3, g4] => { results := [.lit (.bool false)], args := [d1, d2, d3], vars := [g1, g2, g3, g4] }
  | _ => none }
def FnFormOtherWrongFalsely : Prop := fnFormOtherRow.holds Tryd.pinned (OpenSpec.ofChange fnFormOtherWrong)

/-- 'laws.FnFormRow': WHATEVER THE INPUT: true; the input reads as it did. -/
def fnFormRowSpec : ChangeSpec := { name := "fnFormRow", vars := ["given.example/pub-notarial/pub/squirrel.Question", "given.example/pub-notarial/pub/squirrel.Dollar", "given.example/pub-notarial/pub/squirrel.Colon", "given.example/pub-notarial/pub/squirrel.AtP"], fn := fun _ => fun
  | [d1, d2, d3, d4, g1, g2, g3, g4] => { results := [.lit (.bool true)], args := [d1, d2, d3, d4], vars := [g1, g2, g3, g4] }
  | _ => none }
def fnFormRowRow : OpenClaim := { program := "ytklnlfmopmlmlaadoor", sum := "aaac048593f78c7738241e8d24480565334da4d5101ed6493be7fe53f914eb46", func := "given.example/pub-notarial/laws.FnFormRow", spec := "fnFormRow", unfollowed := true, recurses := true, named := ["given.example/pub-notarial/pub/squirrel.Question", "given.example/pub-notarial/pub/squirrel.Dollar", "given.example/pub-notarial/pub/squirrel.Colon", "given.example/pub-notarial/pub/squirrel.AtP"], apart := false, laid := [("given.example/pub-notarial/pub/squirrel.Question", laid_given_example_pub_notarial_pub_squirrel_Question), ("given.example/pub-notarial/pub/squirrel.Dollar", laid_given_example_pub_notarial_pub_squirrel_Dollar), ("given.example/pub-notarial/pub/squirrel.Colon", laid_given_example_pub_notarial_pub_squirrel_Colon), ("given.example/pub-notarial/pub/squirrel.AtP", laid_given_example_pub_notarial_pub_squirrel_AtP)] }
def FnFormRowSaid : Prop := fnFormRowRow.holds Tryd.pinned (OpenSpec.ofChange fnFormRowSpec)

/-- ITS FALSE NEIGHBOUR: 'it returns false'. Refute it at one input. -/
def fnFormRowWrong : ChangeSpec := { name := "fnFormRow", vars := ["given.example/pub-notarial/pub/squirrel.Question", "given.example/pub-notarial/pub/squirrel.Dollar", "given.example/pub-notarial/pub/squirrel.Colon", "given.example/pub-notarial/pub/squirrel.AtP"], fn := fun _ => fun
  | [d1, d2, d3, d4, g1, g2, g3, g4] => { results := [.lit (.bool false)], args := [d1, d2, d3, d4], vars := [g1, g2, g3, g4] }
  | _ => none }
def FnFormRowWrongFalsely : Prop := fnFormRowRow.holds Tryd.pinned (OpenSpec.ofChange fnFormRowWrong)

/-- 'laws.FnRebuffEach': WHATEVER THE INPUT: true; the input reads as it did. -/
def fnRebuffEachSpec : ChangeSpec := { name := "fnRebuffEach", fn := fun _ => fun
  | [d] => { results := [.lit (.bool true)], args := [d] }
  | _ => none }
def fnRebuffEachRow : OpenClaim := { program := "ytklnlfmopmlmlaadoor", sum := "aaac048593f78c7738241e8d24480565334da4d5101ed6493be7fe53f914eb46", func := "given.example/pub-notarial/laws.FnRebuffEach", spec := "fnRebuffEach", unfollowed := true, recurses := true, named := ["bytes.ErrTooLarge", "internal/strconv.uint64pow10", "math/bits.deBruijn32tab", "math/bits.deBruijn64tab"], apart := false, laid := [("math/bits.deBruijn32tab", laid_math_bits_deBruijn32tab), ("math/bits.deBruijn64tab", laid_math_bits_deBruijn64tab), ("internal/strconv.uint64pow10", laid_internal_strconv_uint64pow10), ("bytes.ErrTooLarge", laid_bytes_ErrTooLarge)] }
def FnRebuffEachSaid : Prop := fnRebuffEachRow.holds Tryd.pinned (OpenSpec.ofChange fnRebuffEachSpec)

/-- ITS FALSE NEIGHBOUR: 'it returns false'. Refute it at one input. -/
def fnRebuffEachWrong : ChangeSpec := { name := "fnRebuffEach", fn := fun _ => fun
  | [d] => { results := [.lit (.bool false)], args := [d] }
  | _ => none }
def FnRebuffEachWrongFalsely : Prop := fnRebuffEachRow.holds Tryd.pinned (OpenSpec.ofChange fnRebuffEachWrong)

/-- 'laws.FnPlaceholdersForm': WHATEVER THE INPUT: true; the input reads as it did. -/
def fnPlaceholdersFormSpec : ChangeSpec := { name := "fnPlaceholdersForm", vars := ["given.example/pub-notarial/pub/squirrel.Question", "given.example/pub-notarial/pub/squirrel.Dollar", "given.example/pub-notarial/pub/squirrel.Colon", "given.example/pub-notarial/pub/squirrel.AtP"], fn := fun _ => fun
  | [d1, d2, g1, g2, g3, g4] => { results := [.lit (.bool true)], args := [d1, d2], vars := [g1, g2, g3, g4] }
  | _ => none }
def fnPlaceholdersFormRow : OpenClaim := { program := "ytklnlfmopmlmlaadoor", sum := "aaac048593f78c7738241e8d24480565334da4d5101ed6493be7fe53f914eb46", func := "given.example/pub-notarial/laws.FnPlaceholdersForm", spec := "fnPlaceholdersForm", inPlace := ["internal/abi.NoEscape", "internal/bytealg.MakeNoZero"], unfollowed := true, recurses := true, named := ["given.example/pub-notarial/pub/squirrel.Question", "given.example/pub-notarial/pub/squirrel.Dollar", "given.example/pub-notarial/pub/squirrel.Colon", "given.example/pub-notarial/pub/squirrel.AtP"], apart := false, laid := [("given.example/pub-notarial/pub/squirrel.Question", laid_given_example_pub_notarial_pub_squirrel_Question), ("given.example/pub-notarial/pub/squirrel.Dollar", laid_given_example_pub_notarial_pub_squirrel_Dollar), ("given.example/pub-notarial/pub/squirrel.Colon", laid_given_example_pub_notarial_pub_squirrel_Colon), ("given.example/pub-notarial/pub/squirrel.AtP", laid_given_example_pub_notarial_pub_squirrel_AtP)] }
def FnPlaceholdersFormSaid : Prop := fnPlaceholdersFormRow.holds Tryd.pinned (OpenSpec.ofChange fnPlaceholdersFormSpec)

/-- ITS FALSE NEIGHBOUR: 'it returns false'. Refute it at one input. -/
def fnPlaceholdersFormWrong : ChangeSpec := { name := "fnPlaceholdersForm", vars := ["given.example/pub-notarial/pub/squirrel.Question", "given.example/pub-notarial/pub/squirrel.Dollar", "given.example/pub-notarial/pub/squirrel.Colon", "given.example/pub-notarial/pub/squirrel.AtP"], fn := fun _ => fun
  | [d1, d2, g1, g2, g3, g4] => { results := [.lit (.bool false)], args := [d1, d2], vars := [g1, g2, g3, g4] }
  | _ => none }
def FnPlaceholdersFormWrongFalsely : Prop := fnPlaceholdersFormRow.holds Tryd.pinned (OpenSpec.ofChange fnPlaceholdersFormWrong)

/-- 'laws.FnDebugParts': WHATEVER THE INPUT: true; the input reads as it did. -/
def fnDebugPartsSpec : ChangeSpec := { name := "fnDebugParts", fn := fun _ => fun
  | [d1, d2, d3, d4] => { results := [.lit (.bool true)], args := [d1, d2, d3, d4] }
  | _ => none }
def fnDebugPartsRow : OpenClaim := { program := "ytklnlfmopmlmlaadoor", sum := "aaac048593f78c7738241e8d24480565334da4d5101ed6493be7fe53f914eb46", func := "given.example/pub-notarial/laws.FnDebugParts", spec := "fnDebugParts", unfollowed := true, recurses := true, named := ["bytes.ErrTooLarge", "internal/strconv.uint64pow10", "math/bits.deBruijn32tab", "math/bits.deBruijn64tab"], loops := true, apart := false, laid := [("math/bits.deBruijn32tab", laid_math_bits_deBruijn32tab), ("math/bits.deBruijn64tab", laid_math_bits_deBruijn64tab), ("internal/strconv.uint64pow10", laid_internal_strconv_uint64pow10), ("bytes.ErrTooLarge", laid_bytes_ErrTooLarge)] }
def FnDebugPartsSaid : Prop := fnDebugPartsRow.holds Tryd.pinned (OpenSpec.ofChange fnDebugPartsSpec)

/-- ITS FALSE NEIGHBOUR: 'it returns false'. Refute it at one input. -/
def fnDebugPartsWrong : ChangeSpec := { name := "fnDebugParts", fn := fun _ => fun
  | [d1, d2, d3, d4] => { results := [.lit (.bool false)], args := [d1, d2, d3, d4] }
  | _ => none }
def FnDebugPartsWrongFalsely : Prop := fnDebugPartsRow.holds Tryd.pinned (OpenSpec.ofChange fnDebugPartsWrong)

/- THE SECOND FORM. 'bulk': how many values and letters a reading holds, each counted each time it is reached (what is shared counts as often as it is met; a slice's spare places count too). A statement '..UptoSaid' is the law's where the arguments, and the package variables that the reading takes, are together of bulk at most 1048576: NARROWER than '..Said'. Prove '..Said' where nothing that the law and all that it calls make is longer than what came in: it says more and counts as full. Else prove '..UptoSaid'. A law counts once. -/
mutual
def uptoBulk {H : Type} : DataW H → Nat
  | .lit (.string bytes) => bytes.length + 1
  | .lit _ => 1
  | .nil => 1
  | .ptr d => uptoBulk d + 1
  | .slice elems spare => uptoBulkAll elems + uptoBulkAll spare + 1
  | .agg parts => uptoBulkAll parts + 1
  | .iface _ d => uptoBulk d + 1
  | .map entries => uptoBulkEntries entries + 1
  | .held _ => 1
def uptoBulkAll {H : Type} : List (DataW H) → Nat
  | [] => 0
  | d :: r => uptoBulk d + uptoBulkAll r
def uptoBulkEntries {H : Type} : List (Lit × DataW H) → Nat
  | [] => 0
  | x :: r => uptoBulkEntry x + uptoBulkEntries r
def uptoBulkEntry {H : Type} : Lit × DataW H → Nat
  | (.string bytes, d) => bytes.length + uptoBulk d + 1
  | (_, d) => uptoBulk d + 1
 end
def uptoSmall : (H : Type) → List (DataW H) → Bool := fun _ ds => decide (uptoBulkAll ds ≤ 1048576)
def OpenSpec.upto (s : _root_.Go.ChangeSpec) : _root_.Go.OpenSpec := { _root_.Go.OpenSpec.ofChange s with cond := some uptoSmall }

/-- 'laws.FnRebindStay', WHERE WHAT IT READS IS OF BULK AT MOST 1048576: true; the input reads as it did. -/
def fnRebindStayUptoRow : OpenClaim := { program := "ytklnlfmopmlmlaadoor", sum := "aaac048593f78c7738241e8d24480565334da4d5101ed6493be7fe53f914eb46", func := "given.example/pub-notarial/laws.FnRebindStay", spec := "fnRebindStay", unfollowed := true, recurses := true, named := ["internal/strconv.uint64pow10", "math/bits.deBruijn32tab", "math/bits.deBruijn64tab"], apart := false, laid := [("math/bits.deBruijn32tab", laid_math_bits_deBruijn32tab), ("math/bits.deBruijn64tab", laid_math_bits_deBruijn64tab), ("internal/strconv.uint64pow10", laid_internal_strconv_uint64pow10)], narrowed := true }
def FnRebindStayUptoSaid : Prop := fnRebindStayUptoRow.holds Tryd.pinned (OpenSpec.upto fnRebindStaySpec)

/-- 'laws.FnFormPrefix', WHERE WHAT IT READS IS OF BULK AT MOST 1048576: true; the input reads as it did. -/
def fnFormPrefixUptoRow : OpenClaim := { program := "ytklnlfmopmlmlaadoor", sum := "aaac048593f78c7738241e8d24480565334da4d5101ed6493be7fe53f914eb46", func := "given.example/pub-notarial/laws.FnFormPrefix", spec := "fnFormPrefix", unfollowed := true, recurses := true, named := ["bytes.ErrTooLarge", "internal/strconv.uint64pow10", "math/bits.deBruijn32tab", "math/bits.deBruijn64tab"], apart := false, laid := [("math/bits.deBruijn32tab", laid_math_bits_deBruijn32tab), ("math/bits.deBruijn64tab", laid_math_bits_deBruijn64tab), ("internal/strconv.uint64pow10", laid_internal_strconv_uint64pow10), ("bytes.ErrTooLarge", laid_bytes_ErrTooLarge)], narrowed := true }
def FnFormPrefixUptoSaid : Prop := fnFormPrefixUptoRow.holds Tryd.pinned (OpenSpec.upto fnFormPrefixSpec)

/-- 'laws.FnFormOther', WHERE WHAT IT READS IS OF BULK AT MOST 1048576: true; the input reads as it did. -/
def fnFormOtherUptoRow : OpenClaim := { program := "ytklnlfmopmlmlaadoor", sum := "aaac048593f78c7738241e8d24480565334da4d5101ed6493be7fe53f914eb46", func := "given.example/pub-notarial/laws.FnFormOther", spec := "fnFormOther", unfollowed := true, recurses := true, named := ["given.example/pub-notarial/pub/squirrel.Question", "given.example/pub-notarial/pub/squirrel.Dollar", "given.example/pub-notarial/pub/squirrel.Colon", "given.example/pub-notarial/pub/squirrel.AtP"], apart := false, laid := [("given.example/pub-notarial/pub/squirrel.Question", laid_given_example_pub_notarial_pub_squirrel_Question), ("given.example/pub-notarial/pub/squirrel.Dollar", laid_given_example_pub_notarial_pub_squirrel_Dollar), ("given.example/pub-notarial/pub/squirrel.Colon", laid_given_example_pub_notarial_pub_squirrel_Colon), ("given.example/pub-notarial/pub/squirrel.AtP", laid_given_example_pub_notarial_pub_squirrel_AtP)], narrowed := true }
def FnFormOtherUptoSaid : Prop := fnFormOtherUptoRow.holds Tryd.pinned (OpenSpec.upto fnFormOtherSpec)

/-- 'laws.FnFormRow', WHERE WHAT IT READS IS OF BULK AT MOST 1048576: true; the input reads as it did. -/
def fnFormRowUptoRow : OpenClaim := { program := "ytklnlfmopmlmlaadoor", sum := "aaac048593f78c7738241e8d24480565334da4d5101ed6493be7fe53f914eb46", func := "given.example/pub-notarial/laws.FnFormRow", spec := "fnFormRow", unfollowed := true, recurses := true, named := ["given.example/pub-notarial/pub/squirrel.Question", "given.example/pub-notarial/pub/squirrel.Dollar", "given.example/pub-notarial/pub/squirrel.Colon", "given.example/pub-notarial/pub/squirrel.AtP"], apart := false, laid := [("given.example/pub-notarial/pub/squirrel.Question", laid_given_example_pub_notarial_pub_squirrel_Question), ("given.example/pub-notarial/pub/squirrel.Dollar", laid_given_example_pub_notarial_pub_squirrel_Dollar), ("given.example/pub-notarial/pub/squirrel.Colon", laid_given_example_pub_notarial_pub_squirrel_Colon), ("given.example/pub-notarial/pub/squirrel.AtP", laid_given_example_pub_notarial_pub_squirrel_AtP)], narrowed := true }
def FnFormRowUptoSaid : Prop := fnFormRowUptoRow.holds Tryd.pinned (OpenSpec.upto fnFormRowSpec)

/-- 'laws.FnRebuffEach', WHERE WHAT IT READS IS OF BULK AT MOST 1048576: true; the input reads as it did. -/
def fnRebuffEachUptoRow : OpenClaim := { program := "ytklnlfmopmlmlaadoor", sum := "aaac048593f78c7738241e8d24480565334da4d5101ed6493be7fe53f914eb46", func := "given.example/pub-notarial/laws.FnRebuffEach", spec := "fnRebuffEach", unfollowed := true, recurses := true, named := ["bytes.ErrTooLarge", "internal/strconv.uint64pow10", "math/bits.deBruijn32tab", "math/bits.deBruijn64tab"], apart := false, laid := [("math/bits.deBruijn32tab", laid_math_bits_deBruijn32tab), ("math/bits.deBruijn64tab", laid_math_bits_deBruijn64tab), ("internal/strconv.uint64pow10", laid_internal_strconv_uint64pow10), ("bytes.ErrTooLarge", laid_bytes_ErrTooLarge)], narrowed := true }
def FnRebuffEachUptoSaid : Prop := fnRebuffEachUptoRow.holds Tryd.pinned (OpenSpec.upto fnRebuffEachSpec)

/-- 'laws.FnPlaceholdersForm', WHERE WHAT IT READS IS OF BULK AT MOST 1048576: true; the input reads as it did. -/
def fnPlaceholdersFormUptoRow : OpenClaim := { program := "ytklnlfmopmlmlaadoor", sum := "aaac048593f78c7738241e8d24480565334da4d5101ed6493be7fe53f914eb46", func := "given.example/pub-notarial/laws.FnPlaceholdersForm", spec := "fnPlaceholdersForm", inPlace := ["internal/abi.NoEscape", "internal/bytealg.MakeNoZero"], unfollowed := true, recurses := true, named := ["given.example/pub-notarial/pub/squirrel.Question", "given.example/pub-notarial/pub/squirrel.Dollar", "given.example/pub-notarial/pub/squirrel.Colon", "given.example/pub-notarial/pub/squirrel.AtP"], apart := false, laid := [("given.example/pub-notarial/pub/squirrel.Question", laid_given_example_pub_notarial_pub_squirrel_Question), ("given.example/pub-notarial/pub/squirrel.Dollar", laid_given_example_pub_notarial_pub_squirrel_Dollar), ("given.example/pub-notarial/pub/squirrel.Colon", laid_given_example_pub_notarial_pub_squirrel_Colon), ("given.example/pub-notarial/pub/squirrel.AtP", laid_given_example_pub_notarial_pub_squirrel_AtP)], narrowed := true }
def FnPlaceholdersFormUptoSaid : Prop := fnPlaceholdersFormUptoRow.holds Tryd.pinned (OpenSpec.upto fnPlaceholdersFormSpec)

/-- 'laws.FnDebugParts', WHERE WHAT IT READS IS OF BULK AT MOST 1048576: true; the input reads as it did. -/
def fnDebugPartsUptoRow : OpenClaim := { program := "ytklnlfmopmlmlaadoor", sum := "aaac048593f78c7738241e8d24480565334da4d5101ed6493be7fe53f914eb46", func := "given.example/pub-notarial/laws.FnDebugParts", spec := "fnDebugParts", unfollowed := true, recurses := true, named := ["bytes.ErrTooLarge", "internal/strconv.uint64pow10", "math/bits.deBruijn32tab", "math/bits.deBruijn64tab"], loops := true, apart := false, laid := [("math/bits.deBruijn32tab", laid_math_bits_deBruijn32tab), ("math/bits.deBruijn64tab", laid_math_bits_deBruijn64tab), ("internal/strconv.uint64pow10", laid_internal_strconv_uint64pow10), ("bytes.ErrTooLarge", laid_bytes_ErrTooLarge)], narrowed := true }
def FnDebugPartsUptoSaid : Prop := fnDebugPartsUptoRow.holds Tryd.pinned (OpenSpec.upto fnDebugPartsSpec)

end Rows
end Go.Proofs.YtklnlfmopmlmlaaDoor
