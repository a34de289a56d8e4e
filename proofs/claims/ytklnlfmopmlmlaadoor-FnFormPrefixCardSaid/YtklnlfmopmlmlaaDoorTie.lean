/-
  DERIVED. GIVEN WITH THE SEED: THE PROGRAM's TIES (one call each: nine closed facts by the kernel) AND EACH ROW's TIE, after the 31st guide's Derived/Test/Toyas{Tie, Card}.lean. No idea stands in it: it is a product of the set-up. Laid BY PROGRAM, IN A SANDBOX (cutbox-door.mjs). By AI agents, Wed Nov 11 2026. No macro, syntax, notation, axiom, sorry.
-/
import Derived.Test.YtklnlfmopmlmlaaDoorRows
import Derived.LaidByTextLater
import Derived.SevenTiedAt
import Derived.LaidSub
import Derived.LaidOnce
namespace Go.Proofs.YtklnlfmopmlmlaaDoor
open Go
set_option maxRecDepth 100000
theorem seatTie1 : Tryd.prog.laidByTextLater [("math/bits.deBruijn32tab", Rows.laid_math_bits_deBruijn32tab), ("math/bits.deBruijn64tab", Rows.laid_math_bits_deBruijn64tab), ("internal/strconv.uint64pow10", Rows.laid_internal_strconv_uint64pow10), ("bytes.ErrTooLarge", Rows.laid_bytes_ErrTooLarge), ("given.example/pub-notarial/pub/squirrel.Question", Rows.laid_given_example_pub_notarial_pub_squirrel_Question), ("given.example/pub-notarial/pub/squirrel.Dollar", Rows.laid_given_example_pub_notarial_pub_squirrel_Dollar), ("given.example/pub-notarial/pub/squirrel.Colon", Rows.laid_given_example_pub_notarial_pub_squirrel_Colon), ("given.example/pub-notarial/pub/squirrel.AtP", Rows.laid_given_example_pub_notarial_pub_squirrel_AtP)] [.data, .data, .data, .sentinel, .data, .data, .data, .data] true :=
  Program.laidByTextLater_by_one 63 8 65 (by kernel_rfl) (by kernel_rfl) (by kernel_rfl) (by kernel_rfl) (by kernel_rfl) (by kernel_rfl) (fun _ _ => by kernel_rfl)
theorem noOwnUnsafe : Tryd.pinned.checked.prog.headLifts.contains "ownunsafe" = false := by kernel_rfl
theorem tie : Tryd.prog.laidByTextLater [("math/bits.deBruijn32tab", Rows.laid_math_bits_deBruijn32tab), ("math/bits.deBruijn64tab", Rows.laid_math_bits_deBruijn64tab), ("internal/strconv.uint64pow10", Rows.laid_internal_strconv_uint64pow10)] [.data, .data, .data] true :=
  Program.laidByTextLater.sub seatTie1 ["math/bits.deBruijn32tab", "math/bits.deBruijn64tab", "internal/strconv.uint64pow10"] (by kernel_rfl) (by kernel_rfl)
theorem fnRebindStay_row_tie : Rows.fnRebindStayRow.laidByTextAt .later Tryd.pinned [.data, .data, .data] true :=
  OpenClaim.laidByTextAt_later rfl rfl tie noOwnUnsafe
theorem tie2 : Tryd.prog.laidByTextLater [("math/bits.deBruijn32tab", Rows.laid_math_bits_deBruijn32tab), ("math/bits.deBruijn64tab", Rows.laid_math_bits_deBruijn64tab), ("internal/strconv.uint64pow10", Rows.laid_internal_strconv_uint64pow10), ("bytes.ErrTooLarge", Rows.laid_bytes_ErrTooLarge)] [.data, .data, .data, .sentinel] true :=
  Program.laidByTextLater.sub seatTie1 ["math/bits.deBruijn32tab", "math/bits.deBruijn64tab", "internal/strconv.uint64pow10", "bytes.ErrTooLarge"] (by kernel_rfl) (by kernel_rfl)
theorem fnFormPrefix_row_tie : Rows.fnFormPrefixRow.laidByTextAt .later Tryd.pinned [.data, .data, .data, .sentinel] true :=
  OpenClaim.laidByTextAt_later rfl rfl tie2 noOwnUnsafe
theorem fnRebuffEach_row_tie : Rows.fnRebuffEachRow.laidByTextAt .later Tryd.pinned [.data, .data, .data, .sentinel] true :=
  OpenClaim.laidByTextAt_later rfl rfl tie2 noOwnUnsafe
theorem fnDebugParts_row_tie : Rows.fnDebugPartsRow.laidByTextAt .later Tryd.pinned [.data, .data, .data, .sentinel] true :=
  OpenClaim.laidByTextAt_later rfl rfl tie2 noOwnUnsafe
theorem tie3 : Tryd.prog.laidByTextLater [("given.example/pub-notarial/pub/squirrel.Question", Rows.laid_given_example_pub_notarial_pub_squirrel_Question), ("given.example/pub-notarial/pub/squirrel.Dollar", Rows.laid_given_example_pub_notarial_pub_squirrel_Dollar), ("given.example/pub-notarial/pub/squirrel.Colon", Rows.laid_given_example_pub_notarial_pub_squirrel_Colon), ("given.example/pub-notarial/pub/squirrel.AtP", Rows.laid_given_example_pub_notarial_pub_squirrel_AtP)] [.data, .data, .data, .data] true :=
  Program.laidByTextLater.sub seatTie1 ["given.example/pub-notarial/pub/squirrel.Question", "given.example/pub-notarial/pub/squirrel.Dollar", "given.example/pub-notarial/pub/squirrel.Colon", "given.example/pub-notarial/pub/squirrel.AtP"] (by kernel_rfl) (by kernel_rfl)
theorem fnFormOther_row_tie : Rows.fnFormOtherRow.laidByTextAt .later Tryd.pinned [.data, .data, .data, .data] true :=
  OpenClaim.laidByTextAt_later rfl rfl tie3 noOwnUnsafe
theorem fnFormRow_row_tie : Rows.fnFormRowRow.laidByTextAt .later Tryd.pinned [.data, .data, .data, .data] true :=
  OpenClaim.laidByTextAt_later rfl rfl tie3 noOwnUnsafe
theorem fnPlaceholdersForm_row_tie : Rows.fnPlaceholdersFormRow.laidByTextAt .later Tryd.pinned [.data, .data, .data, .data] true :=
  OpenClaim.laidByTextAt_later rfl rfl tie3 noOwnUnsafe
theorem fnRebindStayUpto_row_tie : Rows.fnRebindStayUptoRow.laidByTextAt .later Tryd.pinned [.data, .data, .data] true :=
  OpenClaim.laidByTextAt_later rfl rfl tie noOwnUnsafe
theorem fnFormPrefixUpto_row_tie : Rows.fnFormPrefixUptoRow.laidByTextAt .later Tryd.pinned [.data, .data, .data, .sentinel] true :=
  OpenClaim.laidByTextAt_later rfl rfl tie2 noOwnUnsafe
theorem fnFormOtherUpto_row_tie : Rows.fnFormOtherUptoRow.laidByTextAt .later Tryd.pinned [.data, .data, .data, .data] true :=
  OpenClaim.laidByTextAt_later rfl rfl tie3 noOwnUnsafe
theorem fnFormRowUpto_row_tie : Rows.fnFormRowUptoRow.laidByTextAt .later Tryd.pinned [.data, .data, .data, .data] true :=
  OpenClaim.laidByTextAt_later rfl rfl tie3 noOwnUnsafe
theorem fnRebuffEachUpto_row_tie : Rows.fnRebuffEachUptoRow.laidByTextAt .later Tryd.pinned [.data, .data, .data, .sentinel] true :=
  OpenClaim.laidByTextAt_later rfl rfl tie2 noOwnUnsafe
theorem fnPlaceholdersFormUpto_row_tie : Rows.fnPlaceholdersFormUptoRow.laidByTextAt .later Tryd.pinned [.data, .data, .data, .data] true :=
  OpenClaim.laidByTextAt_later rfl rfl tie3 noOwnUnsafe
theorem fnDebugPartsUpto_row_tie : Rows.fnDebugPartsUptoRow.laidByTextAt .later Tryd.pinned [.data, .data, .data, .sentinel] true :=
  OpenClaim.laidByTextAt_later rfl rfl tie2 noOwnUnsafe
end Go.Proofs.YtklnlfmopmlmlaaDoor
