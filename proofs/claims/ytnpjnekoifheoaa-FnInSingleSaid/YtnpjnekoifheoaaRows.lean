/-
  NARROWER THAN 'FOR EVERY INPUT', by the rows' own cells (each row's printed sentence says how): FnBoundOrder: loops · FnInBeside: loops · FnInSingle: loops.
  DERIVED. THE GIVEN ROWS OF THIS SEAT. 3 by the template 'for every input the law returns true; each argument reads behind the call as it read before'; 0 by the template 'total and deterministic' (their statements: YtnpjnekoifheoaaTotals.lean).
  GIVEN WITH THE SEED: the statements are not yours to turn. If you find one false, say at which input.
  Laid BY PROGRAM, IN A SANDBOX (cutbox-rows.mjs): the forced cells as the released guide's own fill.sh prints them over the translation 4ec4f127467bd199… (all of the seat's roots in one cut). By AI agents, Wed Nov 11 2026. No macro, syntax, notation, axiom, sorry.
-/
import Derived.Test.YtnpjnekoifheoaaChecked
import GoSem.Claim
import GoSem.ClaimJoined
import GoSem.ClaimMapViews
import Derived.JoinedTies
import Derived.KernelRfl
namespace Go.Proofs.Ytnpjnekoifheoaa
/- THE CELL 'sum', in the pinned program and in every row, IS THE sha256 OF THE DUMP (.gsa) THAT YtnpjnekoifheoaaProg.lean LOADS. Nothing in Lean hashes anything: it is a label: what it is worth is what the hold of that sum in a sandbox is worth. -/
noncomputable def Try.pinned : Pinned := { name := "ytnpjnekoifheoaa", sum := "4ec4f127467bd1999ca1ec3e3411aa1be45cd86c2b833f75aff9aba2172ecd1a", checked := Try.checked }
namespace Rows
def none {H : Type} : Left H := { results := [], args := [] }

/-- 'laws.FnBoundOrder': WHATEVER THE INPUT: true; the input reads as it did. -/
def fnBoundOrderSpec : ChangeSpec := { name := "fnBoundOrder", fn := fun _ => fun
  | [d1, d2, d3] => { results := [.lit (.bool true)], args := [d1, d2, d3] }
  | _ => none }
def fnBoundOrderRow : OpenClaim := { program := "ytnpjnekoifheoaa", sum := "4ec4f127467bd1999ca1ec3e3411aa1be45cd86c2b833f75aff9aba2172ecd1a", func := "given.example/pub-notarial/laws.FnBoundOrder", spec := "fnBoundOrder", recurses := true, loops := true, apart := false }
def FnBoundOrderSaid : Prop := fnBoundOrderRow.holds Try.pinned (OpenSpec.ofChange fnBoundOrderSpec)

/-- ITS FALSE NEIGHBOUR: 'it returns false'. Refute it at one input. -/
def fnBoundOrderWrong : ChangeSpec := { name := "fnBoundOrder", fn := fun _ => fun
  | [d1, d2, d3] => { results := [.lit (.bool false)], args := [d1, d2, d3] }
  | _ => none }
def FnBoundOrderWrongFalsely : Prop := fnBoundOrderRow.holds Try.pinned (OpenSpec.ofChange fnBoundOrderWrong)

/-- 'laws.FnInBeside': WHATEVER THE INPUT: true; the input reads as it did. -/
def fnInBesideSpec : ChangeSpec := { name := "fnInBeside", fn := fun _ => fun
  | [d1, d2, d3] => { results := [.lit (.bool true)], args := [d1, d2, d3] }
  | _ => none }
def fnInBesideRow : OpenClaim := { program := "ytnpjnekoifheoaa", sum := "4ec4f127467bd1999ca1ec3e3411aa1be45cd86c2b833f75aff9aba2172ecd1a", func := "given.example/pub-notarial/laws.FnInBeside", spec := "fnInBeside", inPlace := ["internal/abi.NoEscape", "internal/bytealg.MakeNoZero"], recurses := true, loops := true, apart := false }
def FnInBesideSaid : Prop := fnInBesideRow.holds Try.pinned (OpenSpec.ofChange fnInBesideSpec)

/-- ITS FALSE NEIGHBOUR: 'it returns false'. Refute it at one input. -/
def fnInBesideWrong : ChangeSpec := { name := "fnInBeside", fn := fun _ => fun
  | [d1, d2, d3] => { results := [.lit (.bool false)], args := [d1, d2, d3] }
  | _ => none }
def FnInBesideWrongFalsely : Prop := fnInBesideRow.holds Try.pinned (OpenSpec.ofChange fnInBesideWrong)

/-- 'laws.FnInSingle': WHATEVER THE INPUT: true; the input reads as it did. -/
def fnInSingleSpec : ChangeSpec := { name := "fnInSingle", fn := fun _ => fun
  | [d1, d2, d3, d4] => { results := [.lit (.bool true)], args := [d1, d2, d3, d4] }
  | _ => none }
def fnInSingleRow : OpenClaim := { program := "ytnpjnekoifheoaa", sum := "4ec4f127467bd1999ca1ec3e3411aa1be45cd86c2b833f75aff9aba2172ecd1a", func := "given.example/pub-notarial/laws.FnInSingle", spec := "fnInSingle", inPlace := ["internal/abi.NoEscape", "internal/bytealg.MakeNoZero"], recurses := true, loops := true, apart := false }
def FnInSingleSaid : Prop := fnInSingleRow.holds Try.pinned (OpenSpec.ofChange fnInSingleSpec)

/-- ITS FALSE NEIGHBOUR: 'it returns false'. Refute it at one input. -/
def fnInSingleWrong : ChangeSpec := { name := "fnInSingle", fn := fun _ => fun
  | [d1, d2, d3, d4] => { results := [.lit (.bool false)], args := [d1, d2, d3, d4] }
  | _ => none }
def FnInSingleWrongFalsely : Prop := fnInSingleRow.holds Try.pinned (OpenSpec.ofChange fnInSingleWrong)

/- THE SECOND FORM. 'bulk': how many values and letters a reading holds, each counted each time it is reached (what is shared counts as often as it is met; a slice's spare places count too). A statement '..UptoSaid' is the law's where the arguments, and the package variables that the reading takes, are together of bulk at most 1048576: NARROWER than '..Said'. Prove '..Said' where nothing that the law and all that it calls make is longer than what came in: it says more and counts as full. Else prove '..UptoSaid'. A law counts once. -/
mutual
def uptoBulk {H : Type} : DataW H → Nat
  | .lit (.string bytes) => bytes.length + 1
  | .lit _ => 1
  | .nil => 1
  | .ptr d => uptoBulk d + 1
  | .slice elems spare => uptoBulkAll elems + uptoBulkAll spare + 1
  | .agg parts => uptoBulkAll parts + 1
  | .iface _ d => uptoBulk d + 1
  | .map entries => uptoBulkEntries entries + 1
  | .held _ => 1
def uptoBulkAll {H : Type} : List (DataW H) → Nat
  | [] => 0
  | d :: r => uptoBulk d + uptoBulkAll r
def uptoBulkEntries {H : Type} : List (Lit × DataW H) → Nat
  | [] => 0
  | x :: r => uptoBulkEntry x + uptoBulkEntries r
def uptoBulkEntry {H : Type} : Lit × DataW H → Nat
  | (.string bytes, d) => bytes.length + uptoBulk d + 1
  | (_, d) => uptoBulk d + 1
 end
def uptoSmall : (H : Type) → List (DataW H) → Bool := fun _ ds => decide (uptoBulkAll ds ≤ 1048576)
def OpenSpec.upto (s : _root_.Go.ChangeSpec) : _root_.Go.OpenSpec := { _root_.Go.OpenSpec.ofChange s with cond := some uptoSmall }

/-- 'laws.FnBoundOrder', WHERE WHAT IT READS IS OF BULK AT MOST 1048576: true; the input reads as it did. -/
def fnBoundOrderUptoRow : OpenClaim := { program := "ytnpjnekoifheoaa", sum := "4ec4f127467bd1999ca1ec3e3411aa1be45cd86c2b833f75aff9aba2172ecd1a", func := "given.example/pub-notarial/laws.FnBoundOrder", spec := "fnBoundOrder", recurses := true, loops := true, apart := false, narrowed := true }
def FnBoundOrderUptoSaid : Prop := fnBoundOrderUptoRow.holds Try.pinned (OpenSpec.upto fnBoundOrderSpec)

/-- 'laws.FnInBeside', WHERE WHAT IT READS IS OF BULK AT MOST 1048576: true; the input reads as it did. -/
def fnInBesideUptoRow : OpenClaim := { program := "ytnpjnekoifheoaa", sum := "4ec4f127467bd1999ca1ec3e3411aa1be45cd86c2b833f75aff9aba2172ecd1a", func := "given.example/pub-notarial/laws.FnInBeside", spec := "fnInBeside", inPlace := ["internal/abi.NoEscape", "internal/bytealg.MakeNoZero"], recurses := true, loops := true, apart := false, narrowed := true }
def FnInBesideUptoSaid : Prop := fnInBesideUptoRow.holds Try.pinned (OpenSpec.upto fnInBesideSpec)

/-- 'laws.FnInSingle', WHERE WHAT IT READS IS OF BULK AT MOST 1048576: true; the input reads as it did. -/
def fnInSingleUptoRow : OpenClaim := { program := "ytnpjnekoifheoaa", sum := "4ec4f127467bd1999ca1ec3e3411aa1be45cd86c2b833f75aff9aba2172ecd1a", func := "given.example/pub-notarial/laws.FnInSingle", spec := "fnInSingle", inPlace := ["internal/abi.NoEscape", "internal/bytealg.MakeNoZero"], recurses := true, loops := true, apart := false, narrowed := true }
def FnInSingleUptoSaid : Prop := fnInSingleUptoRow.holds Try.pinned (OpenSpec.upto fnInSingleSpec)

end Rows
end Go.Proofs.Ytnpjnekoifheoaa
