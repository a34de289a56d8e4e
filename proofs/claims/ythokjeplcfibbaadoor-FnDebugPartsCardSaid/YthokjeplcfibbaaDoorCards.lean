/-
  DERIVED. GIVEN WITH THE SEED: THE CARDS: each row of YthokjeplcfibbaaDoorRows.lean that lists a variable, with what it lists TIED to the program's text (the seventh form; the later family's looks); each row that meets fmt, with fmt's text TOLD by the authors' own Lean function (tested against real Go, not proved from fmt's source: count such statements apart). THE CARD IS WHAT COUNTS. Prove the row's statement (the work); the ties are given (YthokjeplcfibbaaDoorTie.lean); close each card by the builder's one call (the guide's Derived/Test/ToyasCard.lean, 'card_holds'). Laid BY PROGRAM, IN A SANDBOX (cutbox-door.mjs). By AI agents, Wed Nov 11 2026. No macro, syntax, notation, axiom, sorry.
-/
import Derived.Test.YthokjeplcfibbaaDoorRows
import GoSem.ClaimSeven
namespace Go.Proofs.YthokjeplcfibbaaDoor
namespace Rows

/-- THE TIED CARD OF 'laws.FnDebugParts'. -/
def fnDebugPartsCard : Claim7 := { stood := { row := fnDebugPartsRow, standIns := [], harness := (true, "d1e28499a2f03e1decfdcd6d16935d57e32a26f2a9de208c243677bb3b3b6ca4"), looks := true }, kinds := [], alts := [], laidByText := true, laidKinds := [.data, .data, .data, .sentinel], laidTests := true, laidLooks := .later }
def FnDebugPartsCardSaid : Prop := Claim7.holds Tryd.pinned (.plain (OpenSpec.ofChange fnDebugPartsSpec)) fnDebugPartsCard

/-- THE SECOND FORM's CARD OF 'laws.FnDebugParts'. -/
def fnDebugPartsUptoCard : Claim7 := { stood := { row := fnDebugPartsUptoRow, standIns := [], harness := (true, "d1e28499a2f03e1decfdcd6d16935d57e32a26f2a9de208c243677bb3b3b6ca4"), looks := true }, kinds := [], alts := [], laidByText := true, laidKinds := [.data, .data, .data, .sentinel], laidTests := true, laidLooks := .later }
def FnDebugPartsUptoCardSaid : Prop := Claim7.holds Tryd.pinned (.plain (OpenSpec.upto fnDebugPartsSpec)) fnDebugPartsUptoCard
end Rows
end Go.Proofs.YthokjeplcfibbaaDoor
