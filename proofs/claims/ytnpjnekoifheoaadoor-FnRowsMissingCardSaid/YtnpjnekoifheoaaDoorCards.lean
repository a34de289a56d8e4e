/-
  DERIVED. GIVEN WITH THE SEED: THE CARDS: each row of YtnpjnekoifheoaaDoorRows.lean that lists a variable, with what it lists TIED to the program's text (the seventh form; the later family's looks); each row that meets fmt, with fmt's text TOLD by the authors' own Lean function (tested against real Go, not proved from fmt's source: count such statements apart). THE CARD IS WHAT COUNTS. Prove the row's statement (the work); the ties are given (YtnpjnekoifheoaaDoorTie.lean); close each card by the builder's one call (the guide's Derived/Test/ToyasCard.lean, 'card_holds'). Laid BY PROGRAM, IN A SANDBOX (cutbox-door.mjs). By AI agents, Wed Nov 11 2026. No macro, syntax, notation, axiom, sorry.
-/
import Derived.Test.YtnpjnekoifheoaaDoorRows
import GoSem.ClaimSeven
namespace Go.Proofs.YtnpjnekoifheoaaDoor
namespace Rows

/-- THE TIED CARD OF 'laws.FnNameAssign'. -/
def fnNameAssignCard : Claim7 := { stood := { row := fnNameAssignRow, standIns := [], harness := (true, "b09c60369cc7fb5eee3d89788a623a939aebbf4f37878273ee0d6dcc707a8865"), looks := true }, kinds := [], alts := [], laidByText := true, laidKinds := [.data, .data, .data], laidTests := true, laidLooks := .later }
def FnNameAssignCardSaid : Prop := Claim7.holds Tryd.pinned (.plain (OpenSpec.ofChange fnNameAssignSpec)) fnNameAssignCard

/-- THE TIED CARD OF 'laws.FnNameEnds'. -/
def fnNameEndsCard : Claim7 := { stood := { row := fnNameEndsRow, standIns := [], harness := (true, "b09c60369cc7fb5eee3d89788a623a939aebbf4f37878273ee0d6dcc707a8865"), looks := true }, kinds := [], alts := [], laidByText := true, laidKinds := [.data, .data, .data], laidTests := true, laidLooks := .later }
def FnNameEndsCardSaid : Prop := Claim7.holds Tryd.pinned (.plain (OpenSpec.ofChange fnNameEndsSpec)) fnNameEndsCard

/-- THE TIED CARD OF 'laws.FnNamesMany'. -/
def fnNamesManyCard : Claim7 := { stood := { row := fnNamesManyRow, standIns := [], harness := (true, "b09c60369cc7fb5eee3d89788a623a939aebbf4f37878273ee0d6dcc707a8865"), looks := true }, kinds := [], alts := [], laidByText := true, laidKinds := [.data, .data, .data], laidTests := true, laidLooks := .later }
def FnNamesManyCardSaid : Prop := Claim7.holds Tryd.pinned (.plain (OpenSpec.ofChange fnNamesManySpec)) fnNamesManyCard

/-- THE TIED CARD OF 'laws.FnInRebound'. -/
def fnInReboundCard : Claim7 := { stood := { row := fnInReboundRow, standIns := [], harness := (true, "b09c60369cc7fb5eee3d89788a623a939aebbf4f37878273ee0d6dcc707a8865"), looks := true }, kinds := [], alts := [], laidByText := true, laidKinds := [.data, .data, .data], laidTests := true, laidLooks := .later }
def FnInReboundCardSaid : Prop := Claim7.holds Tryd.pinned (.plain (OpenSpec.ofChange fnInReboundSpec)) fnInReboundCard

/-- THE TIED CARD OF 'laws.FnNamedOne'. -/
def fnNamedOneCard : Claim7 := { stood := { row := fnNamedOneRow, standIns := [], harness := (true, "b09c60369cc7fb5eee3d89788a623a939aebbf4f37878273ee0d6dcc707a8865"), looks := true }, kinds := [], alts := [], laidByText := true, laidKinds := [.data, .data, .data, .sentinel], laidTests := true, laidLooks := .later }
def FnNamedOneCardSaid : Prop := Claim7.holds Tryd.pinned (.plain (OpenSpec.ofChange fnNamedOneSpec)) fnNamedOneCard

/-- THE TIED CARD OF 'laws.FnNamedMissing'. -/
def fnNamedMissingCard : Claim7 := { stood := { row := fnNamedMissingRow, standIns := [], harness := (true, "b09c60369cc7fb5eee3d89788a623a939aebbf4f37878273ee0d6dcc707a8865"), looks := true }, kinds := [], alts := [], laidByText := true, laidKinds := [.data, .data, .data, .sentinel], laidTests := true, laidLooks := .later }
def FnNamedMissingCardSaid : Prop := Claim7.holds Tryd.pinned (.plain (OpenSpec.ofChange fnNamedMissingSpec)) fnNamedMissingCard

/-- THE TIED CARD OF 'laws.FnRowsMissing'. -/
def fnRowsMissingCard : Claim7 := { stood := { row := fnRowsMissingRow, standIns := [], harness := (true, "b09c60369cc7fb5eee3d89788a623a939aebbf4f37878273ee0d6dcc707a8865"), looks := true }, kinds := [], alts := [], laidByText := true, laidKinds := [.data, .data, .data, .sentinel], laidTests := true, laidLooks := .later }
def FnRowsMissingCardSaid : Prop := Claim7.holds Tryd.pinned (.plain (OpenSpec.ofChange fnRowsMissingSpec)) fnRowsMissingCard

/-- THE TIED CARD OF 'laws.FnRowsOther'. -/
def fnRowsOtherCard : Claim7 := { stood := { row := fnRowsOtherRow, standIns := [], harness := (true, "b09c60369cc7fb5eee3d89788a623a939aebbf4f37878273ee0d6dcc707a8865"), looks := true }, kinds := [], alts := [], laidByText := true, laidKinds := [.data, .data, .data, .sentinel], laidTests := true, laidLooks := .later }
def FnRowsOtherCardSaid : Prop := Claim7.holds Tryd.pinned (.plain (OpenSpec.ofChange fnRowsOtherSpec)) fnRowsOtherCard

/-- THE TIED CARD OF 'laws.FnRowsText'. -/
def fnRowsTextCard : Claim7 := { stood := { row := fnRowsTextRow, standIns := [], harness := (true, "b09c60369cc7fb5eee3d89788a623a939aebbf4f37878273ee0d6dcc707a8865"), looks := true }, kinds := [], alts := [], laidByText := true, laidKinds := [.data, .data, .data, .sentinel], laidTests := true, laidLooks := .later }
def FnRowsTextCardSaid : Prop := Claim7.holds Tryd.pinned (.plain (OpenSpec.ofChange fnRowsTextSpec)) fnRowsTextCard

/-- THE SECOND FORM's CARD OF 'laws.FnNameAssign'. -/
def fnNameAssignUptoCard : Claim7 := { stood := { row := fnNameAssignUptoRow, standIns := [], harness := (true, "b09c60369cc7fb5eee3d89788a623a939aebbf4f37878273ee0d6dcc707a8865"), looks := true }, kinds := [], alts := [], laidByText := true, laidKinds := [.data, .data, .data], laidTests := true, laidLooks := .later }
def FnNameAssignUptoCardSaid : Prop := Claim7.holds Tryd.pinned (.plain (OpenSpec.upto fnNameAssignSpec)) fnNameAssignUptoCard

/-- THE SECOND FORM's CARD OF 'laws.FnNameEnds'. -/
def fnNameEndsUptoCard : Claim7 := { stood := { row := fnNameEndsUptoRow, standIns := [], harness := (true, "b09c60369cc7fb5eee3d89788a623a939aebbf4f37878273ee0d6dcc707a8865"), looks := true }, kinds := [], alts := [], laidByText := true, laidKinds := [.data, .data, .data], laidTests := true, laidLooks := .later }
def FnNameEndsUptoCardSaid : Prop := Claim7.holds Tryd.pinned (.plain (OpenSpec.upto fnNameEndsSpec)) fnNameEndsUptoCard

/-- THE SECOND FORM's CARD OF 'laws.FnNamesMany'. -/
def fnNamesManyUptoCard : Claim7 := { stood := { row := fnNamesManyUptoRow, standIns := [], harness := (true, "b09c60369cc7fb5eee3d89788a623a939aebbf4f37878273ee0d6dcc707a8865"), looks := true }, kinds := [], alts := [], laidByText := true, laidKinds := [.data, .data, .data], laidTests := true, laidLooks := .later }
def FnNamesManyUptoCardSaid : Prop := Claim7.holds Tryd.pinned (.plain (OpenSpec.upto fnNamesManySpec)) fnNamesManyUptoCard

/-- THE SECOND FORM's CARD OF 'laws.FnInRebound'. -/
def fnInReboundUptoCard : Claim7 := { stood := { row := fnInReboundUptoRow, standIns := [], harness := (true, "b09c60369cc7fb5eee3d89788a623a939aebbf4f37878273ee0d6dcc707a8865"), looks := true }, kinds := [], alts := [], laidByText := true, laidKinds := [.data, .data, .data], laidTests := true, laidLooks := .later }
def FnInReboundUptoCardSaid : Prop := Claim7.holds Tryd.pinned (.plain (OpenSpec.upto fnInReboundSpec)) fnInReboundUptoCard

/-- THE SECOND FORM's CARD OF 'laws.FnNamedOne'. -/
def fnNamedOneUptoCard : Claim7 := { stood := { row := fnNamedOneUptoRow, standIns := [], harness := (true, "b09c60369cc7fb5eee3d89788a623a939aebbf4f37878273ee0d6dcc707a8865"), looks := true }, kinds := [], alts := [], laidByText := true, laidKinds := [.data, .data, .data, .sentinel], laidTests := true, laidLooks := .later }
def FnNamedOneUptoCardSaid : Prop := Claim7.holds Tryd.pinned (.plain (OpenSpec.upto fnNamedOneSpec)) fnNamedOneUptoCard

/-- THE SECOND FORM's CARD OF 'laws.FnNamedMissing'. -/
def fnNamedMissingUptoCard : Claim7 := { stood := { row := fnNamedMissingUptoRow, standIns := [], harness := (true, "b09c60369cc7fb5eee3d89788a623a939aebbf4f37878273ee0d6dcc707a8865"), looks := true }, kinds := [], alts := [], laidByText := true, laidKinds := [.data, .data, .data, .sentinel], laidTests := true, laidLooks := .later }
def FnNamedMissingUptoCardSaid : Prop := Claim7.holds Tryd.pinned (.plain (OpenSpec.upto fnNamedMissingSpec)) fnNamedMissingUptoCard

/-- THE SECOND FORM's CARD OF 'laws.FnRowsMissing'. -/
def fnRowsMissingUptoCard : Claim7 := { stood := { row := fnRowsMissingUptoRow, standIns := [], harness := (true, "b09c60369cc7fb5eee3d89788a623a939aebbf4f37878273ee0d6dcc707a8865"), looks := true }, kinds := [], alts := [], laidByText := true, laidKinds := [.data, .data, .data, .sentinel], laidTests := true, laidLooks := .later }
def FnRowsMissingUptoCardSaid : Prop := Claim7.holds Tryd.pinned (.plain (OpenSpec.upto fnRowsMissingSpec)) fnRowsMissingUptoCard

/-- THE SECOND FORM's CARD OF 'laws.FnRowsOther'. -/
def fnRowsOtherUptoCard : Claim7 := { stood := { row := fnRowsOtherUptoRow, standIns := [], harness := (true, "b09c60369cc7fb5eee3d89788a623a939aebbf4f37878273ee0d6dcc707a8865"), looks := true }, kinds := [], alts := [], laidByText := true, laidKinds := [.data, .data, .data, .sentinel], laidTests := true, laidLooks := .later }
def FnRowsOtherUptoCardSaid : Prop := Claim7.holds Tryd.pinned (.plain (OpenSpec.upto fnRowsOtherSpec)) fnRowsOtherUptoCard

/-- THE SECOND FORM's CARD OF 'laws.FnRowsText'. -/
def fnRowsTextUptoCard : Claim7 := { stood := { row := fnRowsTextUptoRow, standIns := [], harness := (true, "b09c60369cc7fb5eee3d89788a623a939aebbf4f37878273ee0d6dcc707a8865"), looks := true }, kinds := [], alts := [], laidByText := true, laidKinds := [.data, .data, .data, .sentinel], laidTests := true, laidLooks := .later }
def FnRowsTextUptoCardSaid : Prop := Claim7.holds Tryd.pinned (.plain (OpenSpec.upto fnRowsTextSpec)) fnRowsTextUptoCard
end Rows
end Go.Proofs.YtnpjnekoifheoaaDoor
