/-
  DERIVED. GIVEN WITH THE SEED: THE CARDS: each row of YtklnlfmopmlmlaaDoorRows.lean that lists a variable, with what it lists TIED to the program's text (the seventh form; the later family's looks); each row that meets fmt, with fmt's text TOLD by the authors' own Lean function (tested against real Go, not proved from fmt's source: count such statements apart). THE CARD IS WHAT COUNTS. Prove the row's statement (the work); the ties are given (YtklnlfmopmlmlaaDoorTie.lean); close each card by the builder's one call (the guide's Derived/Test/ToyasCard.lean, 'card_holds'). Laid BY PROGRAM, IN A SANDBOX (cutbox-door.mjs). By AI agents, Wed Nov 11 2026. No macro, syntax, notation, axiom, sorry.
-/
import Derived.Test.YtklnlfmopmlmlaaDoorRows
import GoSem.ClaimSeven
namespace Go.Proofs.YtklnlfmopmlmlaaDoor
namespace Rows

/-- THE TIED CARD OF 'laws.FnRebindStay'. -/
def fnRebindStayCard : Claim7 := { stood := { row := fnRebindStayRow, standIns := [], harness := (true, "25367c908ab7566b1479d5fdf2c5003bfc1a1f1bd5d424adf204b684466dc2fb"), looks := true }, kinds := [], alts := [], laidByText := true, laidKinds := [.data, .data, .data], laidTests := true, laidLooks := .later }
def FnRebindStayCardSaid : Prop := Claim7.holds Tryd.pinned (.plain (OpenSpec.ofChange fnRebindStaySpec)) fnRebindStayCard

/-- THE TIED CARD OF 'laws.FnFormPrefix'. -/
def fnFormPrefixCard : Claim7 := { stood := { row := fnFormPrefixRow, standIns := [], harness := (true, "25367c908ab7566b1479d5fdf2c5003bfc1a1f1bd5d424adf204b684466dc2fb"), looks := true }, kinds := [], alts := [], laidByText := true, laidKinds := [.data, .data, .data, .sentinel], laidTests := true, laidLooks := .later }
def FnFormPrefixCardSaid : Prop := Claim7.holds Tryd.pinned (.plain (OpenSpec.ofChange fnFormPrefixSpec)) fnFormPrefixCard

/-- THE TIED CARD OF 'laws.FnFormOther'. -/
def fnFormOtherCard : Claim7 := { stood := { row := fnFormOtherRow, standIns := [], harness := (true, "25367c908ab7566b1479d5fdf2c5003bfc1a1f1bd5d424adf204b684466dc2fb"), looks := true }, kinds := [], alts := [], laidByText := true, laidKinds := [.data, .data, .data, .data], laidTests := true, laidLooks := .later }
def FnFormOtherCardSaid : Prop := Claim7.holds Tryd.pinned (.plain (OpenSpec.ofChange fnFormOtherSpec)) fnFormOtherCard

/-- THE TIED CARD OF 'laws.FnFormRow'. -/
def fnFormRowCard : Claim7 := { stood := { row := fnFormRowRow, standIns := [], harness := (true, "25367c908ab7566b1479d5fdf2c5003bfc1a1f1bd5d424adf204b684466dc2fb"), looks := true }, kinds := [], alts := [], laidByText := true, laidKinds := [.data, .data, .data, .data], laidTests := true, laidLooks := .later }
def FnFormRowCardSaid : Prop := Claim7.holds Tryd.pinned (.plain (OpenSpec.ofChange fnFormRowSpec)) fnFormRowCard

/-- THE TIED CARD OF 'laws.FnRebuffEach'. -/
def fnRebuffEachCard : Claim7 := { stood := { row := fnRebuffEachRow, standIns := [], harness := (true, "25367c908ab7566b1479d5fdf2c5003bfc1a1f1bd5d424adf204b684466dc2fb"), looks := true }, kinds := [], alts := [], laidByText := true, laidKinds := [.data, .data, .data, .sentinel], laidTests := true, laidLooks := .later }
def FnRebuffEachCardSaid : Prop := Claim7.holds Tryd.pinned (.plain (OpenSpec.ofChange fnRebuffEachSpec)) fnRebuffEachCard

/-- THE TIED CARD OF 'laws.FnPlaceholdersForm'. -/
def fnPlaceholdersFormCard : Claim7 := { stood := { row := fnPlaceholdersFormRow, standIns := [], harness := (true, "25367c908ab7566b1479d5fdf2c5003bfc1a1f1bd5d424adf204b684466dc2fb"), looks := true }, kinds := [], alts := [], laidByText := true, laidKinds := [.data, .data, .data, .data], laidTests := true, laidLooks := .later }
def FnPlaceholdersFormCardSaid : Prop := Claim7.holds Tryd.pinned (.plain (OpenSpec.ofChange fnPlaceholdersFormSpec)) fnPlaceholdersFormCard

/-- THE TIED CARD OF 'laws.FnDebugParts'. -/
def fnDebugPartsCard : Claim7 := { stood := { row := fnDebugPartsRow, standIns := [], harness := (true, "25367c908ab7566b1479d5fdf2c5003bfc1a1f1bd5d424adf204b684466dc2fb"), looks := true }, kinds := [], alts := [], laidByText := true, laidKinds := [.data, .data, .data, .sentinel], laidTests := true, laidLooks := .later }
def FnDebugPartsCardSaid : Prop := Claim7.holds Tryd.pinned (.plain (OpenSpec.ofChange fnDebugPartsSpec)) fnDebugPartsCard

/-- THE SECOND FORM's CARD OF 'laws.FnRebindStay'. -/
def fnRebindStayUptoCard : Claim7 := { stood := { row := fnRebindStayUptoRow, standIns := [], harness := (true, "25367c908ab7566b1479d5fdf2c5003bfc1a1f1bd5d424adf204b684466dc2fb"), looks := true }, kinds := [], alts := [], laidByText := true, laidKinds := [.data, .data, .data], laidTests := true, laidLooks := .later }
def FnRebindStayUptoCardSaid : Prop := Claim7.holds Tryd.pinned (.plain (OpenSpec.upto fnRebindStaySpec)) fnRebindStayUptoCard

/-- THE SECOND FORM's CARD OF 'laws.FnFormPrefix'. -/
def fnFormPrefixUptoCard : Claim7 := { stood := { row := fnFormPrefixUptoRow, standIns := [], harness := (true, "25367c908ab7566b1479d5fdf2c5003bfc1a1f1bd5d424adf204b684466dc2fb"), looks := true }, kinds := [], alts := [], laidByText := true, laidKinds := [.data, .data, .data, .sentinel], laidTests := true, laidLooks := .later }
def FnFormPrefixUptoCardSaid : Prop := Claim7.holds Tryd.pinned (.plain (OpenSpec.upto fnFormPrefixSpec)) fnFormPrefixUptoCard

/-- THE SECOND FORM's CARD OF 'laws.FnFormOther'. -/
def fnFormOtherUptoCard : Claim7 := { stood := { row := fnFormOtherUptoRow, standIns := [], harness := (true, "25367c908ab7566b1479d5fdf2c5003bfc1a1f1bd5d424adf204b684466dc2fb"), looks := true }, kinds := [], alts := [], laidByText := true, laidKinds := [.data, .data, .data, .data], laidTests := true, laidLooks := .later }
def FnFormOtherUptoCardSaid : Prop := Claim7.holds Tryd.pinned (.plain (OpenSpec.upto fnFormOtherSpec)) fnFormOtherUptoCard

/-- THE SECOND FORM's CARD OF 'laws.FnFormRow'. -/
def fnFormRowUptoCard : Claim7 := { stood := { row := fnFormRowUptoRow, standIns := [], harness := (true, "25367c908ab7566b1479d5fdf2c5003bfc1a1f1bd5d424adf204b684466dc2fb"), looks := true }, kinds := [], alts := [], laidByText := true, laidKinds := [.data, .data, .data, .data], laidTests := true, laidLooks := .later }
def FnFormRowUptoCardSaid : Prop := Claim7.holds Tryd.pinned (.plain (OpenSpec.upto fnFormRowSpec)) fnFormRowUptoCard

/-- THE SECOND FORM's CARD OF 'laws.FnRebuffEach'. -/
def fnRebuffEachUptoCard : Claim7 := { stood := { row := fnRebuffEachUptoRow, standIns := [], harness := (true, "25367c908ab7566b1479d5fdf2c5003bfc1a1f1bd5d424adf204b684466dc2fb"), looks := true }, kinds := [], alts := [], laidByText := true, laidKinds := [.data, .data, .data, .sentinel], laidTests := true, laidLooks := .later }
def FnRebuffEachUptoCardSaid : Prop := Claim7.holds Tryd.pinned (.plain (OpenSpec.upto fnRebuffEachSpec)) fnRebuffEachUptoCard

/-- THE SECOND FORM's CARD OF 'laws.FnPlaceholdersForm'. -/
def fnPlaceholdersFormUptoCard : Claim7 := { stood := { row := fnPlaceholdersFormUptoRow, standIns := [], harness := (true, "25367c908ab7566b1479d5fdf2c5003bfc1a1f1bd5d424adf204b684466dc2fb"), looks := true }, kinds := [], alts := [], laidByText := true, laidKinds := [.data, .data, .data, .data], laidTests := true, laidLooks := .later }
def FnPlaceholdersFormUptoCardSaid : Prop := Claim7.holds Tryd.pinned (.plain (OpenSpec.upto fnPlaceholdersFormSpec)) fnPlaceholdersFormUptoCard

/-- THE SECOND FORM's CARD OF 'laws.FnDebugParts'. -/
def fnDebugPartsUptoCard : Claim7 := { stood := { row := fnDebugPartsUptoRow, standIns := [], harness := (true, "25367c908ab7566b1479d5fdf2c5003bfc1a1f1bd5d424adf204b684466dc2fb"), looks := true }, kinds := [], alts := [], laidByText := true, laidKinds := [.data, .data, .data, .sentinel], laidTests := true, laidLooks := .later }
def FnDebugPartsUptoCardSaid : Prop := Claim7.holds Tryd.pinned (.plain (OpenSpec.upto fnDebugPartsSpec)) fnDebugPartsUptoCard
end Rows
end Go.Proofs.YtklnlfmopmlmlaaDoor
