/-
  DERIVED. GIVEN WITH THE SEED: THE CARDS: each row of YteheelcppgjeaaaDoorRows.lean that lists a variable, with what it lists TIED to the program's text (the seventh form; the later family's looks); each row that meets fmt, with fmt's text TOLD by the authors' own Lean function (tested against real Go, not proved from fmt's source: count such statements apart). THE CARD IS WHAT COUNTS. Prove the row's statement (the work); the ties are given (YteheelcppgjeaaaDoorTie.lean); close each card by the builder's one call (the guide's Derived/Test/ToyasCard.lean, 'card_holds'). Laid BY PROGRAM, IN A SANDBOX (cutbox-door.mjs). By AI agents, Wed Nov 11 2026. No macro, syntax, notation, axiom, sorry.
-/
import Derived.Test.YteheelcppgjeaaaDoorRows
import GoSem.ClaimSeven
namespace Go.Proofs.YteheelcppgjeaaaDoor
namespace Rows

/-- THE TIED CARD OF 'laws.FnBare'. -/
def fnBareCard : Claim7 := { stood := { row := fnBareRow, standIns := [], harness := (true, "83cbb0cd62058be143ed381e5b4f24a51f76c79cd9afad60458e965fa8a82df6"), looks := false }, kinds := [], alts := [], laidByText := true, laidKinds := [.data, .data, .data, .data, .pinned], laidTests := true, laidLooks := .later }
def FnBareCardSaid : Prop := Claim7.holds Tryd.pinned (.plain (OpenSpec.ofChange fnBareSpec)) fnBareCard

/-- THE TIED CARD OF 'laws.FnText'. -/
def fnTextCard : Claim7 := { stood := { row := fnTextRow, standIns := [], harness := (true, "83cbb0cd62058be143ed381e5b4f24a51f76c79cd9afad60458e965fa8a82df6"), looks := false }, kinds := [], alts := [], laidByText := true, laidKinds := [.data, .data, .data, .data, .pinned], laidTests := true, laidLooks := .later }
def FnTextCardSaid : Prop := Claim7.holds Tryd.pinned (.plain (OpenSpec.ofChange fnTextSpec)) fnTextCard

/-- THE TIED CARD OF 'laws.FnComment'. -/
def fnCommentCard : Claim7 := { stood := { row := fnCommentRow, standIns := [], harness := (true, "83cbb0cd62058be143ed381e5b4f24a51f76c79cd9afad60458e965fa8a82df6"), looks := false }, kinds := [], alts := [], laidByText := true, laidKinds := [.data, .data, .data, .data, .pinned], laidTests := true, laidLooks := .later }
def FnCommentCardSaid : Prop := Claim7.holds Tryd.pinned (.plain (OpenSpec.ofChange fnCommentSpec)) fnCommentCard

/-- THE TIED CARD OF 'laws.FnKept'. -/
def fnKeptCard : Claim7 := { stood := { row := fnKeptRow, standIns := [], harness := (true, "83cbb0cd62058be143ed381e5b4f24a51f76c79cd9afad60458e965fa8a82df6"), looks := false }, kinds := [], alts := [], laidByText := true, laidKinds := [.data, .data, .data, .data, .pinned], laidTests := true, laidLooks := .later }
def FnKeptCardSaid : Prop := Claim7.holds Tryd.pinned (.plain (OpenSpec.ofChange fnKeptSpec)) fnKeptCard

/-- THE TIED CARD OF 'laws.FnRCData'. -/
def fnRCDataCard : Claim7 := { stood := { row := fnRCDataRow, standIns := [], harness := (true, "83cbb0cd62058be143ed381e5b4f24a51f76c79cd9afad60458e965fa8a82df6"), looks := false }, kinds := [], alts := [], laidByText := true, laidKinds := [.data, .data, .data, .data, .pinned], laidTests := true, laidLooks := .later }
def FnRCDataCardSaid : Prop := Claim7.holds Tryd.pinned (.plain (OpenSpec.ofChange fnRCDataSpec)) fnRCDataCard

/-- THE TIED CARD OF 'laws.FnTemplateLiteral'. -/
def fnTemplateLiteralCard : Claim7 := { stood := { row := fnTemplateLiteralRow, standIns := [], harness := (true, "83cbb0cd62058be143ed381e5b4f24a51f76c79cd9afad60458e965fa8a82df6"), looks := false }, kinds := [], alts := [], laidByText := true, laidKinds := [.data, .data, .data, .data, .data, .pinned], laidTests := true, laidLooks := .later }
def FnTemplateLiteralCardSaid : Prop := Claim7.holds Tryd.pinned (.plain (OpenSpec.ofChange fnTemplateLiteralSpec)) fnTemplateLiteralCard

/-- THE TIED CARD OF 'laws.FnPattern'. -/
def fnPatternCard : Claim7 := { stood := { row := fnPatternRow, standIns := [], harness := (true, "83cbb0cd62058be143ed381e5b4f24a51f76c79cd9afad60458e965fa8a82df6"), looks := false }, kinds := [], alts := [], laidByText := true, laidKinds := [.data, .data, .data, .data, .data, .pinned], laidTests := true, laidLooks := .later }
def FnPatternCardSaid : Prop := Claim7.holds Tryd.pinned (.plain (OpenSpec.ofChange fnPatternSpec)) fnPatternCard

/-- THE TIED CARD OF 'laws.FnString'. -/
def fnStringCard : Claim7 := { stood := { row := fnStringRow, standIns := [], harness := (true, "83cbb0cd62058be143ed381e5b4f24a51f76c79cd9afad60458e965fa8a82df6"), looks := false }, kinds := [], alts := [], laidByText := true, laidKinds := [.data, .data, .data, .data, .data, .pinned], laidTests := true, laidLooks := .later }
def FnStringCardSaid : Prop := Claim7.holds Tryd.pinned (.plain (OpenSpec.ofChange fnStringSpec)) fnStringCard

/-- THE TIED CARD OF 'laws.FnSlash'. -/
def fnSlashCard : Claim7 := { stood := { row := fnSlashRow, standIns := [], harness := (true, "83cbb0cd62058be143ed381e5b4f24a51f76c79cd9afad60458e965fa8a82df6"), looks := false }, kinds := [], alts := [], laidByText := true, laidKinds := [.data, .data, .data, .data, .pinned], laidTests := true, laidLooks := .later }
def FnSlashCardSaid : Prop := Claim7.holds Tryd.pinned (.plain (OpenSpec.ofChange fnSlashSpec)) fnSlashCard

/-- THE TIED CARD OF 'laws.FnScriptType'. -/
def fnScriptTypeCard : Claim7 := { stood := { row := fnScriptTypeRow, standIns := [], harness := (true, "83cbb0cd62058be143ed381e5b4f24a51f76c79cd9afad60458e965fa8a82df6"), looks := false }, kinds := [], alts := [], laidByText := true, laidKinds := [.data, .data, .data, .data, .listed, .data, .pinned, .pinned], laidTests := true, laidLooks := .later }
def FnScriptTypeCardSaid : Prop := Claim7.holds Tryd.pinned (.plain (OpenSpec.ofChange fnScriptTypeSpec)) fnScriptTypeCard

/-- THE SECOND FORM's CARD OF 'laws.FnBare'. -/
def fnBareUptoCard : Claim7 := { stood := { row := fnBareUptoRow, standIns := [], harness := (true, "83cbb0cd62058be143ed381e5b4f24a51f76c79cd9afad60458e965fa8a82df6"), looks := false }, kinds := [], alts := [], laidByText := true, laidKinds := [.data, .data, .data, .data, .pinned], laidTests := true, laidLooks := .later }
def FnBareUptoCardSaid : Prop := Claim7.holds Tryd.pinned (.plain (OpenSpec.upto fnBareSpec)) fnBareUptoCard

/-- THE SECOND FORM's CARD OF 'laws.FnText'. -/
def fnTextUptoCard : Claim7 := { stood := { row := fnTextUptoRow, standIns := [], harness := (true, "83cbb0cd62058be143ed381e5b4f24a51f76c79cd9afad60458e965fa8a82df6"), looks := false }, kinds := [], alts := [], laidByText := true, laidKinds := [.data, .data, .data, .data, .pinned], laidTests := true, laidLooks := .later }
def FnTextUptoCardSaid : Prop := Claim7.holds Tryd.pinned (.plain (OpenSpec.upto fnTextSpec)) fnTextUptoCard

/-- THE SECOND FORM's CARD OF 'laws.FnComment'. -/
def fnCommentUptoCard : Claim7 := { stood := { row := fnCommentUptoRow, standIns := [], harness := (true, "83cbb0cd62058be143ed381e5b4f24a51f76c79cd9afad60458e965fa8a82df6"), looks := false }, kinds := [], alts := [], laidByText := true, laidKinds := [.data, .data, .data, .data, .pinned], laidTests := true, laidLooks := .later }
def FnCommentUptoCardSaid : Prop := Claim7.holds Tryd.pinned (.plain (OpenSpec.upto fnCommentSpec)) fnCommentUptoCard

/-- THE SECOND FORM's CARD OF 'laws.FnKept'. -/
def fnKeptUptoCard : Claim7 := { stood := { row := fnKeptUptoRow, standIns := [], harness := (true, "83cbb0cd62058be143ed381e5b4f24a51f76c79cd9afad60458e965fa8a82df6"), looks := false }, kinds := [], alts := [], laidByText := true, laidKinds := [.data, .data, .data, .data, .pinned], laidTests := true, laidLooks := .later }
def FnKeptUptoCardSaid : Prop := Claim7.holds Tryd.pinned (.plain (OpenSpec.upto fnKeptSpec)) fnKeptUptoCard

/-- THE SECOND FORM's CARD OF 'laws.FnRCData'. -/
def fnRCDataUptoCard : Claim7 := { stood := { row := fnRCDataUptoRow, standIns := [], harness := (true, "83cbb0cd62058be143ed381e5b4f24a51f76c79cd9afad60458e965fa8a82df6"), looks := false }, kinds := [], alts := [], laidByText := true, laidKinds := [.data, .data, .data, .data, .pinned], laidTests := true, laidLooks := .later }
def FnRCDataUptoCardSaid : Prop := Claim7.holds Tryd.pinned (.plain (OpenSpec.upto fnRCDataSpec)) fnRCDataUptoCard

/-- THE SECOND FORM's CARD OF 'laws.FnTemplateLiteral'. -/
def fnTemplateLiteralUptoCard : Claim7 := { stood := { row := fnTemplateLiteralUptoRow, standIns := [], harness := (true, "83cbb0cd62058be143ed381e5b4f24a51f76c79cd9afad60458e965fa8a82df6"), looks := false }, kinds := [], alts := [], laidByText := true, laidKinds := [.data, .data, .data, .data, .data, .pinned], laidTests := true, laidLooks := .later }
def FnTemplateLiteralUptoCardSaid : Prop := Claim7.holds Tryd.pinned (.plain (OpenSpec.upto fnTemplateLiteralSpec)) fnTemplateLiteralUptoCard

/-- THE SECOND FORM's CARD OF 'laws.FnPattern'. -/
def fnPatternUptoCard : Claim7 := { stood := { row := fnPatternUptoRow, standIns := [], harness := (true, "83cbb0cd62058be143ed381e5b4f24a51f76c79cd9afad60458e965fa8a82df6"), looks := false }, kinds := [], alts := [], laidByText := true, laidKinds := [.data, .data, .data, .data, .data, .pinned], laidTests := true, laidLooks := .later }
def FnPatternUptoCardSaid : Prop := Claim7.holds Tryd.pinned (.plain (OpenSpec.upto fnPatternSpec)) fnPatternUptoCard

/-- THE SECOND FORM's CARD OF 'laws.FnString'. -/
def fnStringUptoCard : Claim7 := { stood := { row := fnStringUptoRow, standIns := [], harness := (true, "83cbb0cd62058be143ed381e5b4f24a51f76c79cd9afad60458e965fa8a82df6"), looks := false }, kinds := [], alts := [], laidByText := true, laidKinds := [.data, .data, .data, .data, .data, .pinned], laidTests := true, laidLooks := .later }
def FnStringUptoCardSaid : Prop := Claim7.holds Tryd.pinned (.plain (OpenSpec.upto fnStringSpec)) fnStringUptoCard

/-- THE SECOND FORM's CARD OF 'laws.FnSlash'. -/
def fnSlashUptoCard : Claim7 := { stood := { row := fnSlashUptoRow, standIns := [], harness := (true, "83cbb0cd62058be143ed381e5b4f24a51f76c79cd9afad60458e965fa8a82df6"), looks := false }, kinds := [], alts := [], laidByText := true, laidKinds := [.data, .data, .data, .data, .pinned], laidTests := true, laidLooks := .later }
def FnSlashUptoCardSaid : Prop := Claim7.holds Tryd.pinned (.plain (OpenSpec.upto fnSlashSpec)) fnSlashUptoCard

/-- THE SECOND FORM's CARD OF 'laws.FnScriptType'. -/
def fnScriptTypeUptoCard : Claim7 := { stood := { row := fnScriptTypeUptoRow, standIns := [], harness := (true, "83cbb0cd62058be143ed381e5b4f24a51f76c79cd9afad60458e965fa8a82df6"), looks := false }, kinds := [], alts := [], laidByText := true, laidKinds := [.data, .data, .data, .data, .listed, .data, .pinned, .pinned], laidTests := true, laidLooks := .later }
def FnScriptTypeUptoCardSaid : Prop := Claim7.holds Tryd.pinned (.plain (OpenSpec.upto fnScriptTypeSpec)) fnScriptTypeUptoCard
end Rows
end Go.Proofs.YteheelcppgjeaaaDoor
