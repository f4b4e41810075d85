/-
  DERIVED. GIVEN WITH THE SEED: THE CARDS: each row of YtolamblmfejhoaaDoorRows.lean that lists a variable, with what it lists TIED to the program's text (the seventh form; the later family's looks); each row that meets fmt, with fmt's text TOLD by the authors' own Lean function (tested against real Go, not proved from fmt's source: count such statements apart). THE CARD IS WHAT COUNTS. Prove the row's statement (the work); the ties are given (YtolamblmfejhoaaDoorTie.lean); close each card by the builder's one call (the guide's Derived/Test/ToyasCard.lean, 'card_holds'). Laid BY PROGRAM, IN A SANDBOX (cutbox-door.mjs). By AI agents, Wed Nov 11 2026. No macro, syntax, notation, axiom, sorry.
-/
import Derived.Test.YtolamblmfejhoaaDoorRows
import GoSem.ClaimSeven
namespace Go.Proofs.YtolamblmfejhoaaDoor
namespace Rows

/-- THE TIED CARD OF 'laws.FnFiltered'. -/
def fnFilteredCard : Claim7 := { stood := { row := fnFilteredRow, standIns := [], harness := (true, "10bc4a8cfd6f956fd0df3f53d6b08479b24cfba1d540acd298f4b68b9768f20f"), looks := false }, kinds := [], alts := [], laidByText := true, laidKinds := [.data, .data, .data, .data, .data, .data, .pinned, .pinned], laidTests := true, laidLooks := .later }
def FnFilteredCardSaid : Prop := Claim7.holds Tryd.pinned (.plain (OpenSpec.ofChange fnFilteredSpec)) fnFilteredCard

/-- THE TIED CARD OF 'laws.FnSrcset'. -/
def fnSrcsetCard : Claim7 := { stood := { row := fnSrcsetRow, standIns := [], harness := (true, "10bc4a8cfd6f956fd0df3f53d6b08479b24cfba1d540acd298f4b68b9768f20f"), looks := false }, kinds := [], alts := [], laidByText := true, laidKinds := [.data, .data, .data, .data, .data, .data, .pinned, .pinned], laidTests := true, laidLooks := .later }
def FnSrcsetCardSaid : Prop := Claim7.holds Tryd.pinned (.plain (OpenSpec.ofChange fnSrcsetSpec)) fnSrcsetCard

/-- THE TIED CARD OF 'laws.FnSlash'. -/
def fnSlashCard : Claim7 := { stood := { row := fnSlashRow, standIns := [], harness := (true, "10bc4a8cfd6f956fd0df3f53d6b08479b24cfba1d540acd298f4b68b9768f20f"), looks := false }, kinds := [], alts := [], laidByText := true, laidKinds := [.data, .data, .data, .data, .pinned], laidTests := true, laidLooks := .later }
def FnSlashCardSaid : Prop := Claim7.holds Tryd.pinned (.plain (OpenSpec.ofChange fnSlashSpec)) fnSlashCard

/-- THE SECOND FORM's CARD OF 'laws.FnFiltered'. -/
def fnFilteredUptoCard : Claim7 := { stood := { row := fnFilteredUptoRow, standIns := [], harness := (true, "10bc4a8cfd6f956fd0df3f53d6b08479b24cfba1d540acd298f4b68b9768f20f"), looks := false }, kinds := [], alts := [], laidByText := true, laidKinds := [.data, .data, .data, .data, .data, .data, .pinned, .pinned], laidTests := true, laidLooks := .later }
def FnFilteredUptoCardSaid : Prop := Claim7.holds Tryd.pinned (.plain (OpenSpec.upto fnFilteredSpec)) fnFilteredUptoCard

/-- THE SECOND FORM's CARD OF 'laws.FnSrcset'. -/
def fnSrcsetUptoCard : Claim7 := { stood := { row := fnSrcsetUptoRow, standIns := [], harness := (true, "10bc4a8cfd6f956fd0df3f53d6b08479b24cfba1d540acd298f4b68b9768f20f"), looks := false }, kinds := [], alts := [], laidByText := true, laidKinds := [.data, .data, .data, .data, .data, .data, .pinned, .pinned], laidTests := true, laidLooks := .later }
def FnSrcsetUptoCardSaid : Prop := Claim7.holds Tryd.pinned (.plain (OpenSpec.upto fnSrcsetSpec)) fnSrcsetUptoCard

/-- THE SECOND FORM's CARD OF 'laws.FnSlash'. -/
def fnSlashUptoCard : Claim7 := { stood := { row := fnSlashUptoRow, standIns := [], harness := (true, "10bc4a8cfd6f956fd0df3f53d6b08479b24cfba1d540acd298f4b68b9768f20f"), looks := false }, kinds := [], alts := [], laidByText := true, laidKinds := [.data, .data, .data, .data, .pinned], laidTests := true, laidLooks := .later }
def FnSlashUptoCardSaid : Prop := Claim7.holds Tryd.pinned (.plain (OpenSpec.upto fnSlashSpec)) fnSlashUptoCard
end Rows
end Go.Proofs.YtolamblmfejhoaaDoor
