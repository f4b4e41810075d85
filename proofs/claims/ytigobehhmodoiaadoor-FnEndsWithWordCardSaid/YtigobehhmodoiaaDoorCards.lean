/-
  DERIVED. GIVEN WITH THE SEED: THE CARDS: each row of YtigobehhmodoiaaDoorRows.lean that lists a variable, with what it lists TIED to the program's text (the seventh form; the later family's looks); each row that meets fmt, with fmt's text TOLD by the authors' own Lean function (tested against real Go, not proved from fmt's source: count such statements apart). THE CARD IS WHAT COUNTS. Prove the row's statement (the work); the ties are given (YtigobehhmodoiaaDoorTie.lean); close each card by the builder's one call (the guide's Derived/Test/ToyasCard.lean, 'card_holds'). Laid BY PROGRAM, IN A SANDBOX (cutbox-door.mjs). By AI agents, Wed Nov 11 2026. No macro, syntax, notation, axiom, sorry.
-/
import Derived.Test.YtigobehhmodoiaaDoorRows
import GoSem.ClaimSeven
namespace Go.Proofs.YtigobehhmodoiaaDoor
namespace Rows

/-- THE TIED CARD OF 'laws.FnStyleString'. -/
def fnStyleStringCard : Claim7 := { stood := { row := fnStyleStringRow, standIns := [], harness := (true, "255561c9b44359653602bbae7a82449c36d40fd5f23e14d217abc71b2276da5d"), looks := false }, kinds := [], alts := [], laidByText := true, laidKinds := [.data, .data, .data, .data, .data, .pinned], laidTests := true, laidLooks := .later }
def FnStyleStringCardSaid : Prop := Claim7.holds Tryd.pinned (.plain (OpenSpec.ofChange fnStyleStringSpec)) fnStyleStringCard

/-- THE TIED CARD OF 'laws.FnStyleDecoded'. -/
def fnStyleDecodedCard : Claim7 := { stood := { row := fnStyleDecodedRow, standIns := [], harness := (true, "255561c9b44359653602bbae7a82449c36d40fd5f23e14d217abc71b2276da5d"), looks := false }, kinds := [], alts := [], laidByText := true, laidKinds := [.data, .data, .data, .data, .pinned], laidTests := true, laidLooks := .later }
def FnStyleDecodedCardSaid : Prop := Claim7.holds Tryd.pinned (.plain (OpenSpec.ofChange fnStyleDecodedSpec)) fnStyleDecodedCard

/-- THE TIED CARD OF 'laws.FnStyleBack'. -/
def fnStyleBackCard : Claim7 := { stood := { row := fnStyleBackRow, standIns := [], harness := (true, "255561c9b44359653602bbae7a82449c36d40fd5f23e14d217abc71b2276da5d"), looks := false }, kinds := [], alts := [], laidByText := true, laidKinds := [.data, .data, .data, .data, .data, .pinned], laidTests := true, laidLooks := .later }
def FnStyleBackCardSaid : Prop := Claim7.holds Tryd.pinned (.plain (OpenSpec.ofChange fnStyleBackSpec)) fnStyleBackCard

/-- THE TIED CARD OF 'laws.FnStyleValue'. -/
def fnStyleValueCard : Claim7 := { stood := { row := fnStyleValueRow, standIns := [], harness := (true, "255561c9b44359653602bbae7a82449c36d40fd5f23e14d217abc71b2276da5d"), looks := false }, kinds := [], alts := [], laidByText := true, laidKinds := [.data, .data, .data, .data, .pinned, .pinned], laidTests := true, laidLooks := .later }
def FnStyleValueCardSaid : Prop := Claim7.holds Tryd.pinned (.plain (OpenSpec.ofChange fnStyleValueSpec)) fnStyleValueCard

/-- THE TIED CARD OF 'laws.FnEndsWithWord'. -/
def fnEndsWithWordCard : Claim7 := { stood := { row := fnEndsWithWordRow, standIns := [], harness := (true, "255561c9b44359653602bbae7a82449c36d40fd5f23e14d217abc71b2276da5d"), looks := false }, kinds := [], alts := [], laidByText := true, laidKinds := [.data, .data, .data, .data, .pinned, .pinned], laidTests := true, laidLooks := .later }
def FnEndsWithWordCardSaid : Prop := Claim7.holds Tryd.pinned (.plain (OpenSpec.ofChange fnEndsWithWordSpec)) fnEndsWithWordCard

/-- THE TIED CARD OF 'laws.FnNormalized'. -/
def fnNormalizedCard : Claim7 := { stood := { row := fnNormalizedRow, standIns := [], harness := (true, "255561c9b44359653602bbae7a82449c36d40fd5f23e14d217abc71b2276da5d"), looks := false }, kinds := [], alts := [], laidByText := true, laidKinds := [.data, .data, .data, .data, .pinned], laidTests := true, laidLooks := .later }
def FnNormalizedCardSaid : Prop := Claim7.holds Tryd.pinned (.plain (OpenSpec.ofChange fnNormalizedSpec)) fnNormalizedCard

/-- THE TIED CARD OF 'laws.FnQuery'. -/
def fnQueryCard : Claim7 := { stood := { row := fnQueryRow, standIns := [], harness := (true, "255561c9b44359653602bbae7a82449c36d40fd5f23e14d217abc71b2276da5d"), looks := false }, kinds := [], alts := [], laidByText := true, laidKinds := [.data, .data, .data, .data, .pinned], laidTests := true, laidLooks := .later }
def FnQueryCardSaid : Prop := Claim7.holds Tryd.pinned (.plain (OpenSpec.ofChange fnQuerySpec)) fnQueryCard

/-- THE TIED CARD OF 'laws.FnFiltered'. -/
def fnFilteredCard : Claim7 := { stood := { row := fnFilteredRow, standIns := [], harness := (true, "255561c9b44359653602bbae7a82449c36d40fd5f23e14d217abc71b2276da5d"), looks := false }, kinds := [], alts := [], laidByText := true, laidKinds := [.data, .data, .data, .data, .data, .data, .pinned, .pinned], laidTests := true, laidLooks := .later }
def FnFilteredCardSaid : Prop := Claim7.holds Tryd.pinned (.plain (OpenSpec.ofChange fnFilteredSpec)) fnFilteredCard

/-- THE TIED CARD OF 'laws.FnSrcset'. -/
def fnSrcsetCard : Claim7 := { stood := { row := fnSrcsetRow, standIns := [], harness := (true, "255561c9b44359653602bbae7a82449c36d40fd5f23e14d217abc71b2276da5d"), looks := false }, kinds := [], alts := [], laidByText := true, laidKinds := [.data, .data, .data, .data, .data, .data, .pinned, .pinned], laidTests := true, laidLooks := .later }
def FnSrcsetCardSaid : Prop := Claim7.holds Tryd.pinned (.plain (OpenSpec.ofChange fnSrcsetSpec)) fnSrcsetCard

/-- THE TIED CARD OF 'laws.FnNamed'. -/
def fnNamedCard : Claim7 := { stood := { row := fnNamedRow, standIns := [], harness := (true, "255561c9b44359653602bbae7a82449c36d40fd5f23e14d217abc71b2276da5d"), looks := false }, kinds := [], alts := [], laidByText := true, laidKinds := [.data, .data, .data, .data, .pinned], laidTests := true, laidLooks := .later }
def FnNamedCardSaid : Prop := Claim7.holds Tryd.pinned (.plain (OpenSpec.ofChange fnNamedSpec)) fnNamedCard

/-- THE TIED CARD OF 'laws.FnNamespaces'. -/
def fnNamespacesCard : Claim7 := { stood := { row := fnNamespacesRow, standIns := [], harness := (true, "255561c9b44359653602bbae7a82449c36d40fd5f23e14d217abc71b2276da5d"), looks := false }, kinds := [], alts := [], laidByText := true, laidKinds := [.data, .data, .data, .data, .pinned], laidTests := true, laidLooks := .later }
def FnNamespacesCardSaid : Prop := Claim7.holds Tryd.pinned (.plain (OpenSpec.ofChange fnNamespacesSpec)) fnNamespacesCard

/-- THE TIED CARD OF 'laws.FnName'. -/
def fnNameCard : Claim7 := { stood := { row := fnNameRow, standIns := [], harness := (true, "255561c9b44359653602bbae7a82449c36d40fd5f23e14d217abc71b2276da5d"), looks := false }, kinds := [], alts := [], laidByText := true, laidKinds := [.data, .data, .data, .data, .pinned, .pinned], laidTests := true, laidLooks := .later }
def FnNameCardSaid : Prop := Claim7.holds Tryd.pinned (.plain (OpenSpec.ofChange fnNameSpec)) fnNameCard

/-- THE SECOND FORM's CARD OF 'laws.FnStyleString'. -/
def fnStyleStringUptoCard : Claim7 := { stood := { row := fnStyleStringUptoRow, standIns := [], harness := (true, "255561c9b44359653602bbae7a82449c36d40fd5f23e14d217abc71b2276da5d"), looks := false }, kinds := [], alts := [], laidByText := true, laidKinds := [.data, .data, .data, .data, .data, .pinned], laidTests := true, laidLooks := .later }
def FnStyleStringUptoCardSaid : Prop := Claim7.holds Tryd.pinned (.plain (OpenSpec.upto fnStyleStringSpec)) fnStyleStringUptoCard

/-- THE SECOND FORM's CARD OF 'laws.FnStyleDecoded'. -/
def fnStyleDecodedUptoCard : Claim7 := { stood := { row := fnStyleDecodedUptoRow, standIns := [], harness := (true, "255561c9b44359653602bbae7a82449c36d40fd5f23e14d217abc71b2276da5d"), looks := false }, kinds := [], alts := [], laidByText := true, laidKinds := [.data, .data, .data, .data, .pinned], laidTests := true, laidLooks := .later }
def FnStyleDecodedUptoCardSaid : Prop := Claim7.holds Tryd.pinned (.plain (OpenSpec.upto fnStyleDecodedSpec)) fnStyleDecodedUptoCard

/-- THE SECOND FORM's CARD OF 'laws.FnStyleBack'. -/
def fnStyleBackUptoCard : Claim7 := { stood := { row := fnStyleBackUptoRow, standIns := [], harness := (true, "255561c9b44359653602bbae7a82449c36d40fd5f23e14d217abc71b2276da5d"), looks := false }, kinds := [], alts := [], laidByText := true, laidKinds := [.data, .data, .data, .data, .data, .pinned], laidTests := true, laidLooks := .later }
def FnStyleBackUptoCardSaid : Prop := Claim7.holds Tryd.pinned (.plain (OpenSpec.upto fnStyleBackSpec)) fnStyleBackUptoCard

/-- THE SECOND FORM's CARD OF 'laws.FnStyleValue'. -/
def fnStyleValueUptoCard : Claim7 := { stood := { row := fnStyleValueUptoRow, standIns := [], harness := (true, "255561c9b44359653602bbae7a82449c36d40fd5f23e14d217abc71b2276da5d"), looks := false }, kinds := [], alts := [], laidByText := true, laidKinds := [.data, .data, .data, .data, .pinned, .pinned], laidTests := true, laidLooks := .later }
def FnStyleValueUptoCardSaid : Prop := Claim7.holds Tryd.pinned (.plain (OpenSpec.upto fnStyleValueSpec)) fnStyleValueUptoCard

/-- THE SECOND FORM's CARD OF 'laws.FnEndsWithWord'. -/
def fnEndsWithWordUptoCard : Claim7 := { stood := { row := fnEndsWithWordUptoRow, standIns := [], harness := (true, "255561c9b44359653602bbae7a82449c36d40fd5f23e14d217abc71b2276da5d"), looks := false }, kinds := [], alts := [], laidByText := true, laidKinds := [.data, .data, .data, .data, .pinned, .pinned], laidTests := true, laidLooks := .later }
def FnEndsWithWordUptoCardSaid : Prop := Claim7.holds Tryd.pinned (.plain (OpenSpec.upto fnEndsWithWordSpec)) fnEndsWithWordUptoCard

/-- THE SECOND FORM's CARD OF 'laws.FnNormalized'. -/
def fnNormalizedUptoCard : Claim7 := { stood := { row := fnNormalizedUptoRow, standIns := [], harness := (true, "255561c9b44359653602bbae7a82449c36d40fd5f23e14d217abc71b2276da5d"), looks := false }, kinds := [], alts := [], laidByText := true, laidKinds := [.data, .data, .data, .data, .pinned], laidTests := true, laidLooks := .later }
def FnNormalizedUptoCardSaid : Prop := Claim7.holds Tryd.pinned (.plain (OpenSpec.upto fnNormalizedSpec)) fnNormalizedUptoCard

/-- THE SECOND FORM's CARD OF 'laws.FnQuery'. -/
def fnQueryUptoCard : Claim7 := { stood := { row := fnQueryUptoRow, standIns := [], harness := (true, "255561c9b44359653602bbae7a82449c36d40fd5f23e14d217abc71b2276da5d"), looks := false }, kinds := [], alts := [], laidByText := true, laidKinds := [.data, .data, .data, .data, .pinned], laidTests := true, laidLooks := .later }
def FnQueryUptoCardSaid : Prop := Claim7.holds Tryd.pinned (.plain (OpenSpec.upto fnQuerySpec)) fnQueryUptoCard

/-- THE SECOND FORM's CARD OF 'laws.FnFiltered'. -/
def fnFilteredUptoCard : Claim7 := { stood := { row := fnFilteredUptoRow, standIns := [], harness := (true, "255561c9b44359653602bbae7a82449c36d40fd5f23e14d217abc71b2276da5d"), looks := false }, kinds := [], alts := [], laidByText := true, laidKinds := [.data, .data, .data, .data, .data, .data, .pinned, .pinned], laidTests := true, laidLooks := .later }
def FnFilteredUptoCardSaid : Prop := Claim7.holds Tryd.pinned (.plain (OpenSpec.upto fnFilteredSpec)) fnFilteredUptoCard

/-- THE SECOND FORM's CARD OF 'laws.FnSrcset'. -/
def fnSrcsetUptoCard : Claim7 := { stood := { row := fnSrcsetUptoRow, standIns := [], harness := (true, "255561c9b44359653602bbae7a82449c36d40fd5f23e14d217abc71b2276da5d"), looks := false }, kinds := [], alts := [], laidByText := true, laidKinds := [.data, .data, .data, .data, .data, .data, .pinned, .pinned], laidTests := true, laidLooks := .later }
def FnSrcsetUptoCardSaid : Prop := Claim7.holds Tryd.pinned (.plain (OpenSpec.upto fnSrcsetSpec)) fnSrcsetUptoCard

/-- THE SECOND FORM's CARD OF 'laws.FnNamed'. -/
def fnNamedUptoCard : Claim7 := { stood := { row := fnNamedUptoRow, standIns := [], harness := (true, "255561c9b44359653602bbae7a82449c36d40fd5f23e14d217abc71b2276da5d"), looks := false }, kinds := [], alts := [], laidByText := true, laidKinds := [.data, .data, .data, .data, .pinned], laidTests := true, laidLooks := .later }
def FnNamedUptoCardSaid : Prop := Claim7.holds Tryd.pinned (.plain (OpenSpec.upto fnNamedSpec)) fnNamedUptoCard

/-- THE SECOND FORM's CARD OF 'laws.FnNamespaces'. -/
def fnNamespacesUptoCard : Claim7 := { stood := { row := fnNamespacesUptoRow, standIns := [], harness := (true, "255561c9b44359653602bbae7a82449c36d40fd5f23e14d217abc71b2276da5d"), looks := false }, kinds := [], alts := [], laidByText := true, laidKinds := [.data, .data, .data, .data, .pinned], laidTests := true, laidLooks := .later }
def FnNamespacesUptoCardSaid : Prop := Claim7.holds Tryd.pinned (.plain (OpenSpec.upto fnNamespacesSpec)) fnNamespacesUptoCard

/-- THE SECOND FORM's CARD OF 'laws.FnName'. -/
def fnNameUptoCard : Claim7 := { stood := { row := fnNameUptoRow, standIns := [], harness := (true, "255561c9b44359653602bbae7a82449c36d40fd5f23e14d217abc71b2276da5d"), looks := false }, kinds := [], alts := [], laidByText := true, laidKinds := [.data, .data, .data, .data, .pinned, .pinned], laidTests := true, laidLooks := .later }
def FnNameUptoCardSaid : Prop := Claim7.holds Tryd.pinned (.plain (OpenSpec.upto fnNameSpec)) fnNameUptoCard
end Rows
end Go.Proofs.YtigobehhmodoiaaDoor
