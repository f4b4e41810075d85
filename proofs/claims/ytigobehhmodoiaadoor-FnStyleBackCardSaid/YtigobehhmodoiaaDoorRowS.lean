/- What the rows' conditions give: the package's table of CSS. -/
import Derived.Test.YtigobehhmodoiaaDoorRowB
import Derived.Test.YtigobehhmodoiaaDoorCssA
namespace Go.Proofs.YtigobehhmodoiaaDoor
open Go.ChangeShapes Go.WideShapes Go.ChangeAt Go.RowKit Go.Shelf
set_option linter.unusedVariables false
set_option linter.unusedSimpArgs false

def cssList : List Bytes := (List.range 126).map cssTab
theorem csstab_of {l : List (String × DataW Unit)} {W : World} (h : laidMetH Tryd.prog l W) (hn : (l.all fun x => x.2.handleName?.isNone) = true)
    (hm : ("htmlescapers/pub/htmltemplate.cssReplacementTable", Rows.laid_htmlescapers_pub_htmltemplate_cssReplacementTable) ∈ l) : CssTab W := by
  have hr := Lib.laidMet.reads (laid_plain h hn) hm
  have e : (Rows.laid_htmlescapers_pub_htmltemplate_cssReplacementTable : DataW Unit) = .agg (cssList.map fun l => .lit (.string l)) := by kernel_rfl
  rw [e] at hr
  intro r hr32
  obtain ⟨v, h1, h2⟩ := strs_cell (t := 55) (e := 9) (m := 126) (by kernel_rfl) (by kernel_rfl) (by kernel_rfl) (by kernel_rfl) (by kernel_rfl) hr r hr32 (by decide +kernel)
  refine ⟨v, h1, ?_⟩
  rw [h2]
  have : ∀ r, r < 126 → cssList.getD r [] = cssTab r := by decide +kernel
  exact this r hr32
end Go.Proofs.YtigobehhmodoiaaDoor
