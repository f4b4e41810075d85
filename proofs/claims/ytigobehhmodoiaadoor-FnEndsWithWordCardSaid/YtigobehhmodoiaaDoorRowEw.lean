/- The table of letters' cases, as a row lays it. -/
import Derived.Test.YtigobehhmodoiaaDoorRowL
import Derived.Test.YtigobehhmodoiaaDoorLowB
import Derived.Lib.LaidCase
namespace Go.Proofs.YtigobehhmodoiaaDoor
open Go.Lib
theorem casetab_of {l : List (String × DataW Unit)} {W : World} (h : laidMetH Tryd.prog l W) (hn : (l.all fun x => x.2.handleName?.isNone) = true)
    (h3 : ("unicode.CaseRanges", Rows.laid_unicode_CaseRanges) ∈ l) : CaseTab4 W := by
  have h' : laidMet Tryd.prog l W := Go.MakeChecks.laidMetH_plain Tryd.prog l W hn ▸ h
  have r := Lib.laidMet.reads h' h3
  rw [case_eq] at r
  exact caseVar_of_reads (ρ := Tryd.lays204_ren) { Tryd.lays204 with } Tryd.lays204.t206 ⟨by kernel_rfl, by kernel_rfl, by kernel_rfl, by kernel_rfl, by kernel_rfl, by kernel_rfl⟩ r
end Go.Proofs.YtigobehhmodoiaaDoor
