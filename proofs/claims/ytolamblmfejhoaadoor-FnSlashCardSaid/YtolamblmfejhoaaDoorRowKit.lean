/- What every row of this seat shares: the tables that start-up code lays, a world that holds them. -/
import Derived.Test.YtolamblmfejhoaaDoorHtmlB
import Derived.Test.YtolamblmfejhoaaDoorCards
import Derived.Test.YtolamblmfejhoaaDoorTie
import Derived.ProofKit
import Derived.OpenShut
import Derived.ShutString
import Derived.ChangeOld
import Derived.Deep.DeepHandedRow
import Derived.Lib.LaidTab
import Derived.Lib.LaidU8
import Derived.MakeChecks
namespace Go.Proofs.YtolamblmfejhoaaDoor
open Go.ChangeShapes Go.WideShapes Go.ChangeAt Go.RowKit Go.Shelf
open Go.ChangeMaps (open_string shut_string)
set_option linter.unusedVariables false
set_option linter.unusedSimpArgs false

theorem own : ownKnob Tryd.prog.godebug = none := by kernel_rfl
theorem u8Extra : U8Extra Tryd.prog Tryd.lays260_ren :=
  ⟨by kernel_rfl, by kernel_rfl, by kernel_rfl, by kernel_rfl, by kernel_rfl, by kernel_rfl, by kernel_rfl⟩
theorem first_eq : Rows.laid_unicode_utf8_first = Lib.firstData := by kernel_rfl
theorem accept_eq : (Rows.laid_unicode_utf8_acceptRanges : DataW Unit) = Lib.acceptData := by kernel_rfl
theorem tabs_of {l : List (String × DataW Unit)} {W : World} (h : laidMetH Tryd.prog l W) (hn : (l.all fun x => x.2.handleName?.isNone) = true)
    (h3 : ("unicode/utf8.first", Rows.laid_unicode_utf8_first) ∈ l) (h4 : ("unicode/utf8.acceptRanges", Rows.laid_unicode_utf8_acceptRanges) ∈ l) : Tabs W := by
  have h' : laidMet Tryd.prog l W := Go.MakeChecks.laidMetH_plain Tryd.prog l W hn ▸ h
  have r3 := Lib.laidMet.reads h' h3
  have r4 := Lib.laidMet.reads h' h4
  rw [first_eq] at r3
  rw [accept_eq] at r4
  exact utf8Tabs_of_reads Tryd.lays260 u8Extra r3 r4

/-- The cells of a datum of numbers and strings. -/
def flatC : Nat → DataW Unit → List Value
  | 0, _ => []
  | _ + 1, .lit (.int k n) => [.int k n]
  | _ + 1, .lit (.string bs) => [.string ⟨bs.toArray⟩]
  | f + 1, .agg ps => ps.flatMap (flatC f)
  | _ + 1, _ => []
def layOne (h : Array Obj) (g : Nat) (d : DataW Unit) : Array Obj :=
  h.modify g fun
    | .cells _ t frozen => .cells (flatC 4 d).toArray t frozen
    | o => o
end Go.Proofs.YtolamblmfejhoaaDoor
