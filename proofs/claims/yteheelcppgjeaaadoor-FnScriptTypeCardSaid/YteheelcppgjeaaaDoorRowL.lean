/- What the rows' conditions want besides: a world that holds laid slices. -/
import Derived.Test.YteheelcppgjeaaaDoorRowKit
namespace Go.Proofs.YteheelcppgjeaaaDoor
set_option linter.unusedVariables false
set_option linter.unusedSimpArgs false

/-- A laid slice: its cells in a new block, its head in the variable. -/
def laySlice (T : TypeId) (h : Array Obj) (g : Nat) : DataW Unit → Array Obj
  | .slice es _ => (h.push (.cells (es.flatMap (flatC 4)).toArray T)).modify g fun
      | .cells _ t frozen => .cells #[.slice (some ⟨h.size, 0, none⟩) es.length es.length] t frozen
      | o => o
  | _ => h
/-- A laid pointer to a table of ranges. -/
def layRanges (T16 TR : TypeId) (h : Array Obj) (g : Nat) : DataW Unit → Array Obj
  | .ptr (.agg [.slice es _, .nil, .lit (.int k n)]) => ((h.push (.cells (es.flatMap (flatC 4)).toArray T16)).push (.cells #[.slice (some ⟨h.size, 0, none⟩) es.length es.length, .slice none 0 0, .int k n] TR)).modify g fun
      | .cells _ t frozen => .cells #[.pointer (some ⟨h.size + 1, 0, none⟩)] t frozen
      | o => o
  | _ => h
end Go.Proofs.YteheelcppgjeaaaDoor
