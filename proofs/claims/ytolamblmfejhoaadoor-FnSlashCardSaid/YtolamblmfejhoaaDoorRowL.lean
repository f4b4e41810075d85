/- What the rows' conditions want besides: a world that holds laid slices. -/
import Derived.Test.YtolamblmfejhoaaDoorRowKit
import Derived.Test.YtolamblmfejhoaaDoorShelf
import Derived.Lib.LaidCaseMet
import Derived.Deep.DeepWitnessRowRef
namespace Go.Proofs.YtolamblmfejhoaaDoor
set_option linter.unusedVariables false
set_option linter.unusedSimpArgs false

/-- A laid slice: its cells in a new block, its head in the variable. -/
def laySlice (T : TypeId) (h : Array Obj) (g : Nat) : DataW Unit → Array Obj
  | .slice es _ => (h.push (.cells (es.flatMap (flatC 4)).toArray T)).modify g fun
      | .cells _ t frozen => .cells #[.slice (some ⟨h.size, 0, none⟩) es.length es.length] t frozen
      | o => o
  | _ => h
/-- A laid pointer to a table of ranges. -/
def layRanges (T16 TR : TypeId) (h : Array Obj) (g : Nat) : DataW Unit → Array Obj
  | .ptr (.agg [.slice es _, .nil, .lit (.int k n)]) => ((h.push (.cells (es.flatMap (flatC 4)).toArray T16)).push (.cells #[.slice (some ⟨h.size, 0, none⟩) es.length es.length, .slice none 0 0, .int k n] TR)).modify g fun
      | .cells _ t frozen => .cells #[.pointer (some ⟨h.size + 1, 0, none⟩)] t frozen
      | o => o
  | _ => h
/-- Go's table of letters' cases, in a new block. -/
def layCase (T : TypeId) (h : Array Obj) (g : Nat) : Array Obj :=
  (h.push (.cells Lib.caseCells5 T)).modify g fun
    | .cells _ t frozen => .cells #[.slice (some ⟨h.size, 0, none⟩) 336 336] t frozen
    | o => o
theorem laidVars_split {P : Program} {w : World} : ∀ {l l' : List (String × DataW Unit)} {ps : List MemPlace}, DataW.LaidVars P w (l ++ l') ps → ∃ p q, ps = p ++ q ∧ DataW.LaidVars P w l p ∧ DataW.LaidVars P w l' q
  | [], l', ps, h => ⟨[], ps, rfl, rfl, h⟩
  | (n, d) :: r, l', ps, h => by
    obtain ⟨g, t, cs, fuel, p, q, h1, h2, h3, h4, h5, rfl⟩ := h
    obtain ⟨p', q', rfl, h6, h7⟩ := laidVars_split h5
    exact ⟨_, q', (List.append_assoc _ _ _).symm, ⟨g, t, cs, fuel, p, p', h1, h2, h3, h4, h6, rfl⟩, h7⟩
theorem laid_swap {P : Program} {w : World} {l1 l2 : List (String × DataW Unit)} {c : String × DataW Unit} (h : laidMet P ((l1 ++ l2) ++ [c]) w) : laidMet P (l1 ++ c :: l2) w := by
  obtain ⟨ps, hv, hn, hc⟩ := h
  obtain ⟨p12, p3, rfl, h12, h3⟩ := laidVars_split hv
  obtain ⟨p1, p2, rfl, h1, h2⟩ := laidVars_split h12
  have hp : (p1 ++ (p3 ++ p2)).Perm ((p1 ++ p2) ++ p3) := by
    rw [List.append_assoc]
    exact List.Perm.append_left p1 List.perm_append_comm
  refine ⟨p1 ++ (p3 ++ p2), LaidVars_append h1 (LaidVars_append (l := [c]) h3 h2), hp.nodup_iff.2 hn, fun b off hb => hc b off (hp.mem_iff.1 hb)⟩
/-- Where the search of letters' cases, and its table, stand in this program. -/
def ren274 : Go.Shelf.Ren := ⟨Tryd.lays274_ren.f, Tryd.lays274_ren.t, fun | 13 => 2 | n => n⟩
theorem rlays274 : Lays.n274 Tryd.prog ren274 := { Tryd.lays274 with }
theorem case206 : Tryd.prog.underlying (ren274.t 206) = some (.array 3 (ren274.t 21)) := by kernel_rfl
theorem case_eq : Rows.laid_unicode_CaseRanges = Lib.caseData := by kernel_rfl
end Go.Proofs.YtolamblmfejhoaaDoor
