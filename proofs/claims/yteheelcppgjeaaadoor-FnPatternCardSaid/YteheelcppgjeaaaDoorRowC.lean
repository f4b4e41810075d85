/- What the rows' conditions give: the package's table of the characters below 32. -/
import Derived.Test.YteheelcppgjeaaaDoorRowB
import Derived.Test.YteheelcppgjeaaaDoorJsD
namespace Go.Proofs.YteheelcppgjeaaaDoor
open Go.ChangeShapes Go.WideShapes Go.ChangeAt Go.RowKit Go.Shelf
set_option linter.unusedVariables false
set_option linter.unusedSimpArgs false

/-- A laid table of strings, cell for cell. -/
theorem strs_cell {W : World} {n : String} {L : List Bytes} {g : Nat} {t e : TypeId} {m : Nat} (hg : Tryd.prog.globalNamed n = some g) (hty : (Tryd.prog.globals[g]?).map (·.type) = some t) (ht : Tryd.prog.underlying t = some (.array m e)) (he : Tryd.prog.underlying e = some .string) (hce : Tryd.prog.cellsOf e = 1)
    (h : Lib.VarReads Tryd.prog W n (.agg (L.map fun l => .lit (.string l)))) (i : Nat) (hi : i < m) (hm : L.length = m) : ∃ v : ByteArray, W.cell? ⟨g, i, none⟩ = some (.string v) ∧ v.data.toList = L.getD i [] := by
  obtain ⟨g', t', cs, fuel, p, hg', ht', hvar, hd⟩ := h
  obtain rfl := Option.some.inj (hg.symm.trans hg')
  obtain rfl := Option.some.inj (hty.symm.trans ht')
  obtain ⟨fuel', d, q, h1, h2⟩ := Lib.array_elem ht hd i hi
  obtain ⟨v, hv, hz, hw⟩ := DataW.trod_string he h2
  refine ⟨v, ?_, ?_⟩
  · have h3 := World.var?_cell hg hvar i
    rw [h3, ← Array.getElem?_toList]
    have h4 := congrArg (·[0]?) hv
    rw [hce, Nat.mul_one] at h4
    simpa [List.getElem?_take, List.getElem?_drop] using h4
  · have h5 : (L.map fun l => (DataW.lit (.string l) : DataW Unit))[i]? = some (.lit (.string (L.getD i []))) := by
      simp [List.getElem?_eq_getElem (hm ▸ hi), List.getD]
    rw [h5] at h1
    have h6 := Option.some.inj h1
    have h7 : d = .lit (.string v.data.toList) := congrArg Prod.fst hz
    rw [h7] at h6
    simpa using h6.symm
def lowList : List Bytes := (List.range 32).map lowTab
theorem lows_of {l : List (String × DataW Unit)} {W : World} (h : laidMetH Tryd.prog l W) (hn : (l.all fun x => x.2.handleName?.isNone) = true)
    (hm : ("htmlescapers/pub/htmltemplate.lowUnicodeReplacementTable", Rows.laid_htmlescapers_pub_htmltemplate_lowUnicodeReplacementTable) ∈ l) : Lows W := by
  have hr := Lib.laidMet.reads (laid_plain h hn) hm
  have e : (Rows.laid_htmlescapers_pub_htmltemplate_lowUnicodeReplacementTable : DataW Unit) = .agg (lowList.map fun l => .lit (.string l)) := by kernel_rfl
  rw [e] at hr
  intro r hr32
  obtain ⟨v, h1, h2⟩ := strs_cell (t := 83) (e := 9) (m := 32) (by kernel_rfl) (by kernel_rfl) (by kernel_rfl) (by kernel_rfl) (by kernel_rfl) hr r hr32 (by decide)
  refine ⟨v, h1, ?_⟩
  rw [h2]
  have : ∀ r, r < 32 → lowList.getD r [] = lowTab r := by decide +kernel
  exact this r hr32
end Go.Proofs.YteheelcppgjeaaaDoor
