/- What the rows' conditions give besides: tables of numbers and of strings. -/
import Derived.Test.YtolamblmfejhoaaDoorRowKit
import Derived.Test.YtolamblmfejhoaaDoorHex
namespace Go.Proofs.YtolamblmfejhoaaDoor
open Go.ChangeShapes Go.WideShapes Go.ChangeAt Go.RowKit Go.Shelf
set_option linter.unusedVariables false
set_option linter.unusedSimpArgs false

theorem laid_plain {l : List (String × DataW Unit)} {W : World} (h : laidMetH Tryd.prog l W) (hn : (l.all fun x => x.2.handleName?.isNone) = true) : laidMet Tryd.prog l W :=
  Go.MakeChecks.laidMetH_plain Tryd.prog l W hn ▸ h
/-- A laid table of numbers, cell for cell. -/
theorem tab_cell {W : World} {n : String} {k : IntKind} {zs : List Int} {g : Nat} {t e : TypeId} {m : Nat} (hg : Tryd.prog.globalNamed n = some g) (hty : (Tryd.prog.globals[g]?).map (·.type) = some t) (ht : Tryd.prog.underlying t = some (.array m e)) (he : Tryd.prog.underlying e = some (.int k)) (hce : Tryd.prog.cellsOf e = 1) (hct : Tryd.prog.cellsOf t = m)
    (h : Lib.VarReads Tryd.prog W n (Lib.tabData k zs)) (i : Nat) (hi : i < zs.length) : W.cell? ⟨g, i, none⟩ = some (.int k (zs.getD i 0)) := by
  obtain ⟨g', t', cs, fuel, p, hg', ht', hvar, hd⟩ := h
  obtain rfl := Option.some.inj (hg.symm.trans hg')
  obtain rfl := Option.some.inj (hty.symm.trans ht')
  have hcs := Lib.cells_of_tab ht he hce hct hd
  have h1 : Lib.TabIs Tryd.prog W n k zs := by
    unfold Lib.TabIs
    rw [hvar, ← hcs]
  exact h1.cell hg i hi
def deBruijn : List Int := [0, 1, 56, 2, 57, 49, 28, 3, 61, 58, 42, 50, 38, 29, 17, 4, 62, 47, 59, 36, 45, 43, 51, 22, 53, 39, 33, 30, 24, 18, 12, 5, 63, 55, 48, 27, 60, 41, 37, 16, 46, 35, 44, 21, 52, 32, 23, 11, 54, 26, 40, 15, 34, 20, 31, 10, 25, 14, 19, 9, 13, 8, 7, 6]
theorem bruijn_of {l : List (String × DataW Unit)} {W : World} (h : laidMetH Tryd.prog l W) (hn : (l.all fun x => x.2.handleName?.isNone) = true)
    (hm : ("math/bits.deBruijn64tab", Rows.laid_math_bits_deBruijn64tab) ∈ l) : Bruijn W := by
  have hr := Lib.laidMet.reads (laid_plain h hn) hm
  have e : (Rows.laid_math_bits_deBruijn64tab : DataW Unit) = Lib.tabData .u8 deBruijn := by kernel_rfl
  rw [e] at hr
  exact tab_cell (t := 117) (e := 5) (m := 64) (by kernel_rfl) (by kernel_rfl) (by kernel_rfl) (by kernel_rfl) (by kernel_rfl) (by kernel_rfl) hr 15 (by decide)
/-- A laid table of strings, cell for cell. -/
theorem strs_cell {W : World} {n : String} {L : List Bytes} {g : Nat} {t e : TypeId} {m : Nat} (hg : Tryd.prog.globalNamed n = some g) (hty : (Tryd.prog.globals[g]?).map (·.type) = some t) (ht : Tryd.prog.underlying t = some (.array m e)) (he : Tryd.prog.underlying e = some .string) (hce : Tryd.prog.cellsOf e = 1)
    (h : Lib.VarReads Tryd.prog W n (.agg (L.map fun l => .lit (.string l)))) (i : Nat) (hi : i < m) (hm : L.length = m) : ∃ v : ByteArray, W.cell? ⟨g, i, none⟩ = some (.string v) ∧ v.data.toList = L.getD i [] := by
  obtain ⟨g', t', cs, fuel, p, hg', ht', hvar, hd⟩ := h
  obtain rfl := Option.some.inj (hg.symm.trans hg')
  obtain rfl := Option.some.inj (hty.symm.trans ht')
  obtain ⟨fuel', d, q, h1, h2⟩ := Lib.array_elem ht hd i hi
  obtain ⟨v, hv, hz, hw⟩ := DataW.trod_string he h2
  refine ⟨v, ?_, ?_⟩
  · have h3 := World.var?_cell hg hvar i
    rw [h3, ← Array.getElem?_toList]
    have h4 := congrArg (·[0]?) hv
    rw [hce, Nat.mul_one] at h4
    simpa [List.getElem?_take, List.getElem?_drop] using h4
  · have h5 : (L.map fun l => (DataW.lit (.string l) : DataW Unit))[i]? = some (.lit (.string (L.getD i []))) := by
      simp [List.getElem?_eq_getElem (hm ▸ hi), List.getD]
    rw [h5] at h1
    have h6 := Option.some.inj h1
    have h7 : d = .lit (.string v.data.toList) := congrArg Prod.fst hz
    rw [h7] at h6
    simpa using h6.symm
end Go.Proofs.YtolamblmfejhoaaDoor
