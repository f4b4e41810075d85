/- Small words that the walks share. -/
import Derived.Test.YtolamblmfejhoaaDoorSpecC
namespace Go.Proofs.YtolamblmfejhoaaDoor
open Go.RowKit
set_option linter.unusedVariables false
set_option linter.unusedSimpArgs false

def RetStr (l : Bytes) (e : Ending) : Prop := ∃ v : ByteArray, e = .returned (.string v) ∧ v.data.toList = l
def RetStrB (l : Bytes) (b : Bool) (e : Ending) : Prop := ∃ v : ByteArray, e = .returned (.tuple #[.string v, .bool b]) ∧ v.data.toList = l

theorem extract_zero (s : ByteArray) (k : Nat) : (s.extract 0 k).data.toList = s.data.toList.take k := by
  rw [Lib.extract_data]; simp

theorem cell_new (w : World) (l : List Value) (T : TypeId) (i : Nat) (v : Value) (h : l[i]? = some v) :
    (w.alloc (.cells l.toArray T)).cell? ⟨w.heap.size, i, none⟩ = some v := by
  rw [World.cell?_alloc_new]; simpa using h

theorem drop_cons (s : ByteArray) (k : Nat) (h : k < s.size) : s.data.toList.drop k = s[k] :: s.data.toList.drop (k + 1) := by
  rw [List.drop_eq_getElem_cons (by simpa using h)]; rfl
theorem extract_get0 (s : ByteArray) (k : Nat) (h : k < s.size) (h0 : 0 < (s.extract k s.size).size) : (s.extract k s.size)[0] = s[k] := by
  have h1 := at0_get (s.extract k s.size) 0 h0
  rw [extract_end] at h1
  have h2 := at0_get s k h
  have h3 : at0 (s.data.toList.drop k) 0 = at0 s.data.toList k := by
    unfold at0; simp [List.getD_eq_getElem?_getD, List.getElem?_drop]
  rw [h3, h2] at h1
  exact (UInt8.toNat_inj.1 h1).symm

theorem Below.appended {B : Nat} {a w w' : World} {r : Option Nat} {o : Obj} (h : Below B a w) (hB : B ≤ w.heap.size) (hg : (w.alloc o).grownBy w' r) (hr : ∀ k, r = some k → B ≤ k) : Below B a w' := by
  have h1 := h.alloc hB o
  exact h1.grown hg (Nat.le_trans hB (by simp)) hr
theorem maxLen_of {s : ByteArray} (h : (s.size : Int) ≤ 17179869184) : s.size ≤ maxLen := by unfold maxLen; omega
theorem below_drew (w : World) (n : Nat) : Below w.heap.size w (w.drewN n) := ⟨rfl, rfl, rfl, Nat.le_refl _, fun _ _ => rfl⟩
theorem list_ne (s : ByteArray) (c : UInt8) (t : Bytes) (h : s.data.toList = c :: t) : s.toList.isEmpty = false ∧ (s.toList = []) = False ∧ s.size = t.length + 1 := by
  rw [Lib.toList_data, h]
  refine ⟨rfl, by simp, ?_⟩
  have := congrArg List.length h
  simpa using this
theorem get_list (s : ByteArray) (k : Nat) (hk : k < s.size) : s[k].toNat = at0 s.data.toList k := (at0_get s k hk).symm
theorem extract_mid0 (s : ByteArray) (b : Nat) : (s.extract 0 b).data.toList = s.data.toList.take b := by
  rw [Lib.extract_data]; simp
end Go.Proofs.YtolamblmfejhoaaDoor
