/- The plain law of names that are filtered. No program is in sight here. -/
import Derived.Test.YtigobehhmodoiaaDoorLawN
import Derived.Lib.Case
namespace Go.Proofs.YtigobehhmodoiaaDoor
set_option linter.unusedVariables false
set_option linter.unusedSimpArgs false

def failName : Bytes := [90, 103, 111, 116, 109, 112, 108, 90]
def smallB (c : Nat) : Bool := (decide (48 ≤ c) && decide (c ≤ 57)) || (decide (97 ≤ c) && decide (c ≤ 122))
def smallL (l : Bytes) : Bool := l.all (fun b => smallB b.toNat)
def alnumL (l : Bytes) : Bool := l.all (fun b => isAlnumB b.toNat)
def asciiL (l : Bytes) : Bool := l.all (fun b => decide (b.toNat < 128))
/-- What the filter makes of a name. -/
def nameL (l : Bytes) : Bytes :=
  if l.isEmpty = true then failName
  else if (attrTypeL (Lib.toLowerA l) == 0) = true then (if smallL (Lib.toLowerA l) = true then Lib.toLowerA l else failName) else failName

theorem small_lower : ∀ n, n < 128 → smallB (Lib.lowerB (UInt8.ofNat n)).toNat = isAlnumB n := by decide +kernel
theorem small_lower' (b : UInt8) (h : b.toNat < 128) : smallB (Lib.lowerB b).toNat = isAlnumB b.toNat := by
  have := small_lower b.toNat h
  rwa [show UInt8.ofNat b.toNat = b by simp] at this
theorem smallL_lower : ∀ l : Bytes, asciiL l = true → smallL (Lib.toLowerA l) = alnumL l
  | [], _ => rfl
  | b :: t, h => by
    unfold asciiL at h
    simp only [List.all_cons, Bool.and_eq_true, decide_eq_true_eq] at h
    have ih := smallL_lower t (by unfold asciiL; exact h.2)
    unfold smallL alnumL Lib.toLowerA at *
    rw [List.map_cons, List.all_cons, List.all_cons, small_lower' b h.1, ih]
theorem lower_ascii : ∀ n, n < 128 → (Lib.lowerB (UInt8.ofNat n)).toNat < 128 := by decide +kernel
theorem asciiL_lower (l : Bytes) (h : asciiL l = true) : asciiL (Lib.toLowerA l) = true := by
  unfold asciiL at h ⊢
  rw [List.all_eq_true] at h ⊢
  intro b hb
  unfold Lib.toLowerA at hb
  obtain ⟨x, hx, rfl⟩ := List.mem_map.1 hb
  have h1 := h x hx
  simp only [decide_eq_true_eq] at h1 ⊢
  have := lower_ascii x.toNat h1
  rwa [show UInt8.ofNat x.toNat = x by simp] at this
/-- THE LAW OF NAMES. -/
theorem name_law (l : Bytes) (h : asciiL l = true) :
    nameL l = if (!l.isEmpty && alnumL l && (attrTypeL (Lib.toLowerA l) == 0)) = true then Lib.toLowerA l else failName := by
  unfold nameL
  rw [smallL_lower l h]
  cases l.isEmpty <;> cases alnumL l <;> cases (attrTypeL (Lib.toLowerA l) == 0) <;> rfl
end Go.Proofs.YtigobehhmodoiaaDoor
