/- The reference's readers of URLs. -/
import Derived.Test.YtolamblmfejhoaaDoorSpHex
import Derived.Test.YtolamblmfejhoaaDoorLawU
import Derived.Test.YtolamblmfejhoaaDoorOwn
import Derived.Test.YtolamblmfejhoaaDoorChr
namespace Go.Proofs.YtolamblmfejhoaaDoor
open Go.RowKit
set_option linter.unusedVariables false
set_option linter.unusedSimpArgs false

def hexN (t : Bytes) : Nat := if encB t = true then hexV2 t else 0
theorem hexN_yes (t : Bytes) (h : encB t = true) : hexN t = hexV2 t := by unfold hexN; rw [if_pos h]
theorem hexN_no (t : Bytes) (h : encB t = false) : hexN t = 0 := by unfold hexN; rw [if_neg (by rw [h]; decide)]
theorem okL_or (P : Nat → Bool) (c : UInt8) (t : Bytes) (h : c.toNat ≠ 37) : okL P (c :: t) = (P c.toNat && okL P t) := by rw [okL_step, if_neg h]
theorem okL_pc (P : Nat → Bool) (c : UInt8) (t : Bytes) (h : c.toNat = 37) : okL P (c :: t) = (encB t && okL P (t.drop 2)) := by rw [okL_step, if_pos h]
theorem encB_len (t : Bytes) (h : encB t = true) : 2 ≤ t.length := by
  unfold encB at h
  simp only [Bool.and_eq_true, decide_eq_true_eq] at h
  exact h.1.1

end Go.Proofs.YtolamblmfejhoaaDoor
