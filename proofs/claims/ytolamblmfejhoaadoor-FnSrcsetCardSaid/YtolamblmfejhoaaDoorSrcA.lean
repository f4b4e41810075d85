/- isHTMLSpace, isHTMLSpaceOrASCIIAlnum. -/
import Derived.Test.YtolamblmfejhoaaDoorCom
import Derived.Test.YtolamblmfejhoaaDoorLawR
namespace Go.Proofs.YtolamblmfejhoaaDoor
open Go.RowKit
set_option linter.unusedVariables false
set_option linter.unusedSimpArgs false

def bitT : ByteArray := ⟨#[0, 54, 0, 0, 1, 0, 255, 3, 254, 255, 255, 7, 254, 255, 255, 7]⟩
theorem bits_all : (List.range 128).all (fun c => (((0 : Int) != bits .and .u8 ((bitT.data.toList.getD (c / 8) 0).toNat : Int) ((2 ^ (c % 8) % 256 : Nat) : Int)) == (spB c || isAlnumB c))) = true := by decide +kernel
theorem bit_at (c : Nat) (hc : c < 128) (h : c / 8 < bitT.size) : ((0 : Int) != bits .and .u8 ((bitT[c / 8]'h).toNat : Int) ((2 ^ (c % 8) % 256 : Nat) : Int)) = (spB c || isAlnumB c) := by
  have h1 := List.all_eq_true.1 bits_all c (List.mem_range.2 hc)
  rw [beq_iff_eq] at h1
  have h2 : (bitT.data.toList.getD (c / 8) 0) = bitT[c / 8]'h := by
    rw [List.getD_eq_getElem?_getD, List.getElem?_eq_getElem (by simpa using h)]
    rfl
  rw [h2] at h1
  exact h1
theorem sp_noalnum (c : Nat) (h : c ≤ 32) : isAlnumB c = false := by
  unfold isAlnumB isAlphaB
  rw [Bool.eq_false_iff]; simp; omega
set_option maxRecDepth 100000 in
theorem htmlSpace_any (c : Nat) (hc : c < 256) (w : World) : Calls Tryd.prog 53 #[.int .u8 c] w fun e w' => e = .returned (.bool (spB c)) ∧ w = w' := by
  by_cases h : c ≤ 32
  · have h1 : (c : Int) ≤ 32 := by omega
    go_enter Tryd.func53, Tryd.ntmps53
    go_wp2
    go_ret
    refine ⟨ret_bool ?_, rfl⟩
    have h2 := bit_at c (by omega) (by show c / 8 < 16; omega)
    rw [sp_noalnum c h, Bool.or_false] at h2
    rw [← h2]
    rfl
  · have h1 : ¬ ((c : Int) ≤ 32) := by omega
    go_enter Tryd.func53, Tryd.ntmps53
    go_wp2
    go_ret
    refine ⟨ret_bool ?_, rfl⟩
    unfold spB
    simp
    omega
set_option maxRecDepth 100000 in
theorem htmlSpaceAlnum_any (c : Nat) (hc : c < 256) (w : World) : Calls Tryd.prog 54 #[.int .u8 c] w fun e w' => e = .returned (.bool (spB c || isAlnumB c)) ∧ w = w' := by
  by_cases h : c < 128
  · have h1 : (c : Int) < 128 := by omega
    go_enter Tryd.func54, Tryd.ntmps54
    go_wp2
    go_ret
    refine ⟨ret_bool ?_, rfl⟩
    have h2 := bit_at c (by omega) (by show c / 8 < 16; omega)
    rw [← h2]
    rfl
  · have h1 : ¬ ((c : Int) < 128) := by omega
    go_enter Tryd.func54, Tryd.ntmps54
    go_wp2
    go_ret
    refine ⟨ret_bool ?_, rfl⟩
    unfold spB isAlnumB isAlphaB
    simp
    omega
end Go.Proofs.YtolamblmfejhoaaDoor
