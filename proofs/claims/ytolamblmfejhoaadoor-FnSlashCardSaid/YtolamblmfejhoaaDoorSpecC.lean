/- The reference's Valid and word. -/
import Derived.Test.YtolamblmfejhoaaDoorSpecB
import Derived.Lib.IndexBytes
namespace Go.Proofs.YtolamblmfejhoaaDoor
open Go.RowKit
set_option linter.unusedVariables false
set_option linter.unusedSimpArgs false

theorem extract_end (s : ByteArray) (k : Nat) : (s.extract k s.size).data.toList = s.data.toList.drop k := by
  exact Lib.extract_to_end s k

theorem validGo_mono : ∀ (f g : Nat) (l : Bytes), l.length ≤ f → l.length ≤ g → validGo f l = validGo g l
  | 0, 0, l, _, _ => rfl
  | 0, g + 1, l, h, _ => by
    have : l = [] := List.eq_nil_of_length_eq_zero (by omega)
    subst this; rfl
  | f + 1, 0, l, _, h => by
    have : l = [] := List.eq_nil_of_length_eq_zero (by omega)
    subst this; rfl
  | f + 1, g + 1, l, h1, h2 => by
    unfold validGo
    by_cases hz : sizeL l = 0
    · simp [hz]
    · by_cases hl : l = []
      · subst hl; rfl
      · have : l.length ≠ 0 := fun h => hl (List.eq_nil_of_length_eq_zero h)
        rw [validGo_mono f g (l.drop (sizeL l)) (by rw [List.length_drop]; omega) (by rw [List.length_drop]; omega)]

theorem validL_step (l : Bytes) (h : l ≠ []) : validL l = (sizeL l != 0 && validL (l.drop (sizeL l))) := by
  have hl : l.length ≠ 0 := fun h' => h (List.eq_nil_of_length_eq_zero h')
  unfold validL
  obtain ⟨n, hn⟩ : ∃ n, l.length = n + 1 := ⟨l.length - 1, by omega⟩
  rw [hn]
  show (l.isEmpty || _) = _
  rw [List.isEmpty_eq_false_iff.2 h, Bool.false_or]
  by_cases hz : sizeL l = 0
  · simp [hz]
  · rw [validGo_mono n (l.drop (sizeL l)).length _ (by rw [List.length_drop]; omega) (Nat.le_refl _)]

theorem sizeL_le (l : Bytes) (h : l ≠ []) : sizeL l ≤ l.length := by
  have hl : l.length ≠ 0 := fun h' => h (List.eq_nil_of_length_eq_zero h')
  have h1 : 1 ≤ l.length := by omega
  clear hl h
  unfold sizeL decL Go.Lib.decodeN
  generalize at0 l 0 = b0, at0 l 1 = b1, at0 l 2 = b2, at0 l 3 = b3, l.length = n at *
  repeat' split
  all_goals simp_all
  all_goals omega

end Go.Proofs.YtolamblmfejhoaaDoor
