/- Leaf functions of the reference: letters, digits. -/
import Derived.Test.YtolamblmfejhoaaDoorRows
import Derived.WalkKit
import Derived.WalkSpells
import Derived.WalkLawsBesides
import Derived.Outline
import Derived.Lib.Hide
import Derived.Test.YtolamblmfejhoaaDoorPlain
namespace Go.Proofs.YtolamblmfejhoaaDoor
open Go.RowKit


theorem ret_bool {a b : Bool} (h : a = b) : Ending.returned (.bool a) = .returned (.bool b) := by rw [h]

theorem isAlpha_any (c : Nat) (w : World) :
    Calls Tryd.prog 17 #[.int .u8 c] w fun e w' => e = .returned (.bool (isAlphaB c)) ∧ w = w' := by
  go_enter Tryd.func17, Tryd.ntmps17
  go_wp2
  all_goals
    go_ret
    refine ⟨ret_bool ?_, rfl⟩
    unfold isAlphaB
    rw [Bool.eq_iff_iff]
    simp
    omega

theorem isAlnum_any (c : Nat) (w : World) :
    Calls Tryd.prog 23 #[.int .u8 c] w fun e w' => e = .returned (.bool (isAlnumB c)) ∧ w = w' := by
  go_enter Tryd.func23, Tryd.ntmps23
  go_wp2_with (go_at_call 17; refine (isAlpha_any c _).mono ?_; rintro e w' ⟨rfl, rfl⟩)
  all_goals
    go_ret
    refine ⟨ret_bool ?_, rfl⟩
    unfold isAlnumB
    rw [Bool.eq_iff_iff]
    simp [*] <;> omega


theorem dig_ret {x y base : Int} (h : x = y) : Ending.returned (.tuple #[.int .i64 x, .bool (decide (x < base))]) = .returned (.tuple #[.int .i64 y, .bool (decide (y < base))]) := by rw [h]
theorem take_snoc (s : ByteArray) (k : Nat) (h : k < s.size) : s.data.toList.take (k + 1) = s.data.toList.take k ++ [s[k]] := by
  rw [List.take_succ_eq_append_getElem (by simpa using h)]; rfl

theorem has_any (s : ByteArray) (c : Nat) (w : World) (hs : s.size ≤ maxLen) :
    Calls Tryd.prog 9 #[.string s, .int .u8 c] w fun e w' => e = .returned (.bool (hasB s.data.toList c)) ∧ w = w' := by
  unfold maxLen at hs
  go_enter Tryd.func9, Tryd.ntmps9
  go_wp2
  go_loop [8] (fun i => ∃ k : Nat, k ≤ s.size ∧ i = .int .i64 k ∧ hasB (s.data.toList.take k) c = false) (fun i => s.size - (intOf i).toNat)
  case atStart => exact ⟨0, Nat.zero_le _, rfl, rfl⟩
  case round =>
    obtain ⟨k, hk, rfl, hf⟩ := hrel
    have H := Lib.hid hf; clear hf
    by_cases hlt : k < s.size
    · by_cases hc : s[k].toNat = c
      · have hb : ((s[k].toNat : Int) == (c : Int)) = true := by simp [hc]
        have HR : Hid (hasB s.data.toList c = true) := Lib.hid <| by
          have hm : s[k] ∈ s.data.toList := by
            have : s[k] ∈ s.data := Array.getElem_mem _
            simpa using this
          exact List.any_eq_true.2 ⟨s[k], hm, by simp [hc]⟩
        clear hc
        go_wp2
        go_ret
        exact ⟨ret_bool HR.out.symm, rfl⟩
      · have hb : ((s[k].toNat : Int) == (c : Int)) = false := by simp; omega
        have HR : Hid (hasB (s.data.toList.take (k + 1)) c = false) := Lib.hid <| by
          have h1 := H.out
          unfold hasB at h1 ⊢
          rw [take_snoc s k hlt, List.any_append, h1]
          simp [hc]
        clear hc
        go_wp2
        go_round
        case rel => exact ⟨k + 1, by omega, by go_num, HR.out⟩
        case measure => simp [intOf]; omega
    · have HR : Hid (hasB s.data.toList c = false) := Lib.hid <| by
        have h1 := H.out
        rwa [List.take_of_length_le (by simp; omega)] at h1
      go_wp2
      go_ret
      exact ⟨ret_bool HR.out.symm, rfl⟩
end Go.Proofs.YtolamblmfejhoaaDoor
