/- The reference's readers of UTF-8 and words. -/
import Derived.Test.YtolamblmfejhoaaDoorSpecA
namespace Go.Proofs.YtolamblmfejhoaaDoor
open Go.RowKit
set_option linter.unusedVariables false
set_option linter.unusedSimpArgs false

theorem ba_ext {a b : ByteArray} (h : a.data.toList = b.data.toList) : a = b := by
  cases a; cases b; simp only at h; rw [Array.toList_inj.1 h]

theorem at0_get (s : ByteArray) (k : Nat) (h : k < s.size) : at0 s.data.toList k = s[k].toNat := by
  have e : s.data.toList.getD k 0 = s[k] := by
    have h1 : k < s.data.toList.length := by simpa using h
    rw [List.getD_eq_getElem?_getD, List.getElem?_eq_getElem h1]; rfl
  unfold at0
  rw [e]

theorem mem_get (s : ByteArray) (k : Nat) (h : k < s.size) : s[k] ∈ s.data.toList := by
  have : s[k] ∈ s.data := Array.getElem_mem _
  simpa using this

theorem hasAny_any (s m : ByteArray) (w : World) (hs : s.size ≤ maxLen) (hm : m.size ≤ maxLen) :
    Calls Tryd.prog 11 #[.string s, .string m] w fun e w' => e = .returned (.bool (hasAnyB s.data.toList m.data.toList)) ∧ w = w' := by
  have hs0 := hs
  unfold maxLen at hs
  go_enter Tryd.func11, Tryd.ntmps11
  go_wp2
  go_loop [8] (fun i => ∃ k : Nat, k ≤ s.size ∧ i = .int .i64 k ∧ hasAnyB (s.data.toList.take k) m.data.toList = false) (fun i => s.size - (intOf i).toNat)
  case atStart => exact ⟨0, Nat.zero_le _, rfl, rfl⟩
  case round =>
    obtain ⟨k, hk, rfl, hf⟩ := hrel
    have H := Lib.hid hf; clear hf
    by_cases hlt : k < s.size
    · by_cases hc : hasB m.data.toList s[k].toNat = true
      · have HR : Hid (hasAnyB s.data.toList m.data.toList = true) := Lib.hid <| List.any_eq_true.2 ⟨s[k], mem_get s k hlt, hc⟩
        go_wp2_with (go_at_call 9; refine (has_any m _ _ hm).mono ?_; rintro e w' ⟨rfl, rfl⟩)
        go_ret
        exact ⟨ret_bool HR.out.symm, rfl⟩
      · have hc' : hasB m.data.toList s[k].toNat = false := by simpa using hc
        have HR : Hid (hasAnyB (s.data.toList.take (k + 1)) m.data.toList = false) := Lib.hid <| by
          have h1 := H.out
          unfold hasAnyB at h1 ⊢
          rw [take_snoc s k hlt, List.any_append, h1]
          simp [hc']
        clear hc
        go_wp2_with (go_at_call 9; refine (has_any m _ _ hm).mono ?_; rintro e w' ⟨rfl, rfl⟩)
        go_round
        case rel => exact ⟨k + 1, by omega, by go_num, HR.out⟩
        case measure => simp [intOf]; omega
    · have HR : Hid (hasAnyB s.data.toList m.data.toList = false) := Lib.hid <| by
        have h1 := H.out
        rwa [List.take_of_length_le (by simp; omega)] at h1
      go_wp2_with (go_at_call 9; refine (has_any m _ _ hm).mono ?_; rintro e w' ⟨rfl, rfl⟩)
      go_ret
      exact ⟨ret_bool HR.out.symm, rfl⟩


theorem ret_int {k : IntKind} {a b : Int} (h : a = b) : Ending.returned (.int k a) = .returned (.int k b) := by rw [h]

end Go.Proofs.YtolamblmfejhoaaDoor
