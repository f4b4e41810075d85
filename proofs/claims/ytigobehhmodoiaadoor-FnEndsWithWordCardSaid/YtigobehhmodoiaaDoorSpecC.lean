/- The reference's Valid and word. -/
import Derived.Test.YtigobehhmodoiaaDoorSpecB
import Derived.Lib.IndexBytes
namespace Go.Proofs.YtigobehhmodoiaaDoor
open Go.RowKit
set_option linter.unusedVariables false
set_option linter.unusedSimpArgs false

theorem extract_end (s : ByteArray) (k : Nat) : (s.extract k s.size).data.toList = s.data.toList.drop k := by
  exact Lib.extract_to_end s k

theorem validGo_mono : ∀ (f g : Nat) (l : Bytes), l.length ≤ f → l.length ≤ g → validGo f l = validGo g l
  | 0, 0, l, _, _ => rfl
  | 0, g + 1, l, h, _ => by
    have : l = [] := List.eq_nil_of_length_eq_zero (by omega)
    subst this; rfl
  | f + 1, 0, l, _, h => by
    have : l = [] := List.eq_nil_of_length_eq_zero (by omega)
    subst this; rfl
  | f + 1, g + 1, l, h1, h2 => by
    unfold validGo
    by_cases hz : sizeL l = 0
    · simp [hz]
    · by_cases hl : l = []
      · subst hl; rfl
      · have : l.length ≠ 0 := fun h => hl (List.eq_nil_of_length_eq_zero h)
        rw [validGo_mono f g (l.drop (sizeL l)) (by rw [List.length_drop]; omega) (by rw [List.length_drop]; omega)]

theorem validL_step (l : Bytes) (h : l ≠ []) : validL l = (sizeL l != 0 && validL (l.drop (sizeL l))) := by
  have hl : l.length ≠ 0 := fun h' => h (List.eq_nil_of_length_eq_zero h')
  unfold validL
  obtain ⟨n, hn⟩ : ∃ n, l.length = n + 1 := ⟨l.length - 1, by omega⟩
  rw [hn]
  show (l.isEmpty || _) = _
  rw [List.isEmpty_eq_false_iff.2 h, Bool.false_or]
  by_cases hz : sizeL l = 0
  · simp [hz]
  · rw [validGo_mono n (l.drop (sizeL l)).length _ (by rw [List.length_drop]; omega) (Nat.le_refl _)]

theorem sizeL_le (l : Bytes) (h : l ≠ []) : sizeL l ≤ l.length := by
  have hl : l.length ≠ 0 := fun h' => h (List.eq_nil_of_length_eq_zero h')
  have h1 : 1 ≤ l.length := by omega
  clear hl h
  unfold sizeL decL Go.Lib.decodeN
  generalize at0 l 0 = b0, at0 l 1 = b1, at0 l 2 = b2, at0 l 3 = b3, l.length = n at *
  repeat' split
  all_goals simp_all
  all_goals omega

theorem valid_any (s : ByteArray) (w : World) (hs : s.size ≤ maxLen) :
    Calls Tryd.prog 15 #[.string s] w fun e w' => e = .returned (.bool (validL s.data.toList)) ∧ w = w' := by
  have hs0 := hs
  unfold maxLen at hs
  go_enter Tryd.func15, Tryd.ntmps15
  go_wp2_with fail
  go_loop [3] (fun i => ∃ k : Nat, k ≤ s.size ∧ i = .int .i64 k ∧ validL s.data.toList = validL (s.data.toList.drop k)) (fun i => s.size - (intOf i).toNat)
  case atStart => exact ⟨0, Nat.zero_le _, rfl, rfl⟩
  case round =>
    obtain ⟨k, hk, rfl, hf⟩ := hrel
    have H := Lib.hid hf; clear hf
    by_cases hlt : k < s.size
    · have hne : s.data.toList.drop k ≠ [] := by
        intro h; have := congrArg List.length h; simp at this; omega
      have hst := Lib.hid (validL_step _ hne)
      have hle := sizeL_le _ hne
      rw [List.length_drop] at hle
      have hlen : s.data.toList.length ≤ s.size := by simp
      obtain ⟨n, hn⟩ : ∃ n, n = sizeL (s.data.toList.drop k) := ⟨_, rfl⟩
      have hsz : (s.extract k s.size).size ≤ maxLen ∧ 0 < (s.extract k s.size).size := by simp; unfold maxLen; omega
      obtain ⟨hsz1, hsz2⟩ := hsz
      have hcon := fun wx => size_any (s.extract k s.size) wx hsz1 hsz2
      rw [extract_end, ← hn] at hcon
      rw [← hn] at hle
      have HC := Lib.hid hcon; clear hcon
      have hN := Lib.hid hn; clear hn
      by_cases hz : n = 0
      · subst hz
        go_wp2_with (go_at_call 43; refine (HC.out _).mono ?_; rintro e w' ⟨rfl, rfl⟩)
        go_ret
        refine ⟨ret_bool ?_, rfl⟩
        rw [H.out, hst.out, ← hN.out]; rfl
      · have hz' : ((n : Int) == 0) = false := by simp; omega
        have hup : (k : Int) + n ≤ s.size := by omega
        go_wp2_with (go_at_call 43; refine (HC.out _).mono ?_; rintro e w' ⟨rfl, rfl⟩)
        go_round
        case rel =>
          refine ⟨k + n, by omega, by go_num, ?_⟩
          rw [H.out, hst.out, ← hN.out, List.drop_drop]
          have : (n != 0) = true := by simp [hz]
          rw [this, Bool.true_and]
        case measure => simp [intOf]; omega
    · have HR : Hid (validL s.data.toList = true) := Lib.hid <| by
        rw [H.out, List.drop_of_length_le (by simp; omega)]; rfl
      go_wp2_with fail
      go_ret
      exact ⟨ret_bool HR.out.symm, rfl⟩
end Go.Proofs.YtigobehhmodoiaaDoor
