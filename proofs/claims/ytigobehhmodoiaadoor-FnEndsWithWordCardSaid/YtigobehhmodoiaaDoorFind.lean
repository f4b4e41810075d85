/- The reference's find and Contains. -/
import Derived.Test.YtigobehhmodoiaaDoorNam
namespace Go.Proofs.YtigobehhmodoiaaDoor
open Go.RowKit
set_option linter.unusedVariables false
set_option linter.unusedSimpArgs false

/-- The place where it stands, or the size. -/
def findI (o : Option Nat) (n : Nat) : Int := match o with | some i => (i : Int) | none => (n : Int)
set_option maxRecDepth 100000 in
set_option maxHeartbeats 2000000 in
theorem find_any (s m : ByteArray) (w : World) (hs : (s.size : Int) ≤ 17179869184) (hm : (m.size : Int) ≤ 17179869184) (hm0 : 0 < m.size) :
    Calls Tryd.prog 51 #[.string s, .int .i64 0, .string m] w fun e w' => e = .returned (.int .i64 (findI (idxL m.data.toList s.data.toList) s.size)) ∧ w = w' := by
  have HL : Hid (s.data.toList.length = s.size ∧ m.data.toList.length = m.size) := Lib.hid ⟨by simp, by simp⟩
  go_enter Tryd.func51, Tryd.ntmps51
  go_wp2_with fail
  go_loop [7] (fun i => ∃ k : Nat, (k : Int) ≤ s.size + 1 ∧ i = .int .i64 k ∧ Hid (idxL m.data.toList s.data.toList = (idxL m.data.toList (s.data.toList.drop k)).map (· + k))) (fun i => s.size + 1 - (intOf i).toNat)
  case atStart => exact ⟨0, by omega, rfl, Lib.hid (by simp)⟩
  case round =>
    obtain ⟨k, hk, rfl, H⟩ := hrel
    by_cases hle : (k : Int) + m.size ≤ s.size
    · have HPR : Hid (m.data.toList.isPrefixOf (s.data.toList.drop k) = true ↔ ((s.extract k (k + m.size)).toList = m.toList)) := Lib.hid <| by
        rw [Lib.toList_data, Lib.toList_data, extract_to, prefix_take, HL.out.2]
      by_cases p : (s.extract k (k + m.size)).toList = m.toList
      · have HR : Hid (findI (idxL m.data.toList s.data.toList) s.size = k) := Lib.hid <| by
          rw [H.out, idxL_here _ _ (HPR.out.2 p)]; simp [findI]
        go_wp2_with fail
        go_ret
        exact ⟨ret_int HR.out.symm, rfl⟩
      · have HR : Hid (idxL m.data.toList s.data.toList = (idxL m.data.toList (s.data.toList.drop (k + 1))).map (· + (k + 1))) := Lib.hid <| by
          have hf : m.data.toList.isPrefixOf (s.data.toList.drop k) = false := by
            cases e : m.data.toList.isPrefixOf (s.data.toList.drop k)
            · rfl
            · exact absurd (HPR.out.1 e) p
          rw [H.out]
          by_cases hlt : k < s.size
          · rw [drop_cons s k hlt] at hf ⊢
            rw [idxL_next _ _ _ hf]
            cases idxL m.data.toList (s.data.toList.drop (k + 1)) with
            | none => rfl
            | some j => simp; omega
          · have h0 : m.data.toList = [] := List.eq_nil_of_length_eq_zero (by rw [HL.out.2]; omega)
            rw [h0] at hf
            exact absurd hf (by simp)
        have q2 : ((s.extract k (k + m.size)).toList == m.toList) = false := by rw [beq_eq_false_iff_ne]; exact p
        have q4 : ((s.extract k (k + m.size)).toList = m.toList) = False := eq_false p
        clear p HPR
        have HK : Hid ((k : Int) ≤ s.size) := Lib.hid (by omega)
        go_wp2_with fail
        go_round
        case rel => exact ⟨k + 1, by have := HK.out; omega, by go_num, HR⟩
        case measure => have := HK.out; simp [intOf]; omega
    · have HR : Hid (findI (idxL m.data.toList s.data.toList) s.size = s.size) := Lib.hid <| by
        rw [H.out, idxL_short _ _ (by rw [List.length_drop, HL.out.1, HL.out.2]; omega)]; rfl
      go_wp2_with fail
      go_ret
      exact ⟨ret_int HR.out.symm, rfl⟩
set_option maxRecDepth 100000 in
theorem contains_any (s m : ByteArray) (w : World) (hs : (s.size : Int) ≤ 17179869184) (hm : (m.size : Int) ≤ 17179869184) (hm0 : 0 < m.size) :
    Calls Tryd.prog 26 #[.string s, .string m] w fun e w' => e = .returned (.bool (idxL m.data.toList s.data.toList).isSome) ∧ w = w' := by
  have HC := Lib.hid (fun w => find_any s m w hs hm hm0)
  have hlt : ∀ i, idxL m.data.toList s.data.toList = some i → i < s.size := by
    intro i hi
    have := idxL_lt _ _ i hi
    have e1 : s.data.toList.length = s.size := by simp
    have e2 : m.data.toList.length = m.size := by simp
    omega
  obtain ⟨o, ho⟩ : ∃ o, o = idxL m.data.toList s.data.toList := ⟨_, rfl⟩
  rw [← ho] at HC hlt ⊢
  clear ho
  have hm1 : (m.toList == []) = false := by
    rw [beq_eq_false_iff_ne, Lib.toList_data]; intro h; have e2 : m.data.toList.length = m.size := by simp
    have h9 : m.data.toList.length = 0 := by rw [h]; rfl
    omega
  have hm2 : (m.toList = []) = False := eq_false (by rw [beq_eq_false_iff_ne] at hm1; exact hm1)
  cases o with
  | none =>
    have e1 : findI none s.size = (s.size : Int) := rfl
    rw [e1] at HC
    clear hlt
    go_enter Tryd.func26, Tryd.ntmps26
    go_wp2_with (go_at_call 51; refine (HC.out _).mono ?_; rintro e w' ⟨rfl, rfl⟩)
    go_ret
    exact ⟨rfl, rfl⟩
  | some i =>
    have e1 : findI (some i) s.size = (i : Int) := rfl
    rw [e1] at HC
    have h3 : (i : Int) < s.size := by have := hlt i rfl; omega
    clear hlt
    go_enter Tryd.func26, Tryd.ntmps26
    go_wp2_with (go_at_call 51; refine (HC.out _).mono ?_; rintro e w' ⟨rfl, rfl⟩)
    go_ret
    exact ⟨rfl, rfl⟩
end Go.Proofs.YtigobehhmodoiaaDoor
