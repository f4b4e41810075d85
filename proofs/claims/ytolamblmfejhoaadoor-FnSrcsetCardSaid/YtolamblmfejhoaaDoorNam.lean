/- The package's plain searches: zzIndex, zzCut, zzContains. -/
import Derived.Test.YtolamblmfejhoaaDoorCom
import Derived.Test.YtolamblmfejhoaaDoorLawN
import Derived.Lib.OthersKept
import Derived.LoopTactic
namespace Go.Proofs.YtolamblmfejhoaaDoor
open Go.RowKit
set_option linter.unusedVariables false
set_option linter.unusedSimpArgs false

theorem prefix_take (m l : Bytes) : m.isPrefixOf l = true ↔ l.take m.length = m := by
  rw [List.isPrefixOf_iff_prefix]
  constructor
  · rintro ⟨r, rfl⟩; simp
  · intro h
    have h2 := List.take_append_drop m.length l
    rw [h] at h2
    exact ⟨l.drop m.length, h2⟩
theorem extract_to (s : ByteArray) (k n : Nat) : (s.extract k (k + n)).data.toList = (s.data.toList.drop k).take n := by
  rw [Lib.extract_data]; simp [List.drop_take]

set_option maxRecDepth 100000 in
set_option maxHeartbeats 2000000 in
theorem zzIndex_any (s m : ByteArray) (w : World) (hs : (s.size : Int) ≤ 17179869184) (hm : (m.size : Int) ≤ 17179869184) (hm0 : 0 < m.size) :
    Calls Tryd.prog 52 #[.string s, .string m] w fun e w' => e = .returned (.int .i64 (idxI (idxL m.data.toList s.data.toList))) ∧ w = w' := by
  have HL : Hid (s.data.toList.length = s.size ∧ m.data.toList.length = m.size) := Lib.hid ⟨by simp, by simp⟩
  go_enter Tryd.func52, Tryd.ntmps52
  go_wp2_with fail
  go_loop [5] (fun i => ∃ k : Nat, (k : Int) ≤ s.size + 1 ∧ i = .int .i64 k ∧ Hid (idxL m.data.toList s.data.toList = (idxL m.data.toList (s.data.toList.drop k)).map (· + k))) (fun i => s.size + 1 - (intOf i).toNat)
  case atStart => exact ⟨0, by omega, rfl, Lib.hid (by simp)⟩
  case round =>
    obtain ⟨k, hk, rfl, H⟩ := hrel
    by_cases hle : (k : Int) + m.size ≤ s.size
    · have HPR : Hid (m.data.toList.isPrefixOf (s.data.toList.drop k) = true ↔ ((s.extract k (k + m.size)).toList = m.toList)) := Lib.hid <| by
        rw [Lib.toList_data, Lib.toList_data, extract_to, prefix_take, HL.out.2]
      by_cases p : (s.extract k (k + m.size)).toList = m.toList
      · have HR : Hid (idxI (idxL m.data.toList s.data.toList) = k) := Lib.hid <| by
          rw [H.out, idxL_here _ _ (HPR.out.2 p)]; simp [idxI]
        go_wp2_with fail
        go_ret
        exact ⟨ret_int HR.out.symm, rfl⟩
      · have HR : Hid (idxL m.data.toList s.data.toList = (idxL m.data.toList (s.data.toList.drop (k + 1))).map (· + (k + 1))) := Lib.hid <| by
          have hf : m.data.toList.isPrefixOf (s.data.toList.drop k) = false := by
            cases e : m.data.toList.isPrefixOf (s.data.toList.drop k)
            · rfl
            · exact absurd (HPR.out.1 e) p
          rw [H.out]
          by_cases hlt : k < s.size
          · rw [drop_cons s k hlt] at hf ⊢
            rw [idxL_next _ _ _ hf]
            cases idxL m.data.toList (s.data.toList.drop (k + 1)) with
            | none => rfl
            | some j => simp; omega
          · have h0 : m.data.toList = [] := List.eq_nil_of_length_eq_zero (by rw [HL.out.2]; omega)
            rw [h0] at hf
            exact absurd hf (by simp)
        have q2 : ((s.extract k (k + m.size)).toList == m.toList) = false := by rw [beq_eq_false_iff_ne]; exact p
        have q4 : ((s.extract k (k + m.size)).toList = m.toList) = False := eq_false p
        clear p HPR
        have HK : Hid ((k : Int) ≤ s.size) := Lib.hid (by omega)
        go_wp2_with fail
        go_round
        case rel => exact ⟨k + 1, by have := HK.out; omega, by go_num, HR⟩
        case measure => have := HK.out; simp [intOf]; omega
    · have HR : Hid (idxI (idxL m.data.toList s.data.toList) = -1) := Lib.hid <| by
        rw [H.out, idxL_short _ _ (by rw [List.length_drop, HL.out.1, HL.out.2]; omega)]; rfl
      go_wp2_with fail
      go_ret
      exact ⟨ret_int HR.out.symm, rfl⟩

end Go.Proofs.YtolamblmfejhoaaDoor
