/- The package's plain searches in bytes: bytesIndex, bytesContains. -/
import Derived.Test.YtigobehhmodoiaaDoorNam
import Derived.Lib.SlBytesRow
import Derived.BigQuiet
namespace Go.Proofs.YtigobehhmodoiaaDoor
open Go.RowKit
set_option linter.unusedVariables false
set_option linter.unusedSimpArgs false

set_option maxRecDepth 100000 in
set_option maxHeartbeats 4000000 in
theorem bytesIndex_any (b o c b2 o2 c2 : Nat) (s m : ByteArray) (w : World) (hb : Lib.Bytes w b o s) (hb2 : Lib.Bytes w b2 o2 m)
    (hs : (s.size : Int) ≤ 17179869184) (hm : (m.size : Int) ≤ 17179869184) (hm0 : 0 < m.size) (hc : s.size ≤ c) (hcm : (c : Int) ≤ 9223372036854775807) :
    Calls Tryd.prog 119 #[.slice (some ⟨b, o, none⟩) s.size c, .slice (some ⟨b2, o2, none⟩) m.size c2] w
      fun e w' => e = .returned (.int .i64 (idxI (idxL m.data.toList s.data.toList))) ∧ ∃ n, w' = w.drewN n := by
  have HL : Hid (s.data.toList.length = s.size ∧ m.data.toList.length = m.size) := Lib.hid ⟨by simp, by simp⟩
  have HC1 : Hid (∀ n k, k + m.size ≤ s.size → (convert 34 9 (.slice (some ⟨b, o + k, none⟩) m.size (c - k))).run Tryd.prog (w.drewN n) = .ok (.string (s.extract k (k + m.size))) (w.drewN n)) := Lib.hid fun n k hk =>
    Lib.run_convert_window _ _ 5 _ Tryd.underlying34 Tryd.underlying5 Tryd.underlying9 b o s (hb.drewN n) k m.size (c - k) hk
  have HC2 : Hid (∀ n, (convert 34 9 (.slice (some ⟨b2, o2, none⟩) m.size c2)).run Tryd.prog (w.drewN n) = .ok (.string m) (w.drewN n)) := Lib.hid fun n => by
    have h := Lib.run_convert_window (w.drewN n) 34 5 9 Tryd.underlying34 Tryd.underlying5 Tryd.underlying9 b2 o2 m (hb2.drewN n) 0 m.size c2 (by omega)
    rw [Nat.add_zero, Nat.zero_add] at h
    rw [h]
    congr 2
    exact ba_ext (by rw [Lib.extract_data]; simp; exact List.take_of_length_le (by simp))
  clear hb hb2
  go_enter Tryd.func119, Tryd.ntmps119
  go_wp2_with fail
  go_loopw [5] (fun i wr => ∃ k n : Nat, (k : Int) ≤ s.size + 1 ∧ i = .int .i64 k ∧ wr = w.drewN n ∧ Hid (idxL m.data.toList s.data.toList = (idxL m.data.toList (s.data.toList.drop k)).map (· + k))) (fun i _ => s.size + 1 - (intOf i).toNat)
  case atStart => exact ⟨0, 0, by omega, rfl, rfl, Lib.hid (by simp)⟩
  case round =>
    obtain ⟨k, n, hk, rfl, rfl, H⟩ := hrel
    by_cases hle : (k : Int) + m.size ≤ s.size
    · have HPR : Hid (m.data.toList.isPrefixOf (s.data.toList.drop k) = true ↔ ((s.extract k (k + m.size)).toList = m.toList)) := Lib.hid <| by
        rw [Lib.toList_data, Lib.toList_data, extract_to, prefix_take, HL.out.2]
      have hc1 := fun n => HC1.out n k (by omega)
      have hc2 := HC2.out
      have f1 : (k : Int) + m.size ≤ c := by omega
      have f2 : (k : Int) ≤ c := by omega
      have f3 : (c = k) = False := eq_false (by omega)
      have f4 : (k : Int) ≤ (k : Int) + m.size := by omega
      have f5 : ((k : Int) + m.size).toNat = k + m.size := by omega
      have f6 : IntKind.i64.wrap ((k : Int) + m.size) = (k : Int) + m.size := IntWalk.i64_in _ (by omega)
      have f7 : (0 : Int) ≤ (k : Int) + m.size := by omega
      have f8 : k + m.size - k = m.size := by omega
      by_cases p : (s.extract k (k + m.size)).toList = m.toList
      · have HR : Hid (idxI (idxL m.data.toList s.data.toList) = k) := Lib.hid <| by
          rw [H.out, idxL_here _ _ (HPR.out.2 p)]; simp [idxI]
        go_wp2_with fail
        go_quiet (fail)
        go_wp2_with fail
        go_ret
        exact ⟨ret_int HR.out.symm, _, (by first | rfl | exact World.drewN_drewN ..)⟩
      · have HR : Hid (idxL m.data.toList s.data.toList = (idxL m.data.toList (s.data.toList.drop (k + 1))).map (· + (k + 1))) := Lib.hid <| by
          have hf : m.data.toList.isPrefixOf (s.data.toList.drop k) = false := by
            cases e : m.data.toList.isPrefixOf (s.data.toList.drop k)
            · rfl
            · exact absurd (HPR.out.1 e) p
          rw [H.out]
          have hlt : k < s.size := by omega
          rw [drop_cons s k hlt] at hf ⊢
          rw [idxL_next _ _ _ hf]
          cases idxL m.data.toList (s.data.toList.drop (k + 1)) with
          | none => rfl
          | some j => simp; omega
        have q2 : ((s.extract k (k + m.size)).toList == m.toList) = false := by rw [beq_eq_false_iff_ne]; exact p
        have q4 : ((s.extract k (k + m.size)).toList = m.toList) = False := eq_false p
        clear p HPR
        have HK : Hid ((k : Int) ≤ s.size) := Lib.hid (by omega)
        go_wp2_with fail
        go_quiet (fail)
        go_wp2_with fail
        go_roundw
        case rel => exact ⟨k + 1, _, by have := HK.out; omega, by go_num, rfl, HR⟩
        case measure => have := HK.out; simp [intOf]; omega
    · have HR : Hid (idxI (idxL m.data.toList s.data.toList) = -1) := Lib.hid <| by
        rw [H.out, idxL_short _ _ (by rw [List.length_drop, HL.out.1, HL.out.2]; omega)]; rfl
      go_wp2_with fail
      go_ret
      exact ⟨ret_int HR.out.symm, _, (by first | rfl | exact World.drewN_drewN ..)⟩
set_option maxRecDepth 100000 in
theorem bytesContains_any (b o c b2 o2 c2 : Nat) (s m : ByteArray) (w : World) (hb : Lib.Bytes w b o s) (hb2 : Lib.Bytes w b2 o2 m)
    (hs : (s.size : Int) ≤ 17179869184) (hm : (m.size : Int) ≤ 17179869184) (hm0 : 0 < m.size) (hc : s.size ≤ c) (hcm : (c : Int) ≤ 9223372036854775807) :
    Calls Tryd.prog 96 #[.slice (some ⟨b, o, none⟩) s.size c, .slice (some ⟨b2, o2, none⟩) m.size c2] w
      fun e w' => e = .returned (.bool (idxL m.data.toList s.data.toList).isSome) ∧ ∃ n, w' = w.drewN n := by
  have HC := Lib.hid (bytesIndex_any b o c b2 o2 c2 s m w hb hb2 hs hm hm0 hc hcm)
  obtain ⟨x, hx⟩ : ∃ x, x = idxL m.data.toList s.data.toList := ⟨_, rfl⟩
  rw [← hx] at HC ⊢
  clear hx hb hb2 hs hm hm0 hc hcm
  cases x with
  | none =>
    go_enter Tryd.func96, Tryd.ntmps96
    go_wp2_with (go_at_call 119; refine HC.out.mono ?_; rintro e w' ⟨rfl, n, rfl⟩)
    go_ret
    exact ⟨rfl, _, rfl⟩
  | some i =>
    have e1 : idxI (some i) = (i : Int) := rfl
    rw [e1] at HC
    go_enter Tryd.func96, Tryd.ntmps96
    go_wp2_with (go_at_call 119; refine HC.out.mono ?_; rintro e w' ⟨rfl, n, rfl⟩)
    go_ret
    exact ⟨by simp, _, rfl⟩
end Go.Proofs.YtigobehhmodoiaaDoor
