/- The reference's readers of URLs. -/
import Derived.Test.YtigobehhmodoiaaDoorSpHex
import Derived.Test.YtigobehhmodoiaaDoorLawU
import Derived.Test.YtigobehhmodoiaaDoorOwn
import Derived.Test.YtigobehhmodoiaaDoorChr
namespace Go.Proofs.YtigobehhmodoiaaDoor
open Go.RowKit
set_option linter.unusedVariables false
set_option linter.unusedSimpArgs false

def hexN (t : Bytes) : Nat := if encB t = true then hexV2 t else 0
theorem hexN_yes (t : Bytes) (h : encB t = true) : hexN t = hexV2 t := by unfold hexN; rw [if_pos h]
theorem hexN_no (t : Bytes) (h : encB t = false) : hexN t = 0 := by unfold hexN; rw [if_neg (by rw [h]; decide)]
theorem hex2_any (s : ByteArray) (w : World) (hs : s.size ≤ maxLen) :
    Calls Tryd.prog 58 #[.string s, .int .i64 2] w fun e w' => e = .returned (.tuple #[.int .i64 (hexN s.data.toList), .bool (encB s.data.toList)]) ∧ w = w' := by
  have hL : s.data.toList.length = s.size := by simp
  by_cases hl : 2 ≤ s.size
  · have e0 : at0 s.data.toList 0 = s[0].toNat := at0_get s 0 (by omega)
    have e1 : at0 s.data.toList 1 = s[1].toNat := at0_get s 1 (by omega)
    by_cases h0 : digitV s[0].toNat < 16
    · by_cases h1 : digitV s[1].toNat < 16
      · have he : encB s.data.toList = true := by unfold encB hexB; rw [hL, e0, e1]; simp; exact ⟨⟨hl, h0⟩, h1⟩
        have h := hex_ok s 2 (by omega) hl (fun k hk hk2 => by
          match k, hk2 with
          | 0, _ => exact h0
          | 1, _ => exact h1) w hs
        have hf : hexFold (s.data.toList.take 2) = hexV2 s.data.toList := by
          unfold hexV2
          match hm : s.data.toList, (by rw [hL]; omega : 2 ≤ s.data.toList.length) with
          | a :: b :: t, _ => rw [at0_c0, at0_c1]; simp [hexFold]
        rw [hexN_yes _ he, he, ← hf]
        exact h
      · have he : encB s.data.toList = false := by
          unfold encB hexB; rw [hL, e0, e1, Bool.and_eq_false_iff]; right; rw [decide_eq_false_iff_not]; exact h1
        rw [hexN_no _ he, he]
        exact hex_bad1 s hl h0 (by omega) w hs
    · have he : encB s.data.toList = false := by
        unfold encB hexB; rw [hL, e0, e1, Bool.and_eq_false_iff]; left; rw [Bool.and_eq_false_iff]; right; rw [decide_eq_false_iff_not]; exact h0
      rw [hexN_no _ he, he]
      exact hex_bad0 s hl (by omega) (by omega) w hs
  · have he : encB s.data.toList = false := by
      unfold encB; rw [hL, Bool.and_eq_false_iff]; left; rw [Bool.and_eq_false_iff]; left; rw [decide_eq_false_iff_not]; exact hl
    rw [hexN_no _ he, he]
    exact hex_short s 2 (by omega) w hs

theorem encoded_any (s : ByteArray) (k : Nat) (hk : k < s.size) (w : World) (hs : s.size ≤ maxLen) :
    Calls Tryd.prog 55 #[.string s, .int .i64 k] w fun e w' => e = .returned (.bool (encB (s.data.toList.drop (k + 1)))) ∧ w = w' := by
  have hcon := fun w => hex2_any (s.extract (k + 1) s.size) w (by unfold maxLen at hs ⊢; simp; omega)
  rw [extract_end] at hcon
  have HC := Lib.hid hcon; clear hcon
  have hk1 : (k : Int) + 1 ≤ s.size := by omega
  unfold maxLen at hs
  go_enter Tryd.func55, Tryd.ntmps55
  go_wp2_with (go_at_call 58; refine (HC.out _).mono ?_; rintro e w' ⟨rfl, rfl⟩)
  go_ret
  exact ⟨rfl, rfl⟩

theorem unreserved_any (c : Nat) (w : World) :
    Calls Tryd.prog 56 #[.int .u8 c] w fun e w' => e = .returned (.bool (unresB c)) ∧ w = w' := by
  go_enter Tryd.func56, Tryd.ntmps56
  go_wp2_with (go_at_call 50; refine (isAlnum_any c _).mono ?_; rintro e w' ⟨rfl, rfl⟩)
  all_goals
    go_ret
    refine ⟨ret_bool ?_, rfl⟩
    unfold unresB
    rw [Bool.eq_iff_iff]
    simp [*] <;> omega
theorem reserved_any (c : Nat) (w : World) :
    Calls Tryd.prog 57 #[.int .u8 c] w fun e w' => e = .returned (.bool (hasB resSet c)) ∧ w = w' := by
  have H := Lib.hid (fun w => has_any ⟨#[58, 47, 63, 35, 91, 93, 64, 33, 36, 38, 39, 40, 41, 42, 43, 44, 59, 61]⟩ c w (by decide))
  go_enter Tryd.func57, Tryd.ntmps57
  go_wp2_with (go_at_call 16; refine (H.out _).mono ?_; rintro e w' ⟨rfl, rfl⟩)
  go_ret
  exact ⟨rfl, rfl⟩

theorem okL_or (P : Nat → Bool) (c : UInt8) (t : Bytes) (h : c.toNat ≠ 37) : okL P (c :: t) = (P c.toNat && okL P t) := by rw [okL_step, if_neg h]
theorem okL_pc (P : Nat → Bool) (c : UInt8) (t : Bytes) (h : c.toNat = 37) : okL P (c :: t) = (encB t && okL P (t.drop 2)) := by rw [okL_step, if_pos h]
theorem encB_len (t : Bytes) (h : encB t = true) : 2 ≤ t.length := by
  unfold encB at h
  simp only [Bool.and_eq_true, decide_eq_true_eq] at h
  exact h.1.1

set_option maxRecDepth 100000 in
set_option maxHeartbeats 4000000 in
theorem quoted_any (s : ByteArray) (w : World) (hs : s.size ≤ maxLen) :
    Calls Tryd.prog 34 #[.string s] w fun e w' => e = .returned (.bool (okL unresB s.data.toList)) ∧ w = w' := by
  have hs0 := hs
  have HL : Hid (s.data.toList.length = s.size) := Lib.hid (by simp)
  unfold maxLen at hs
  go_enter Tryd.func34, Tryd.ntmps34
  go_wp2_with fail
  go_loop [3] (fun i => ∃ k : Nat, k ≤ s.size ∧ i = .int .i64 k ∧ okL unresB s.data.toList = okL unresB (s.data.toList.drop k)) (fun i => s.size - (intOf i).toNat)
  case atStart => exact ⟨0, Nat.zero_le _, rfl, rfl⟩
  case round =>
    obtain ⟨k, hk, rfl, hf⟩ := hrel
    have H := Lib.hid hf; clear hf
    by_cases hlt : k < s.size
    · have HD := Lib.hid (drop_cons s k hlt)
      by_cases h37 : s[k].toNat = 37
      · have q : ((s[k].toNat : Int) == 37) = true := by rw [beq_iff_eq]; omega
        have hst : okL unresB (s.data.toList.drop k) = (encB (s.data.toList.drop (k + 1)) && okL unresB (s.data.toList.drop (k + 3))) := by
          rw [HD.out, okL_pc _ _ _ h37, List.drop_drop]
        have hcon := fun w => encoded_any s k hlt w hs0
        obtain ⟨b, hb⟩ : ∃ b, encB (s.data.toList.drop (k + 1)) = b := ⟨_, rfl⟩
        have hlen := fun h : b = true => encB_len _ (hb.trans h)
        rw [List.length_drop, HL.out] at hlen
        rw [hb] at hst hcon
        have HC := Lib.hid hcon
        have HST := Lib.hid hst
        clear hcon hst hb h37
        cases b
        · clear hlen
          go_wp2_with (go_at_call 55; refine (HC.out _).mono ?_; rintro e w' ⟨rfl, rfl⟩)
          go_ret
          exact ⟨ret_bool (by rw [H.out, HST.out]; rfl), rfl⟩
        · have h3 : (k : Int) + 3 ≤ s.size := by have := hlen rfl; omega
          clear hlen
          go_wp2_with (go_at_call 55; refine (HC.out _).mono ?_; rintro e w' ⟨rfl, rfl⟩)
          go_round
          case rel => exact ⟨k + 3, by omega, by go_num, by rw [H.out, HST.out]; rfl⟩
          case measure => simp [intOf]; omega
      · have q : ((s[k].toNat : Int) == 37) = false := by rw [beq_eq_false_iff_ne]; omega
        have hst : okL unresB (s.data.toList.drop k) = (unresB s[k].toNat && okL unresB (s.data.toList.drop (k + 1))) := by
          rw [HD.out, okL_or _ _ _ h37]
        have hcon := fun w => unreserved_any s[k].toNat w
        obtain ⟨b, hb⟩ : ∃ b, unresB s[k].toNat = b := ⟨_, rfl⟩
        rw [hb] at hst hcon
        have HC := Lib.hid hcon
        have HST := Lib.hid hst
        clear hcon hst hb h37
        cases b
        · go_wp2_with (go_at_call 56; refine (HC.out _).mono ?_; rintro e w' ⟨rfl, rfl⟩)
          go_ret
          exact ⟨ret_bool (by rw [H.out, HST.out]; rfl), rfl⟩
        · go_wp2_with (go_at_call 56; refine (HC.out _).mono ?_; rintro e w' ⟨rfl, rfl⟩)
          go_round
          case rel => exact ⟨k + 1, by omega, by go_num, by rw [H.out, HST.out]; rfl⟩
          case measure => simp [intOf]; omega
    · have HR : Hid (okL unresB s.data.toList = true) := Lib.hid <| by
        rw [H.out, List.drop_of_length_le (by have := HL.out; omega)]; rfl
      go_wp2_with fail
      go_ret
      exact ⟨ret_bool HR.out.symm, rfl⟩
end Go.Proofs.YtigobehhmodoiaaDoor
