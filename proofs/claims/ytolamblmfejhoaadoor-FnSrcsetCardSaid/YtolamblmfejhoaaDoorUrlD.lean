/- The package's processURLOnto. -/
import Derived.Test.YtolamblmfejhoaaDoorUrlC
import Derived.Test.YtolamblmfejhoaaDoorHtmlA
namespace Go.Proofs.YtolamblmfejhoaaDoor
open Go.Shelf Go.RowKit
set_option linter.unusedVariables false
set_option linter.unusedSimpArgs false

set_option maxRecDepth 100000 in
set_option maxHeartbeats 16000000 in
theorem process_ok (s : ByteArray) (norm : Bool) (b : Nat) (acc0 : Bytes) (w : World) (hs : (s.size : Int) ≤ 17179869184) (h0 : acc0.length ≤ 70368744177664)
    (hG : Calls Tryd.prog 49 #[.pointer (some ⟨b, 0, none⟩), .int .i64 (s.size + 16 : Nat)] w fun e w' => e = .returned (.tuple #[]) ∧ Bld b acc0 w' ∧ Below b w w') :
    Calls Tryd.prog 34 #[.string s, .bool norm, .pointer (some ⟨b, 0, none⟩)] w fun e w' => e = .returned (.bool (urlCh norm s.data.toList)) ∧ Bld b (acc0 ++ urlL norm s.data.toList) w' ∧ Below b w w' := by
  have HL : Hid (s.data.toList.length = s.size) := Lib.hid (by simp)
  have hs0 : s.size ≤ 2 ^ 63 - 1 := by omega
  have HSZ := Lib.hid hs; clear hs
  have H0 := Lib.hid h0; clear h0
  have hss : IntKind.i64.wrap ((s.size : Int) + 16) = ((s.size + 16 : Nat) : Int) := by rw [IntKind.wrap_i64]; have := HSZ.out; omega
  have HG := Lib.hid hG; clear hG
  go_enter Tryd.func34, Tryd.ntmps34
  go_wp2_with (go_at_call 49; refine HG.out.mono ?_; rintro e w0 ⟨rfl, hB0, hb0⟩)
  go_loopw [7, 8] (fun jn kn wr => ∃ (j k : Nat) (acc : Bytes), j ≤ k ∧ k ≤ s.size ∧ jn = .int .i64 j ∧ kn = .int .i64 k ∧ Below b w wr ∧ UAcct norm s.data.toList acc0 acc j k ∧ Bld b acc wr) (fun _ kn _ => s.size - (intOf kn).toNat)
  case atStart => exact ⟨0, 0, acc0, Nat.le_refl _, Nat.zero_le _, rfl, rfl, hb0, ⟨by simp, by simp, by omega⟩, hB0⟩
  case round =>
    obtain ⟨j, k, acc, hj, hk, rfl, rfl, hb, ha, hB⟩ := hrel
    have HA := Lib.hid ha; clear ha
    by_cases hlt : k < s.size
    · have HD := Lib.hid (drop_cons s k hlt)
      have HX : Hid ((s.extract j k).data.toList = (s.data.toList.drop j).take (k - j)) := Lib.hid (extract_mid s j k)
      have HXL : Hid ((s.extract j k).size = k - j) := Lib.hid <| by simp; omega
      have HL1 : Hid (acc.length + (s.extract j k).size ≤ 140737488355328) := Lib.hid (by rw [HXL.out]; have := HSZ.out; have := HA.out.2.2; have := H0.out; omega)
      have HL2 : Hid ((acc ++ (s.extract j k).data.toList).length + (⟨(pct s[k].toNat).toArray⟩ : ByteArray).size ≤ 140737488355328) := Lib.hid <| by
        have h2 := HSZ.out
        have h3 : (s.extract j k).data.toList.length = k - j := by rw [← HXL.out]; exact Array.length_toList
        have h4 : (⟨(pct s[k].toNat).toArray⟩ : ByteArray).size = 3 := rfl
        have := HA.out.2.2
        have := H0.out
        simp only [List.length_append, h3, h4]; omega
      obtain ⟨kp, hkp⟩ : ∃ kp, urlKeep norm s[k].toNat (s.data.toList.drop (k + 1)) = kp := ⟨_, rfl⟩
      have HP := Lib.hid (fun w => zzPercent_any s[k].toNat s[k].toNat_lt w)
      have HAK : Hid (kp = true → UAcct norm s.data.toList acc0 acc j (k + 1)) := Lib.hid fun h => uacct_keep HL.out hlt hj HD.out HA.out (hkp.trans h)
      have HAP : Hid (kp = false → UAcct norm s.data.toList acc0 (acc ++ (s.extract j k).data.toList ++ (⟨(pct s[k].toNat).toArray⟩ : ByteArray).data.toList) (k + 1) (k + 1)) := Lib.hid fun h => by
        rw [HX.out]; exact uacct_put HL.out hlt hj HD.out HA.out (hkp.trans h)
      have HKP := Lib.hid hkp; clear hkp
      by_cases hset : hasB normSet s[k].toNat = true
      · have hcs : (s[k].toNat : Int) = 33 ∨ (s[k].toNat : Int) = 35 ∨ (s[k].toNat : Int) = 36 ∨ (s[k].toNat : Int) = 38 ∨ (s[k].toNat : Int) = 42 ∨ (s[k].toNat : Int) = 43 ∨ (s[k].toNat : Int) = 44 ∨ (s[k].toNat : Int) = 47 ∨ (s[k].toNat : Int) = 58 ∨ (s[k].toNat : Int) = 59 ∨ (s[k].toNat : Int) = 61 ∨ (s[k].toNat : Int) = 63 ∨ (s[k].toNat : Int) = 64 ∨ (s[k].toNat : Int) = 91 ∨ (s[k].toNat : Int) = 93 := by
          unfold hasB normSet at hset
          simp at hset
          omega
        have hk37 : s[k].toNat ≠ 37 ∧ isAlnumB s[k].toNat = false ∧ s[k].toNat ≠ 45 ∧ s[k].toNat ≠ 46 ∧ s[k].toNat ≠ 95 ∧ s[k].toNat ≠ 126 := by
          refine ⟨by omega, ?_, by omega, by omega, by omega, by omega⟩
          unfold isAlnumB isAlphaB
          rw [Bool.eq_false_iff]; simp; omega
        have hkn : kp = norm := by
          rw [← HKP.out]
          obtain ⟨g1, g2, g3, g4, g5, g6⟩ := hk37
          have b1 : (s[k].toNat == 37) = false := by rw [beq_eq_false_iff_ne]; exact g1
          have b3 : (s[k].toNat == 45) = false := by rw [beq_eq_false_iff_ne]; exact g3
          have b4 : (s[k].toNat == 46) = false := by rw [beq_eq_false_iff_ne]; exact g4
          have b5 : (s[k].toNat == 95) = false := by rw [beq_eq_false_iff_ne]; exact g5
          have b6 : (s[k].toNat == 126) = false := by rw [beq_eq_false_iff_ne]; exact g6
          unfold urlKeep
          rw [hset, g2, b1, b3, b4, b5, b6]
          cases norm <;> rfl
        subst hkn
        clear hk37 hset
        cases kp
        · have HAP2 := Lib.hid (HAP.out rfl)
          clear HAP HAK
          rcases hcs with e | e | e | e | e | e | e | e | e | e | e | e | e | e | e
          all_goals
            have HP2 := Lib.hid (fun w => e ▸ HP.out w)
            go_wp2_with fail
            refine (write_calls _ _ _ _ hB HL1.out).mono ?_
            rintro e w3 ⟨rfl, hB3, hb3⟩
            have hbx3 := hb.trans hb3
            go_wp2_with fail
            refine (HP2.out _).mono ?_
            rintro e w4 ⟨rfl, hb4⟩
            have hB4 := hB3.keep hb4
            have hbx4 := hbx3.trans (hb4.mono (Nat.le_of_lt hB3.lt))
            go_wp2_with fail
            refine (write_calls _ _ _ _ hB4 HL2.out).mono ?_
            rintro e w5 ⟨rfl, hB5, hb5⟩
            have hbx5 := hbx4.trans hb5
            go_wp2_with fail
            go_roundw
            case rel => exact ⟨k + 1, k + 1, _, Nat.le_refl _, by omega, by go_num, by go_num, hbx5, HAP2.out, hB5⟩
            case measure => simp [intOf]; omega
        · have HAK2 := Lib.hid (HAK.out rfl)
          clear HAP HAK
          rcases hcs with e | e | e | e | e | e | e | e | e | e | e | e | e | e | e
          all_goals
            go_wp2_with fail
            go_roundw
            case rel => exact ⟨j, k + 1, acc, by omega, by omega, rfl, by go_num, hb, HAK2.out, hB⟩
            case measure => simp [intOf]; omega
      · have hset' : hasB normSet s[k].toNat = false := by simpa using hset
        clear hset
        by_cases hun : s[k].toNat = 45 ∨ s[k].toNat = 46 ∨ s[k].toNat = 95 ∨ s[k].toNat = 126
        · have hcs : (s[k].toNat : Int) = 45 ∨ (s[k].toNat : Int) = 46 ∨ (s[k].toNat : Int) = 95 ∨ (s[k].toNat : Int) = 126 := by omega
          have hkn : kp = true := by
            rw [← HKP.out]
            unfold urlKeep
            rcases hun with h | h | h | h <;> rw [h] <;> simp
          subst hkn
          have HAK2 := Lib.hid (HAK.out rfl)
          clear HAP HAK hset' hun
          rcases hcs with e | e | e | e
          all_goals
            go_wp2_with fail
            go_roundw
            case rel => exact ⟨j, k + 1, acc, by omega, by omega, rfl, by go_num, hb, HAK2.out, hB⟩
            case measure => simp [intOf]; omega
        · by_cases h37 : s[k].toNat = 37
          · have e : (s[k].toNat : Int) = 37 := by omega
            have HP2 := Lib.hid (fun w => e ▸ HP.out w)
            have hkn : kp = (norm && encB (s.data.toList.drop (k + 1))) := by
              rw [← HKP.out, h37]
              unfold urlKeep
              cases norm <;> cases encB (s.data.toList.drop (k + 1)) <;> decide
            clear hset' hun h37
            cases norm
            · rw [Bool.false_and] at hkn
              subst hkn
              have HAP2 := Lib.hid (HAP.out rfl)
              clear HAP HAK
              go_wp2_with fail
              refine (write_calls _ _ _ _ hB HL1.out).mono ?_
              rintro e w3 ⟨rfl, hB3, hb3⟩
              have hbx3 := hb.trans hb3
              go_wp2_with fail
              refine (HP2.out _).mono ?_
              rintro e w4 ⟨rfl, hb4⟩
              have hB4 := hB3.keep hb4
              have hbx4 := hbx3.trans (hb4.mono (Nat.le_of_lt hB3.lt))
              go_wp2_with fail
              refine (write_calls _ _ _ _ hB4 HL2.out).mono ?_
              rintro e w5 ⟨rfl, hB5, hb5⟩
              have hbx5 := hbx4.trans hb5
              go_wp2_with fail
              go_roundw
              case rel => exact ⟨k + 1, k + 1, _, Nat.le_refl _, by omega, by go_num, by go_num, hbx5, HAP2.out, hB5⟩
              case measure => simp [intOf]; omega
            · rw [Bool.true_and] at hkn
              by_cases hk2 : k + 2 < s.size
              · have he : encB (s.data.toList.drop (k + 1)) = (hexB s[k + 1].toNat && hexB s[k + 2].toNat) := by
                  rw [drop_cons s (k + 1) (by omega), drop_cons s (k + 2) (by omega)]
                  unfold encB
                  rw [at0_c0, at0_c1]
                  simp
                rw [he] at hkn
                have hx1 := fun w => isHex_any s[k + 1].toNat w
                have hx2 := fun w => isHex_any s[k + 2].toNat w
                obtain ⟨b1, hb1⟩ : ∃ b, hexB s[k + 1].toNat = b := ⟨_, rfl⟩
                obtain ⟨b2, hb2⟩ : ∃ b, hexB s[k + 2].toNat = b := ⟨_, rfl⟩
                rw [hb1, hb2] at hkn
                rw [hb1] at hx1
                rw [hb2] at hx2
                have HX1 := Lib.hid hx1
                have HX2 := Lib.hid hx2
                have hk2' : (k : Int) + 2 < s.size := by omega
                have HTOK : Hid True := Lib.hid trivial
                clear he hx1 hx2 hb1 hb2
                cases b1
                · rw [Bool.false_and] at hkn
                  subst hkn
                  have HAP2 := Lib.hid (HAP.out rfl)
                  clear HAP HAK
                  go_wp2_with (go_at_call 50; refine (HX1.out _).mono ?_; rintro e w' ⟨rfl, rfl⟩)
                  refine (write_calls _ _ _ _ hB HL1.out).mono ?_
                  rintro e w3 ⟨rfl, hB3, hb3⟩
                  have hbx3 := hb.trans hb3
                  go_wp2_with fail
                  refine (HP2.out _).mono ?_
                  rintro e w4 ⟨rfl, hb4⟩
                  have hB4 := hB3.keep hb4
                  have hbx4 := hbx3.trans (hb4.mono (Nat.le_of_lt hB3.lt))
                  go_wp2_with fail
                  refine (write_calls _ _ _ _ hB4 HL2.out).mono ?_
                  rintro e w5 ⟨rfl, hB5, hb5⟩
                  have hbx5 := hbx4.trans hb5
                  go_wp2_with fail
                  go_roundw
                  case rel => exact ⟨k + 1, k + 1, _, Nat.le_refl _, by omega, by go_num, by go_num, hbx5, HAP2.out, hB5⟩
                  case measure => simp [intOf]; omega
                · cases b2
                  · subst hkn
                    have HAP2 := Lib.hid (HAP.out rfl)
                    clear HAP HAK
                    go_wp2_with (first
                      | (clear HTOK; go_at_call 50; refine (HX1.out _).mono ?_; rintro e w' ⟨rfl, rfl⟩)
                      | (go_at_call 50; refine (HX2.out _).mono ?_; rintro e w' ⟨rfl, rfl⟩))
                    refine (write_calls _ _ _ _ hB HL1.out).mono ?_
                    rintro e w3 ⟨rfl, hB3, hb3⟩
                    have hbx3 := hb.trans hb3
                    go_wp2_with fail
                    refine (HP2.out _).mono ?_
                    rintro e w4 ⟨rfl, hb4⟩
                    have hB4 := hB3.keep hb4
                    have hbx4 := hbx3.trans (hb4.mono (Nat.le_of_lt hB3.lt))
                    go_wp2_with fail
                    refine (write_calls _ _ _ _ hB4 HL2.out).mono ?_
                    rintro e w5 ⟨rfl, hB5, hb5⟩
                    have hbx5 := hbx4.trans hb5
                    go_wp2_with fail
                    go_roundw
                    case rel => exact ⟨k + 1, k + 1, _, Nat.le_refl _, by omega, by go_num, by go_num, hbx5, HAP2.out, hB5⟩
                    case measure => simp [intOf]; omega
                  · subst hkn
                    have HAK2 := Lib.hid (HAK.out rfl)
                    clear HAP HAK
                    go_wp2_with (first
                      | (clear HTOK; go_at_call 50; refine (HX1.out _).mono ?_; rintro e w' ⟨rfl, rfl⟩)
                      | (go_at_call 50; refine (HX2.out _).mono ?_; rintro e w' ⟨rfl, rfl⟩))
                    go_roundw
                    case rel => exact ⟨j, k + 1, acc, by omega, by omega, rfl, by go_num, hb, HAK2.out, hB⟩
                    case measure => simp [intOf]; omega
              · have hk2' : (s.size : Int) ≤ (k : Int) + 2 := by omega
                have hsz4 : (k : Int) ≤ 17179869184 := by have := HSZ.out; omega
                have he : encB (s.data.toList.drop (k + 1)) = false := by
                  unfold encB
                  rw [List.length_drop, HL.out, decide_eq_false (by omega)]; rfl
                rw [he] at hkn
                subst hkn
                have HAP2 := Lib.hid (HAP.out rfl)
                clear HAP HAK hk2 he
                go_wp2_with fail
                refine (write_calls _ _ _ _ hB HL1.out).mono ?_
                rintro e w3 ⟨rfl, hB3, hb3⟩
                have hbx3 := hb.trans hb3
                go_wp2_with fail
                refine (HP2.out _).mono ?_
                rintro e w4 ⟨rfl, hb4⟩
                have hB4 := hB3.keep hb4
                have hbx4 := hbx3.trans (hb4.mono (Nat.le_of_lt hB3.lt))
                go_wp2_with fail
                refine (write_calls _ _ _ _ hB4 HL2.out).mono ?_
                rintro e w5 ⟨rfl, hB5, hb5⟩
                have hbx5 := hbx4.trans hb5
                go_wp2_with fail
                go_roundw
                case rel => exact ⟨k + 1, k + 1, _, Nat.le_refl _, by omega, by go_num, by go_num, hbx5, HAP2.out, hB5⟩
                case measure => simp [intOf]; omega
          · have g45 : (s[k].toNat : Int) ≠ 45 := by omega
            have g46 : (s[k].toNat : Int) ≠ 46 := by omega
            have g95 : (s[k].toNat : Int) ≠ 95 := by omega
            have g126 : (s[k].toNat : Int) ≠ 126 := by omega
            have g37 : (s[k].toNat : Int) ≠ 37 := by omega
            have hns : (s[k].toNat : Int) ≠ 33 ∧ (s[k].toNat : Int) ≠ 35 ∧ (s[k].toNat : Int) ≠ 36 ∧ (s[k].toNat : Int) ≠ 38 ∧ (s[k].toNat : Int) ≠ 42 ∧ (s[k].toNat : Int) ≠ 43 ∧ (s[k].toNat : Int) ≠ 44 ∧ (s[k].toNat : Int) ≠ 47 ∧ (s[k].toNat : Int) ≠ 58 ∧ (s[k].toNat : Int) ≠ 59 ∧ (s[k].toNat : Int) ≠ 61 ∧ (s[k].toNat : Int) ≠ 63 ∧ (s[k].toNat : Int) ≠ 64 ∧ (s[k].toNat : Int) ≠ 91 ∧ (s[k].toNat : Int) ≠ 93 := by
              unfold hasB normSet at hset'
              simp at hset'
              omega
            obtain ⟨g33, g35, g36, g38, g42, g43, g44, g47, g58, g59, g61, g63, g64, g91, g93⟩ := hns
            have f33 : ((s[k].toNat : Int) == 33) = false := by rw [beq_eq_false_iff_ne]; exact g33
            have f35 : ((s[k].toNat : Int) == 35) = false := by rw [beq_eq_false_iff_ne]; exact g35
            have f36 : ((s[k].toNat : Int) == 36) = false := by rw [beq_eq_false_iff_ne]; exact g36
            have f38 : ((s[k].toNat : Int) == 38) = false := by rw [beq_eq_false_iff_ne]; exact g38
            have f42 : ((s[k].toNat : Int) == 42) = false := by rw [beq_eq_false_iff_ne]; exact g42
            have f43 : ((s[k].toNat : Int) == 43) = false := by rw [beq_eq_false_iff_ne]; exact g43
            have f44 : ((s[k].toNat : Int) == 44) = false := by rw [beq_eq_false_iff_ne]; exact g44
            have f47 : ((s[k].toNat : Int) == 47) = false := by rw [beq_eq_false_iff_ne]; exact g47
            have f58 : ((s[k].toNat : Int) == 58) = false := by rw [beq_eq_false_iff_ne]; exact g58
            have f59 : ((s[k].toNat : Int) == 59) = false := by rw [beq_eq_false_iff_ne]; exact g59
            have f61 : ((s[k].toNat : Int) == 61) = false := by rw [beq_eq_false_iff_ne]; exact g61
            have f63 : ((s[k].toNat : Int) == 63) = false := by rw [beq_eq_false_iff_ne]; exact g63
            have f64 : ((s[k].toNat : Int) == 64) = false := by rw [beq_eq_false_iff_ne]; exact g64
            have f91 : ((s[k].toNat : Int) == 91) = false := by rw [beq_eq_false_iff_ne]; exact g91
            have f93 : ((s[k].toNat : Int) == 93) = false := by rw [beq_eq_false_iff_ne]; exact g93
            have f45 : ((s[k].toNat : Int) == 45) = false := by rw [beq_eq_false_iff_ne]; exact g45
            have f46 : ((s[k].toNat : Int) == 46) = false := by rw [beq_eq_false_iff_ne]; exact g46
            have f95 : ((s[k].toNat : Int) == 95) = false := by rw [beq_eq_false_iff_ne]; exact g95
            have f126 : ((s[k].toNat : Int) == 126) = false := by rw [beq_eq_false_iff_ne]; exact g126
            have f37 : ((s[k].toNat : Int) == 37) = false := by rw [beq_eq_false_iff_ne]; exact g37
            have hkn : kp = isAlnumB s[k].toNat := by
              rw [← HKP.out]
              unfold urlKeep
              have b1 : (s[k].toNat == 37) = false := by rw [beq_eq_false_iff_ne]; exact h37
              have b3 : (s[k].toNat == 45) = false := by rw [beq_eq_false_iff_ne]; omega
              have b4 : (s[k].toNat == 46) = false := by rw [beq_eq_false_iff_ne]; omega
              have b5 : (s[k].toNat == 95) = false := by rw [beq_eq_false_iff_ne]; omega
              have b6 : (s[k].toNat == 126) = false := by rw [beq_eq_false_iff_ne]; omega
              rw [hset', b1, b3, b4, b5, b6]
              cases norm <;> simp
            have HP2 := HP
            clear hset' hun h37 g33 g35 g36 g38 g42 g43 g44 g47 g58 g59 g61 g63 g64 g91 g93 g45 g46 g95 g126 g37
            by_cases hal : isAlnumB s[k].toNat = true
            · rw [hal] at hkn
              subst hkn
              have HAK2 := Lib.hid (HAK.out rfl)
              have hr : (decide ((97 : Int) ≤ s[k].toNat) = true ∧ decide ((s[k].toNat : Int) ≤ 122) = true) ∨ (decide ((97 : Int) ≤ s[k].toNat) = false ∧ decide ((65 : Int) ≤ s[k].toNat) = true ∧ decide ((s[k].toNat : Int) ≤ 90) = true) ∨
                  (decide ((97 : Int) ≤ s[k].toNat) = false ∧ decide ((65 : Int) ≤ s[k].toNat) = false ∧ decide ((48 : Int) ≤ s[k].toNat) = true ∧ decide ((s[k].toNat : Int) ≤ 57) = true) := by
                unfold isAlnumB isAlphaB at hal
                simp at hal
                simp only [decide_eq_true_eq, decide_eq_false_iff_not]
                omega
              clear HAP HAK hal
              rcases hr with ⟨r1, r2⟩ | ⟨r1, r2, r3⟩ | ⟨r1, r2, r3, r4⟩
              all_goals
                go_wp2_with fail
                go_roundw
                case rel => exact ⟨j, k + 1, acc, by omega, by omega, rfl, by go_num, hb, HAK2.out, hB⟩
                case measure => simp [intOf]; omega
            · have hal' : isAlnumB s[k].toNat = false := by simpa using hal
              rw [hal'] at hkn
              subst hkn
              have HAP2 := Lib.hid (HAP.out rfl)
              have hr : (decide ((97 : Int) ≤ s[k].toNat) = false ∧ decide ((65 : Int) ≤ s[k].toNat) = false ∧ decide ((48 : Int) ≤ s[k].toNat) = false) ∨
                  (decide ((97 : Int) ≤ s[k].toNat) = false ∧ decide ((65 : Int) ≤ s[k].toNat) = false ∧ decide ((48 : Int) ≤ s[k].toNat) = true ∧ decide ((s[k].toNat : Int) ≤ 57) = false) ∨
                  (decide ((97 : Int) ≤ s[k].toNat) = false ∧ decide ((65 : Int) ≤ s[k].toNat) = true ∧ decide ((s[k].toNat : Int) ≤ 90) = false ∧ decide ((48 : Int) ≤ s[k].toNat) = true ∧ decide ((s[k].toNat : Int) ≤ 57) = false) ∨
                  (decide ((97 : Int) ≤ s[k].toNat) = true ∧ decide ((s[k].toNat : Int) ≤ 122) = false ∧ decide ((65 : Int) ≤ s[k].toNat) = true ∧ decide ((s[k].toNat : Int) ≤ 90) = false ∧ decide ((48 : Int) ≤ s[k].toNat) = true ∧ decide ((s[k].toNat : Int) ≤ 57) = false) := by
                unfold isAlnumB isAlphaB at hal'
                simp at hal'
                simp only [decide_eq_true_eq, decide_eq_false_iff_not]
                omega
              clear HAP HAK hal hal'
              rcases hr with ⟨r1, r2, r3⟩ | ⟨r1, r2, r3, r4⟩ | ⟨r1, r2, r3, r4, r5⟩ | ⟨r1, r2, r3, r4, r5, r6⟩
              all_goals
                go_wp2_with fail
                refine (write_calls _ _ _ _ hB HL1.out).mono ?_
                rintro e w3 ⟨rfl, hB3, hb3⟩
                have hbx3 := hb.trans hb3
                go_wp2_with fail
                refine (HP2.out _).mono ?_
                rintro e w4 ⟨rfl, hb4⟩
                have hB4 := hB3.keep hb4
                have hbx4 := hbx3.trans (hb4.mono (Nat.le_of_lt hB3.lt))
                go_wp2_with fail
                refine (write_calls _ _ _ _ hB4 HL2.out).mono ?_
                rintro e w5 ⟨rfl, hB5, hb5⟩
                have hbx5 := hbx4.trans hb5
                go_wp2_with fail
                go_roundw
                case rel => exact ⟨k + 1, k + 1, _, Nat.le_refl _, by omega, by go_num, by go_num, hbx5, HAP2.out, hB5⟩
                case measure => simp [intOf]; omega
    · have hks : k = s.size := by omega
      have hfin : acc ++ (s.extract j s.size).data.toList = acc0 ++ urlL norm s.data.toList := by
        have h1 := HA.out.1
        have hdn : s.data.toList.drop k = [] := List.drop_of_length_le (by have := HL.out; omega)
        rw [hdn] at h1
        rw [extract_end, ← h1]
        simp only [urlL, List.append_nil]
        congr 1
        symm
        rw [List.take_of_length_le]
        rw [List.length_drop, HL.out]; omega
      have hch : decide (j ≠ 0) = urlCh norm s.data.toList := by
        have h2 := HA.out.2.1
        have hdn : s.data.toList.drop k = [] := List.drop_of_length_le (by have := HL.out; omega)
        rw [hdn] at h2
        rw [← h2]
        simp [urlCh]
      have HL1 : Hid (acc.length + (s.extract j s.size).size ≤ 140737488355328) := Lib.hid (by
        have h1 : (s.extract j s.size).size ≤ s.size := by simp
        have := HSZ.out; have := HA.out.2.2; have := H0.out; omega)
      have HFIN := Lib.hid hfin
      have hge : (s.size : Int) ≤ k := by omega
      have HCH := Lib.hid hch
      clear hfin hch hks
      by_cases hj0 : j = 0
      · have hj1 : ((j : Int) != 0) = false := by simp [hj0]
        have HJ2 : Hid (decide (j ≠ 0) = false) := Lib.hid (by simp [hj0])
        clear hj0
        go_wp2_with fail
        refine (write_calls _ _ _ _ hB HL1.out).mono ?_
        rintro e w3 ⟨rfl, hB3, hb3⟩
        rw [HFIN.out] at hB3
        have hbx3 := hb.trans hb3
        go_wp2_with fail
        go_ret
        exact ⟨ret_bool (by rw [← HCH.out, HJ2.out]), hB3, hbx3⟩
      · have hj1 : ((j : Int) != 0) = true := by simp; omega
        have HJ2 : Hid (decide (j ≠ 0) = true) := Lib.hid (by simp [hj0])
        clear hj0
        go_wp2_with fail
        refine (write_calls _ _ _ _ hB HL1.out).mono ?_
        rintro e w3 ⟨rfl, hB3, hb3⟩
        rw [HFIN.out] at hB3
        have hbx3 := hb.trans hb3
        go_wp2_with fail
        go_ret
        exact ⟨ret_bool (by rw [← HCH.out, HJ2.out]), hB3, hbx3⟩
end Go.Proofs.YtolamblmfejhoaaDoor
