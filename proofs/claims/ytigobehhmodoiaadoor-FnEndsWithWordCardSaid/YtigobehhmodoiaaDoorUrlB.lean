/- The reference's Plain and Percent. -/
import Derived.Test.YtigobehhmodoiaaDoorUrlA
namespace Go.Proofs.YtigobehhmodoiaaDoor
open Go.RowKit
set_option linter.unusedVariables false
set_option linter.unusedSimpArgs false

set_option maxRecDepth 100000 in
set_option maxHeartbeats 4000000 in
theorem plainq_any (s : ByteArray) (w : World) (hs : s.size ≤ maxLen) :
    Calls Tryd.prog 31 #[.string s] w fun e w' => e = .returned (.bool (okL plainB s.data.toList)) ∧ w = w' := by
  have hs0 := hs
  have HL : Hid (s.data.toList.length = s.size) := Lib.hid (by simp)
  unfold maxLen at hs
  go_enter Tryd.func31, Tryd.ntmps31
  go_wp2_with fail
  go_loop [3] (fun i => ∃ k : Nat, k ≤ s.size ∧ i = .int .i64 k ∧ okL plainB s.data.toList = okL plainB (s.data.toList.drop k)) (fun i => s.size - (intOf i).toNat)
  case atStart => exact ⟨0, Nat.zero_le _, rfl, rfl⟩
  case round =>
    obtain ⟨k, hk, rfl, hf⟩ := hrel
    have H := Lib.hid hf; clear hf
    by_cases hlt : k < s.size
    · have HD := Lib.hid (drop_cons s k hlt)
      by_cases h37 : s[k].toNat = 37
      · have q : ((s[k].toNat : Int) == 37) = true := by rw [beq_iff_eq]; omega
        have hst : okL plainB (s.data.toList.drop k) = (encB (s.data.toList.drop (k + 1)) && okL plainB (s.data.toList.drop (k + 3))) := by
          rw [HD.out, okL_pc _ _ _ h37, List.drop_drop]
        have hcon := fun w => encoded_any s k hlt w hs0
        obtain ⟨b, hb⟩ : ∃ b, encB (s.data.toList.drop (k + 1)) = b := ⟨_, rfl⟩
        have hlen := fun h : b = true => encB_len _ (hb.trans h)
        rw [List.length_drop, HL.out] at hlen
        rw [hb] at hst hcon
        have HC := Lib.hid hcon
        have HST := Lib.hid hst
        clear hcon hst hb h37
        cases b
        · clear hlen
          go_wp2_with (go_at_call 55; refine (HC.out _).mono ?_; rintro e w' ⟨rfl, rfl⟩)
          go_ret
          exact ⟨ret_bool (by rw [H.out, HST.out]; rfl), rfl⟩
        · have h3 : (k : Int) + 3 ≤ s.size := by have := hlen rfl; omega
          clear hlen
          go_wp2_with (go_at_call 55; refine (HC.out _).mono ?_; rintro e w' ⟨rfl, rfl⟩)
          go_round
          case rel => exact ⟨k + 3, by omega, by go_num, by rw [H.out, HST.out]; rfl⟩
          case measure => simp [intOf]; omega
      · have q : ((s[k].toNat : Int) == 37) = false := by rw [beq_eq_false_iff_ne]; omega
        have hst : okL plainB (s.data.toList.drop k) = (plainB s[k].toNat && okL plainB (s.data.toList.drop (k + 1))) := by
          rw [HD.out, okL_or _ _ _ h37]
        have hcon := fun w => unreserved_any s[k].toNat w
        have hcon2 := fun w => reserved_any s[k].toNat w
        obtain ⟨b, hb⟩ : ∃ b, unresB s[k].toNat = b := ⟨_, rfl⟩
        obtain ⟨b2, hb2⟩ : ∃ b, hasB resSet s[k].toNat = b := ⟨_, rfl⟩
        rw [show plainB s[k].toNat = (unresB s[k].toNat || hasB resSet s[k].toNat) from rfl] at hst
        rw [hb] at hst hcon
        rw [hb2] at hst hcon2
        have HC := Lib.hid hcon
        have HC2 := Lib.hid hcon2
        have HST := Lib.hid hst
        clear hcon hcon2 hst hb hb2 h37
        cases b
        · cases b2
          · go_wp2_with (first
              | (go_at_call 56; refine (HC.out _).mono ?_; rintro e w' ⟨rfl, rfl⟩)
              | (go_at_call 57; refine (HC2.out _).mono ?_; rintro e w' ⟨rfl, rfl⟩))
            go_ret
            exact ⟨ret_bool (by rw [H.out, HST.out]; rfl), rfl⟩
          · go_wp2_with (first
              | (go_at_call 56; refine (HC.out _).mono ?_; rintro e w' ⟨rfl, rfl⟩)
              | (go_at_call 57; refine (HC2.out _).mono ?_; rintro e w' ⟨rfl, rfl⟩))
            go_round
            case rel => exact ⟨k + 1, by omega, by go_num, by rw [H.out, HST.out]; rfl⟩
            case measure => simp [intOf]; omega
        · go_wp2_with (go_at_call 56; refine (HC.out _).mono ?_; rintro e w' ⟨rfl, rfl⟩)
          go_round
          case rel => exact ⟨k + 1, by omega, by go_num, by rw [H.out, HST.out]; rfl⟩
          case measure => simp [intOf]; omega
    · have HR : Hid (okL plainB s.data.toList = true) := Lib.hid <| by
        rw [H.out, List.drop_of_length_le (by have := HL.out; omega)]; rfl
      go_wp2_with fail
      go_ret
      exact ⟨ret_bool HR.out.symm, rfl⟩
set_option maxRecDepth 100000 in
set_option maxHeartbeats 8000000 in
theorem percent_any (s : ByteArray) (w : World) (hs : (s.size : Int) ≤ 17179869184) :
    Calls Tryd.prog 32 #[.string s] w fun e w' => RetStr (percentL s.data.toList) e ∧ Below w.heap.size w w' := by
  obtain ⟨i0, hi, hz0, hz1, hz2⟩ := info_parts byteInfo
  have hs0 : s.size ≤ 2 ^ 63 - 1 := by omega
  have HM : Hid (s.size ≤ maxLen) := Lib.hid (maxLen_of hs)
  have HSZ := Lib.hid hs; clear hs
  have HL : Hid (s.data.toList.length = s.size) := Lib.hid (by simp)
  go_enter Tryd.func32, Tryd.ntmps32
  go_wp2_with fail
  go_loopw [3, 4] (fun vo i wr => ∃ (k : Nat) (acc : Bytes), k ≤ s.size ∧ i = .int .i64 k ∧ Own w.heap.size vo acc wr ∧ Below w.heap.size w wr ∧ acc ++ percentL (s.data.toList.drop k) = percentL s.data.toList ∧ acc.length ≤ k) (fun _ i _ => s.size - (intOf i).toNat)
  case atStart => exact ⟨0, [], Nat.zero_le _, rfl, Own.nil _ _, Below.refl _ _, rfl, by simp⟩
  case round =>
    obtain ⟨k, acc, hk, rfl, ho, hb, hf, hal⟩ := hrel
    have H := Lib.hid hf; clear hf
    have hbs := Lib.hid hb.size
    by_cases hlt : k < s.size
    · have HD := Lib.hid (drop_cons s k hlt)
      have HB1 : Hid (acc.length + 1 ≤ maxLen ∧ (acc.length + 1) * 1 ≤ 140737488355328) := Lib.hid (by have := HSZ.out; unfold maxLen; omega)
      by_cases h37 : s[k].toNat = 37
      · have q : ((s[k].toNat : Int) == 37) = true := by rw [beq_iff_eq]; omega
        have hcon := fun w => encoded_any s k hlt w HM.out
        have hcon2 := fun w => hex2_any (s.extract (k + 1) s.size) w (by have := HM.out; unfold maxLen at this ⊢; simp; omega)
        rw [extract_end] at hcon2
        obtain ⟨b, hbb⟩ : ∃ b, encB (s.data.toList.drop (k + 1)) = b := ⟨_, rfl⟩
        obtain ⟨v, hv⟩ : ∃ v, v = hexN (s.data.toList.drop (k + 1)) := ⟨_, rfl⟩
        have hlen := fun h : b = true => encB_len _ (hbb.trans h)
        rw [List.length_drop, HL.out] at hlen
        have hstep := percentL_step s[k] (s.data.toList.drop (k + 1))
        rw [← HD.out] at hstep
        rw [hbb] at hcon hcon2
        rw [← hv] at hcon2
        have HC := Lib.hid hcon
        have HC2 := Lib.hid hcon2
        clear hcon hcon2
        cases b
        · have HU : Hid (percentL (s.data.toList.drop k) = s[k] :: percentL (s.data.toList.drop (k + 1))) := Lib.hid (by rw [hstep, if_neg (by rw [hbb]; simp)])
          clear hstep hbb hv hlen h37
          go_wp2_with (first
            | (go_at_call 55; refine (HC.out _).mono ?_; rintro e w1 ⟨rfl, rfl⟩)
            | (at_builtin; refine wpList_append_own _ rfl _ _ 34 rfl (w.heap.size) 5 i0 (.int .u8 0) 1 1 Tryd.underlying34 hi hz0 hz1 hz2 rfl (by decide) _ _ _ rfl (ho.alloc _) ⟨_, 0, none⟩ 1 1 [.int .u8 s[k].toNat] rfl rfl ?c1 ?c2 ?c3 ?c4 ?c5 ?_))
          case c1 => intro j u hj
                     match j, hj with
                     | 0, hj => simp at hj; subst hj; simp [Addr.add]
          case c2 => intro u hu; simp at hu; subst hu; rfl
          case c3 => exact HB1.out.1
          case c4 => exact HB1.out.2
          case c5 => have := hbs.out; simp; omega
          intro v' w2 hown' hgrow _
          have hown := Own.put (x := [s[k]]) (n := acc.length + 1) (by simp) hown'
          have hb2 : Below w.heap.size w w2 := Below.appended hb hbs.out hgrow (Own.lt ho)
          have HF : Hid ((acc ++ [s[k]]) ++ percentL (s.data.toList.drop (k + 1)) = percentL s.data.toList) := Lib.hid (by rw [List.append_assoc, List.singleton_append, ← HU.out, H.out])
          have HA : Hid ((acc ++ [s[k]]).length ≤ k + 1) := Lib.hid (by rw [List.length_append]; simp; omega)
          clear hown' hgrow hb hal
          go_wp2
          refine ⟨⟨k + 1, acc ++ [s[k]], by omega, by simp, hown, hb2, HF.out, HA.out⟩, ?_⟩
          simp [intOf]; omega
        · have hv2 : v < 256 := by
            rw [hv, hexN_yes _ hbb]
            unfold encB hexB at hbb
            simp only [Bool.and_eq_true, decide_eq_true_eq] at hbb
            unfold hexV2; omega
          have HU : Hid (percentL (s.data.toList.drop k) = UInt8.ofNat v :: percentL (s.data.toList.drop (k + 3))) := Lib.hid (by
            rw [hstep, if_pos ⟨h37, hbb⟩, hv, hexN_yes _ hbb, List.drop_drop])
          have h3 : (k : Int) + 3 ≤ s.size := by have := hlen rfl; omega
          have hvm : (UInt8.ofNat v).toNat = v := by simp; omega
          have HVM := Lib.hid hvm
          have hv2i : (v : Int) < 256 := by omega
          have hk1 : (k : Int) + 1 ≤ s.size := by omega
          clear hstep hbb hv hlen h37 hv2 hvm
          go_wp2_with (first
            | (go_at_call 55; refine (HC.out _).mono ?_; rintro e w1 ⟨rfl, rfl⟩)
            | (go_at_call 58; refine (HC2.out _).mono ?_; rintro e w1 ⟨rfl, rfl⟩)
            | (at_builtin; refine wpList_append_own _ rfl _ _ 34 rfl (w.heap.size) 5 i0 (.int .u8 0) 1 1 Tryd.underlying34 hi hz0 hz1 hz2 rfl (by decide) _ _ _ rfl (ho.alloc _) ⟨_, 0, none⟩ 1 1 [.int .u8 v] rfl rfl ?c1 ?c2 ?c3 ?c4 ?c5 ?_))
          case c1 => intro j u hj
                     match j, hj with
                     | 0, hj => simp at hj; subst hj; simp [Addr.add]
          case c2 => intro u hu; simp at hu; subst hu; rfl
          case c3 => exact HB1.out.1
          case c4 => exact HB1.out.2
          case c5 => have := hbs.out; simp; omega
          intro v' w2 hown' hgrow _
          rw [show [Value.int IntKind.u8 (v : Int)] = Lib.byteCells [UInt8.ofNat v] by simp only [Lib.byteCells, List.map_cons, List.map_nil, HVM.out]] at hown'
          have hown := Own.put (x := [UInt8.ofNat v]) (n := acc.length + 1) (by simp) hown'
          have hb2 : Below w.heap.size w w2 := Below.appended hb hbs.out hgrow (Own.lt ho)
          have HF : Hid ((acc ++ [UInt8.ofNat v]) ++ percentL (s.data.toList.drop (k + 3)) = percentL s.data.toList) := Lib.hid (by rw [List.append_assoc, List.singleton_append, ← HU.out, H.out])
          have HA : Hid ((acc ++ [UInt8.ofNat v]).length ≤ k + 3) := Lib.hid (by rw [List.length_append]; simp; omega)
          clear hown' hgrow hb hal
          go_wp2
          refine ⟨⟨k + 3, acc ++ [UInt8.ofNat v], by omega, by simp; omega, hown, hb2, HF.out, HA.out⟩, ?_⟩
          simp [intOf]; omega
      · have q : ((s[k].toNat : Int) == 37) = false := by rw [beq_eq_false_iff_ne]; omega
        have HU : Hid (percentL (s.data.toList.drop k) = s[k] :: percentL (s.data.toList.drop (k + 1))) := Lib.hid (by
          rw [HD.out, percentL_step, if_neg (fun h => h37 h.1)])
        clear h37
        go_wp2_with (first
            | (at_builtin; refine wpList_append_own _ rfl _ _ 34 rfl (w.heap.size) 5 i0 (.int .u8 0) 1 1 Tryd.underlying34 hi hz0 hz1 hz2 rfl (by decide) _ _ _ rfl (ho.alloc _) ⟨_, 0, none⟩ 1 1 [.int .u8 s[k].toNat] rfl rfl ?c1 ?c2 ?c3 ?c4 ?c5 ?_))
        case c1 => intro j u hj
                   match j, hj with
                   | 0, hj => simp at hj; subst hj; simp [Addr.add]
        case c2 => intro u hu; simp at hu; subst hu; rfl
        case c3 => exact HB1.out.1
        case c4 => exact HB1.out.2
        case c5 => have := hbs.out; simp; omega
        intro v' w2 hown' hgrow _
        have hown := Own.put (x := [s[k]]) (n := acc.length + 1) (by simp) hown'
        have hb2 : Below w.heap.size w w2 := Below.appended hb hbs.out hgrow (Own.lt ho)
        have HF : Hid ((acc ++ [s[k]]) ++ percentL (s.data.toList.drop (k + 1)) = percentL s.data.toList) := Lib.hid (by rw [List.append_assoc, List.singleton_append, ← HU.out, H.out])
        have HA : Hid ((acc ++ [s[k]]).length ≤ k + 1) := Lib.hid (by rw [List.length_append]; simp; omega)
        clear hown' hgrow hb hal
        go_wp2
        refine ⟨⟨k + 1, acc ++ [s[k]], by omega, by simp, hown, hb2, HF.out, HA.out⟩, ?_⟩
        simp [intOf]; omega
    · have hkk : k = s.size := by omega
      subst hkk
      have hcv := ho.conv
      have hdn : s.data.toList.drop s.size = [] := by apply List.drop_eq_nil_of_le; have := HL.out; omega
      go_wp2
      go_ret
      have hf := H.out
      rw [hdn, percentL_nil, List.append_nil] at hf
      exact ⟨⟨_, rfl, by simpa using hf⟩, hb⟩
end Go.Proofs.YtigobehhmodoiaaDoor
