/- The reference's Unescaped, ReadText, ReadQuoted: the walks. -/
import Derived.Test.YthhmccdjhcfggaaSpecK
namespace Go.Proofs.Ythhmccdjhcfggaa
open Go.RowKit
set_option linter.unusedVariables false
set_option linter.unusedSimpArgs false

set_option maxRecDepth 100000 in
set_option maxHeartbeats 8000000 in
theorem unescaped_any (s : ByteArray) (attr : Bool) (w : World) (hs : (s.size : Int) ≤ 17179869184) :
    Calls Try.prog 13 #[.string s, .bool attr] w fun e w' => RetStr (unescL s.data.toList attr) e ∧ Below w.heap.size w w' := by
  obtain ⟨i0, hi, hz0, hz1, hz2⟩ := info_parts byteInfo
  have hs0 : s.size ≤ 2 ^ 63 - 1 := by omega
  have HSZ := Lib.hid hs; clear hs
  have HL : Hid (s.data.toList.length = s.size) := Lib.hid (by simp)
  go_enter Try.func13, Try.ntmps13
  go_wp2_with fail
  go_loopw [5, 6] (fun vo i wr => ∃ (k : Nat) (acc : Bytes), k ≤ s.size ∧ i = .int .i64 k ∧ Own w.heap.size vo acc wr ∧ Below w.heap.size w wr ∧ acc ++ unescL (s.data.toList.drop k) attr = unescL s.data.toList attr ∧ acc.length ≤ 5 * k) (fun _ i _ => s.size - (intOf i).toNat)
  case atStart => exact ⟨0, [], Nat.zero_le _, rfl, Own.nil _ _, Below.refl _ _, rfl, by simp⟩
  case round =>
    rename_i vo _
    obtain ⟨k, acc, hk, rfl, ho, hb, hf, hal⟩ := hrel
    have H := Lib.hid hf; clear hf
    have hbs := Lib.hid hb.size
    by_cases hlt : k < s.size
    · have HD := Lib.hid (drop_cons s k hlt)
      have HB1 : Hid (acc.length + 1 ≤ maxLen ∧ (acc.length + 1) * 1 ≤ 140737488355328) := Lib.hid (by have := HSZ.out; unfold maxLen; omega)
      by_cases hc : s[k].toNat = 38
      · have hc1 : ((s[k].toNat : Int) == 38) = true := by simp [hc]
        have hsz : (s.extract k s.size).size ≤ maxLen ∧ 0 < (s.extract k s.size).size := by simp; unfold maxLen; omega
        obtain ⟨hsz1, hsz2⟩ := hsz
        have hcon := fun wx => reference_any (s.extract k s.size) attr wx hsz1 hsz2 (by rw [extract_get0 s k hlt hsz2]; exact hc)
        rw [extract_end] at hcon
        have HC := Lib.hid hcon; clear hcon
        have HC38 := Lib.hid hc; clear hc
        obtain ⟨⟨rt, rn, rb⟩, hr⟩ : ∃ p, referenceL (s.data.toList.drop k) attr = p := ⟨_, rfl⟩
        have HR := Lib.hid hr
        rw [hr] at HC
        have HLE : Hid (rb = true → 1 ≤ rn ∧ rn ≤ s.size - k ∧ rt.length ≤ 5) := Lib.hid <| by
          intro h
          have h1 := reference_le (s.data.toList.drop k) attr (by rw [hr]; exact h)
          rw [hr, List.length_drop, HL.out] at h1
          exact h1
        clear hr
        rcases Bool.eq_false_or_eq_true rb with rfl | rfl
        · obtain ⟨hn1, hn2, hn3⟩ := HLE.out rfl
          have HU : Hid (unescL (s.data.toList.drop k) attr = rt ++ unescL (s.data.toList.drop (k + rn)) attr) := Lib.hid <| by
            have h1 := HR.out
            rw [HD.out] at h1 ⊢
            rw [unescL_ref _ _ attr HC38.out (by rw [h1]), h1, ← HD.out, List.drop_drop]
          go_wp2_with (first
            | (go_at_call 21; refine (HC.out _).mono ?_; rintro e w1 ⟨⟨v, rfl, hv⟩, hb1⟩; have HVS : Hid (v.size = rt.length) := Lib.hid (by have h9 := congrArg List.length hv; simpa using h9); have HV : Hid (v.data.toList = rt) := Lib.hid hv; clear hv)
            | (at_builtin; refine Lib.wpList_append_own_string _ rfl _ _ 32 9 rfl (w.heap.size) 5 i0 Try.underlying32 Try.underlying9 hi hz0 hz1 hz2 _ _ _ rfl (ho.keep hb1) v rfl ?c1 ?c2 ?c3 ?_))
          case c1 => have := HVS.out; have := HSZ.out; unfold maxLen; omega
          case c2 => have := HVS.out; have := HSZ.out; omega
          case c3 => exact Nat.le_trans hbs.out hb1.size
          intro v' w2 hown' hgrow _
          have hown := Own.put (l := acc) (n := acc.length + v.size) (x := rt) (by have := HVS.out; omega) (by rw [← HV.out]; exact hown')
          have hb2 : Below w.heap.size w w2 := (hb.trans (hb1.mono hbs.out)).grown hgrow (Nat.le_trans hbs.out hb1.size) (Own.lt (ho.keep hb1))
          have HF := Lib.hid (show (acc ++ rt) ++ unescL (s.data.toList.drop (k + rn)) attr = unescL s.data.toList attr by rw [List.append_assoc, ← HU.out, H.out])
          have HA : Hid ((acc ++ rt).length ≤ 5 * (k + rn)) := Lib.hid (by rw [List.length_append]; omega)
          clear hown' hgrow hb hal hn3
          go_wp2
          refine ⟨⟨k + rn, acc ++ rt, by omega, by rw [Int.natCast_add], hown, hb2, HF.out, HA.out⟩, ?_⟩
          simp [intOf]; omega
        · have HU : Hid (unescL (s.data.toList.drop k) attr = s[k] :: unescL (s.data.toList.drop (k + 1)) attr) := Lib.hid <| by
            have h1 := HR.out
            rw [HD.out] at h1 ⊢
            rw [unescL_byte _ _ attr (by rw [h1]; simp)]
          go_wp2_with (first
            | (go_at_call 21; refine (HC.out _).mono ?_; rintro e w1 ⟨⟨v, rfl, hv⟩, hb1⟩; have HVS : Hid (v.size = rt.length) := Lib.hid (by have h9 := congrArg List.length hv; simpa using h9); have HV : Hid (v.data.toList = rt) := Lib.hid hv; clear hv)
            | (at_builtin; refine wpList_append_own _ rfl _ _ 32 rfl (w.heap.size) 5 i0 (.int .u8 0) 1 1 Try.underlying32 hi hz0 hz1 hz2 rfl (by decide) _ _ _ rfl ((ho.keep hb1).alloc _) ⟨_, 0, none⟩ 1 1 [.int .u8 s[k].toNat] rfl rfl ?c1 ?c2 ?c3 ?c4 ?c5 ?_))
          case c1 => intro j u hj
                     match j, hj with
                     | 0, hj => simp at hj; subst hj; simp [Addr.add]
          case c2 => intro u hu; simp at hu; subst hu; rfl
          case c3 => exact HB1.out.1
          case c4 => exact HB1.out.2
          case c5 => have := hbs.out; have := hb1.size; simp; omega
          intro v' w2 hown' hgrow _
          have hown := Own.put (x := [s[k]]) (n := acc.length + 1) (by simp) hown'
          have hb2 : Below w.heap.size w w2 := Below.appended (hb.trans (hb1.mono hbs.out)) (Nat.le_trans hbs.out hb1.size) hgrow (Own.lt (ho.keep hb1))
          have HF := Lib.hid (show (acc ++ [s[k]]) ++ unescL (s.data.toList.drop (k + 1)) attr = unescL s.data.toList attr by rw [List.append_assoc, List.singleton_append, ← HU.out, H.out])
          have HA : Hid ((acc ++ [s[k]]).length ≤ 5 * (k + 1)) := Lib.hid (by rw [List.length_append]; simp; omega)
          clear hown' hgrow hb hal
          go_wp2
          refine ⟨⟨k + 1, acc ++ [s[k]], by omega, by simp, hown, hb2, HF.out, HA.out⟩, ?_⟩
          simp [intOf]; omega
      · have hc1 : ((s[k].toNat : Int) == 38) = false := by simp; omega
        have HU : Hid (unescL (s.data.toList.drop k) attr = s[k] :: unescL (s.data.toList.drop (k + 1)) attr) := Lib.hid <| by
          rw [HD.out, unescL_byte _ _ attr (by simp [hc])]
        go_wp2_with (first
            | (at_builtin; refine wpList_append_own _ rfl _ _ 32 rfl (w.heap.size) 5 i0 (.int .u8 0) 1 1 Try.underlying32 hi hz0 hz1 hz2 rfl (by decide) _ _ _ rfl (ho.alloc _) ⟨_, 0, none⟩ 1 1 [.int .u8 s[k].toNat] rfl rfl ?c1 ?c2 ?c3 ?c4 ?c5 ?_))
        case c1 => intro j u hj
                   match j, hj with
                   | 0, hj => simp at hj; subst hj; simp [Addr.add]
        case c2 => intro u hu; simp at hu; subst hu; rfl
        case c3 => exact HB1.out.1
        case c4 => exact HB1.out.2
        case c5 => have := hbs.out; simp; omega
        intro v' w2 hown' hgrow _
        have hown := Own.put (x := [s[k]]) (n := acc.length + 1) (by simp) hown'
        have hb2 : Below w.heap.size w w2 := Below.appended hb hbs.out hgrow (Own.lt ho)
        have HF := Lib.hid (show (acc ++ [s[k]]) ++ unescL (s.data.toList.drop (k + 1)) attr = unescL s.data.toList attr by rw [List.append_assoc, List.singleton_append, ← HU.out, H.out])
        have HA : Hid ((acc ++ [s[k]]).length ≤ 5 * (k + 1)) := Lib.hid (by rw [List.length_append]; simp; omega)
        clear hown' hgrow hb hal
        go_wp2
        refine ⟨⟨k + 1, acc ++ [s[k]], by omega, by simp, hown, hb2, HF.out, HA.out⟩, ?_⟩
        simp [intOf]; omega
    · have hkk : k = s.size := by omega
      subst hkk
      have hcv := ho.conv
      have hdn : s.data.toList.drop s.size = [] := by apply List.drop_eq_nil_of_le; have := HL.out; omega
      go_wp2
      go_ret
      have hf := H.out
      rw [hdn, unescL_nil, List.append_nil] at hf
      exact ⟨⟨_, rfl, by simpa using hf⟩, hb⟩
end Go.Proofs.Ythhmccdjhcfggaa
