/- The reference's readers of literals of ECMAScript, where the text is a literal: the walks. -/
import Derived.Test.YteheelcppgjeaaaDoorJsB
import Derived.Test.YteheelcppgjeaaaDoorSpecM
namespace Go.Proofs.YteheelcppgjeaaaDoor
open Go.RowKit
set_option linter.unusedVariables false
set_option linter.unusedSimpArgs false

theorem Reads.inv {stop : Bytes → Bool} {eok : Nat → Bool} {b : UInt8} {t o : Bytes} (h : Reads stop eok (b :: t) o) :
    stop (b :: t) = false ∧ ((b.toNat ≠ 92 ∧ ∃ o2, o = b :: o2 ∧ Reads stop eok t o2) ∨ (b.toNat = 92 ∧ ∃ x n o2, o = x ++ o2 ∧ eok (at0 t 0) = true ∧ Esc t x n ∧ Reads stop eok (t.drop n) o2)) := by
  cases h with
  | byte _ _ o2 h1 h2 h3 => exact ⟨h1, .inl ⟨h2, o2, rfl, h3⟩⟩
  | esc _ x n o2 h1 h2 h3 h4 => exact ⟨h1, .inr ⟨by decide, x, n, o2, rfl, h2, h3, h4⟩⟩
theorem Reads.nilo {stop : Bytes → Bool} {eok : Nat → Bool} {o : Bytes} (h : Reads stop eok [] o) : o = [] := by cases h; rfl
theorem below_drew (w : World) (n : Nat) : Below w.heap.size w (w.drewN n) := ⟨rfl, rfl, rfl, Nat.le_refl _, fun _ _ => rfl⟩

set_option maxRecDepth 100000 in
set_option maxHeartbeats 8000000 in
theorem readString_ok (s : ByteArray) (q : Nat) (o : Bytes) (hrd : Reads (stopStr q) eokAny s.data.toList o) (hv : validL s.data.toList = true) (w : World) (hs : (s.size : Int) ≤ 17179869184) :
    Calls Tryd.prog 30 #[.string s, .int .u8 q] w fun e w' => RetStrB o true e ∧ Below w.heap.size w w' := by
  obtain ⟨i0, hi, hz0, hz1, hz2⟩ := info_parts byteInfo
  have HVAL := Lib.hid (fun w => (hv ▸ valid_any s w (maxLen_of hs) : Calls Tryd.prog 23 #[.string s] w fun e w' => e = .returned (.bool true) ∧ w = w'))
  clear hv
  have hs0 : s.size ≤ 2 ^ 63 - 1 := by omega
  have HSZ := Lib.hid hs; clear hs
  have HL : Hid (s.data.toList.length = s.size) := Lib.hid (by simp)
  have HRD := Lib.hid hrd; clear hrd
  go_enter Tryd.func30, Tryd.ntmps30
  go_wp2_with fail
  go_loopw [6, 7] (fun vo i wr => ∃ (k : Nat) (acc o2 : Bytes), k ≤ s.size ∧ i = .int .i64 k ∧ Own w.heap.size vo acc wr ∧ Below w.heap.size w wr ∧ Reads (stopStr q) eokAny (s.data.toList.drop k) o2 ∧ acc ++ o2 = o ∧ acc.length ≤ 4 * k) (fun _ i _ => s.size - (intOf i).toNat)
  case atStart => exact ⟨0, [], o, Nat.zero_le _, rfl, Own.nil _ _, Below.refl _ _, HRD.out, rfl, by simp⟩
  case round =>
    rename_i vo _
    obtain ⟨k, acc, o2, hk, rfl, ho, hb, hr, hf, hal⟩ := hrel
    have H := Lib.hid hf; clear hf
    have hbs := Lib.hid hb.size
    by_cases hlt : k < s.size
    · have HD := Lib.hid (drop_cons s k hlt)
      have HB1 : Hid (acc.length + 1 ≤ maxLen ∧ (acc.length + 1) * 1 ≤ 140737488355328) := Lib.hid (by have := HSZ.out; unfold maxLen; omega)
      rw [HD.out] at hr
      obtain ⟨hst, hcase⟩ := hr.inv
      clear hr
      have hxk : (s.extract k s.size).data.toList = s[k] :: s.data.toList.drop (k + 1) := by rw [extract_end, HD.out]
      unfold stopStr at hst
      rw [Bool.or_eq_false_iff, at0_c0, beq_eq_false_iff_ne] at hst
      obtain ⟨hq, hsl⟩ := hst
      have qq : ((s[k].toNat : Int) == (q : Int)) = false := by rw [beq_eq_false_iff_ne]; omega
      clear hq
      have hline : lineEndL (s.extract k s.size).data.toList = false := by rw [hxk]; exact hsl
      have HLE := Lib.hid (fun w => lineEnd_no (s.extract k s.size) w (by unfold maxLen; simp; omega) (by simp; omega) hline)
      clear hline hsl
      clear hxk
      rcases hcase with ⟨hn92, o3, ho3, hr3⟩ | ⟨h92, x, n, o3, ho3, heok, hesc, hr3⟩
      · have q92 : ((s[k].toNat : Int) == 92) = false := by rw [beq_eq_false_iff_ne]; omega
        have HF : Hid ((acc ++ [s[k]]) ++ o3 = o) := Lib.hid (by rw [List.append_assoc, List.singleton_append, ← ho3]; exact H.out)
        have HR3 := Lib.hid hr3
        clear hn92 ho3 hr3
        go_wp2_with (first
            | (go_at_call 47; refine (HLE.out _).mono ?_; rintro e w1 ⟨rfl, rfl⟩)
            | (at_builtin; refine wpList_append_own _ rfl _ _ 36 rfl (w.heap.size) 5 i0 (.int .u8 0) 1 1 Tryd.underlying36 hi hz0 hz1 hz2 rfl (by decide) _ _ _ rfl (ho.alloc _) ⟨_, 0, none⟩ 1 1 [.int .u8 s[k].toNat] rfl rfl ?c1 ?c2 ?c3 ?c4 ?c5 ?_))
        case c1 => intro j u hj
                   match j, hj with
                   | 0, hj => simp at hj; subst hj; simp [Addr.add]
        case c2 => intro u hu; simp at hu; subst hu; rfl
        case c3 => exact HB1.out.1
        case c4 => exact HB1.out.2
        case c5 => have := hbs.out; simp; omega
        intro v' w2 hown' hgrow _
        have hown := Own.put (x := [s[k]]) (n := acc.length + 1) (by simp) hown'
        have hb2 : Below w.heap.size w w2 := Below.appended hb hbs.out hgrow (Own.lt ho)
        have HA : Hid ((acc ++ [s[k]]).length ≤ 4 * (k + 1)) := Lib.hid (by rw [List.length_append]; simp; omega)
        clear hown' hgrow hb hal
        go_wp2
        refine ⟨⟨k + 1, acc ++ [s[k]], o3, by omega, by simp, hown, hb2, HR3.out, HF.out, HA.out⟩, ?_⟩
        simp [intOf]; omega
      · obtain ⟨hne, hn1, hn2, hx4⟩ := hesc.bounds
        have q92 : ((s[k].toNat : Int) == 92) = true := by rw [beq_iff_eq]; omega
        have hln : (s.data.toList.drop (k + 1)).length = s.size - (k + 1) := by rw [List.length_drop, HL.out]
        have hk1 : k + 1 < s.size := by
          have := List.length_pos_iff.2 hne
          omega
        have hk1' : (k : Int) + 1 ≤ s.size := by omega
        have hkn : (k : Int) + (1 + n) ≤ s.size := by omega
        have hn0 : (n : Int) ≤ s.size := by omega
        have hcon := fun w => escape_any (s.extract (k + 1) s.size) x n (by rw [extract_end]; exact hesc) w (by unfold maxLen; simp; omega)
        have HC := Lib.hid hcon; clear hcon
        have HF : Hid ((acc ++ x) ++ o3 = o) := Lib.hid (by rw [List.append_assoc, ← ho3]; exact H.out)
        have HR3 : Hid (Reads (stopStr q) eokAny (s.data.toList.drop (k + (1 + n))) o3) := Lib.hid (by
          have h9 := hr3
          rw [List.drop_drop] at h9
          have : k + 1 + n = k + (1 + n) := by omega
          rwa [this] at h9)
        clear h92 ho3 hr3 hesc hne hln heok
        go_wp2_with (first
            | (go_at_call 47; refine (HLE.out _).mono ?_; rintro e w1 ⟨rfl, rfl⟩)
            | (go_at_call 45; refine (HC.out _).mono ?_; rintro e w1 ⟨⟨v, rfl, hv⟩, hb1⟩; have HVS : Hid (v.size = x.length) := Lib.hid (by have h9 := congrArg List.length hv; simpa using h9); have HV : Hid (v.data.toList = x) := Lib.hid hv; clear hv)
            | (at_builtin; refine Lib.wpList_append_own_string _ rfl _ _ 36 9 rfl (w.heap.size) 5 i0 Tryd.underlying36 Tryd.underlying9 hi hz0 hz1 hz2 _ _ _ rfl (ho.keep hb1) v rfl ?c1 ?c2 ?c3 ?_))
        case c1 => have := HVS.out; have := HSZ.out; unfold maxLen; omega
        case c2 => have := HVS.out; have := HSZ.out; omega
        case c3 => exact Nat.le_trans hbs.out hb1.size
        intro v' w2 hown' hgrow _
        have hown := Own.put (l := acc) (n := acc.length + v.size) (x := x) (by have := HVS.out; omega) (by rw [← HV.out]; exact hown')
        have hb2 : Below w.heap.size w w2 := (hb.trans (hb1.mono hbs.out)).grown hgrow (Nat.le_trans hbs.out hb1.size) (Own.lt (ho.keep hb1))
        have HA : Hid ((acc ++ x).length ≤ 4 * (k + (1 + n))) := Lib.hid (by rw [List.length_append]; omega)
        clear hown' hgrow hb hal
        go_wp2
        refine ⟨⟨k + (1 + n), acc ++ x, o3, by omega, by simp, hown, hb2, HR3.out, HF.out, HA.out⟩, ?_⟩
        simp [intOf]; omega
    · have hkk : k = s.size := by omega
      subst hkk
      have hdn : s.data.toList.drop s.size = [] := by apply List.drop_eq_nil_of_le; have := HL.out; omega
      rw [hdn] at hr
      have hf := H.out
      rw [hr.nilo, List.append_nil] at hf
      have hcv := fun n => (ho.keep (below_drew _ n)).conv
      have HF := Lib.hid hf
      clear hf hr hdn
      go_wp2_with fail
      go_quiet ((go_at_call 23; exact Calls.quiet_of_same ((HVAL.out _).mono fun _ _ h => ⟨h.1, h.2.symm⟩)))
      go_wp2_with fail
      go_ret2
      exact ⟨⟨_, rfl, by simpa using HF.out⟩, hb.trans ((below_drew _ _).mono hbs.out)⟩

set_option maxRecDepth 100000 in
set_option maxHeartbeats 8000000 in
theorem readTemplate_ok (s : ByteArray) (o : Bytes) (hrd : Reads stopTmpl eokAny s.data.toList o) (hv : validL s.data.toList = true) (w : World) (hs : (s.size : Int) ≤ 17179869184) :
    Calls Tryd.prog 25 #[.string s] w fun e w' => RetStrB o true e ∧ Below w.heap.size w w' := by
  obtain ⟨i0, hi, hz0, hz1, hz2⟩ := info_parts byteInfo
  have HVAL := Lib.hid (fun w => (hv ▸ valid_any s w (maxLen_of hs) : Calls Tryd.prog 23 #[.string s] w fun e w' => e = .returned (.bool true) ∧ w = w'))
  clear hv
  have hs0 : s.size ≤ 2 ^ 63 - 1 := by omega
  have HSZ := Lib.hid hs; clear hs
  have HL : Hid (s.data.toList.length = s.size) := Lib.hid (by simp)
  have HRD := Lib.hid hrd; clear hrd
  go_enter Tryd.func25, Tryd.ntmps25
  go_wp2_with fail
  go_loopw [4, 5] (fun vo i wr => ∃ (k : Nat) (acc o2 : Bytes), k ≤ s.size ∧ i = .int .i64 k ∧ Own w.heap.size vo acc wr ∧ Below w.heap.size w wr ∧ Reads stopTmpl eokAny (s.data.toList.drop k) o2 ∧ acc ++ o2 = o ∧ acc.length ≤ 4 * k) (fun _ i _ => s.size - (intOf i).toNat)
  case atStart => exact ⟨0, [], o, Nat.zero_le _, rfl, Own.nil _ _, Below.refl _ _, HRD.out, rfl, by simp⟩
  case round =>
    rename_i vo _
    obtain ⟨k, acc, o2, hk, rfl, ho, hb, hr, hf, hal⟩ := hrel
    have H := Lib.hid hf; clear hf
    have hbs := Lib.hid hb.size
    by_cases hlt : k < s.size
    · have HD := Lib.hid (drop_cons s k hlt)
      have HB1 : Hid (acc.length + 1 ≤ maxLen ∧ (acc.length + 1) * 1 ≤ 140737488355328) := Lib.hid (by have := HSZ.out; unfold maxLen; omega)
      rw [HD.out] at hr
      obtain ⟨hst, hcase⟩ := hr.inv
      clear hr
      have hxk : (s.extract k s.size).data.toList = s[k] :: s.data.toList.drop (k + 1) := by rw [extract_end, HD.out]
      have hst1 : s[k].toNat ≠ 96 ∧ s[k].toNat ≠ 13 ∧ s[k].toNat ≠ 36 := by
        unfold stopTmpl at hst
        rw [at0_c0] at hst
        simp only [Bool.or_eq_false_iff, beq_eq_false_iff_ne] at hst
        exact ⟨hst.1.1, hst.1.2, hst.2⟩
      obtain ⟨hs1, hs2, hs3⟩ := hst1
      have q1 : ((s[k].toNat : Int) == 96) = false := by rw [beq_eq_false_iff_ne]; omega
      have q2 : ((s[k].toNat : Int) == 13) = false := by rw [beq_eq_false_iff_ne]; omega
      have q3 : ((s[k].toNat : Int) == 36) = false := by rw [beq_eq_false_iff_ne]; omega
      clear hs1 hs2 hs3
      clear hst hxk
      rcases hcase with ⟨hn92, o3, ho3, hr3⟩ | ⟨h92, x, n, o3, ho3, heok, hesc, hr3⟩
      · have q92 : ((s[k].toNat : Int) == 92) = false := by rw [beq_eq_false_iff_ne]; omega
        have HF : Hid ((acc ++ [s[k]]) ++ o3 = o) := Lib.hid (by rw [List.append_assoc, List.singleton_append, ← ho3]; exact H.out)
        have HR3 := Lib.hid hr3
        clear hn92 ho3 hr3
        go_wp2_with (first

            | (at_builtin; refine wpList_append_own _ rfl _ _ 36 rfl (w.heap.size) 5 i0 (.int .u8 0) 1 1 Tryd.underlying36 hi hz0 hz1 hz2 rfl (by decide) _ _ _ rfl (ho.alloc _) ⟨_, 0, none⟩ 1 1 [.int .u8 s[k].toNat] rfl rfl ?c1 ?c2 ?c3 ?c4 ?c5 ?_))
        case c1 => intro j u hj
                   match j, hj with
                   | 0, hj => simp at hj; subst hj; simp [Addr.add]
        case c2 => intro u hu; simp at hu; subst hu; rfl
        case c3 => exact HB1.out.1
        case c4 => exact HB1.out.2
        case c5 => have := hbs.out; simp; omega
        intro v' w2 hown' hgrow _
        have hown := Own.put (x := [s[k]]) (n := acc.length + 1) (by simp) hown'
        have hb2 : Below w.heap.size w w2 := Below.appended hb hbs.out hgrow (Own.lt ho)
        have HA : Hid ((acc ++ [s[k]]).length ≤ 4 * (k + 1)) := Lib.hid (by rw [List.length_append]; simp; omega)
        clear hown' hgrow hb hal
        go_wp2
        refine ⟨⟨k + 1, acc ++ [s[k]], o3, by omega, by simp, hown, hb2, HR3.out, HF.out, HA.out⟩, ?_⟩
        simp [intOf]; omega
      · obtain ⟨hne, hn1, hn2, hx4⟩ := hesc.bounds
        have q92 : ((s[k].toNat : Int) == 92) = true := by rw [beq_iff_eq]; omega
        have hln : (s.data.toList.drop (k + 1)).length = s.size - (k + 1) := by rw [List.length_drop, HL.out]
        have hk1 : k + 1 < s.size := by
          have := List.length_pos_iff.2 hne
          omega
        have hk1' : (k : Int) + 1 ≤ s.size := by omega
        have hkn : (k : Int) + (1 + n) ≤ s.size := by omega
        have hn0 : (n : Int) ≤ s.size := by omega
        have hcon := fun w => escape_any (s.extract (k + 1) s.size) x n (by rw [extract_end]; exact hesc) w (by unfold maxLen; simp; omega)
        have HC := Lib.hid hcon; clear hcon
        have HF : Hid ((acc ++ x) ++ o3 = o) := Lib.hid (by rw [List.append_assoc, ← ho3]; exact H.out)
        have HR3 : Hid (Reads stopTmpl eokAny (s.data.toList.drop (k + (1 + n))) o3) := Lib.hid (by
          have h9 := hr3
          rw [List.drop_drop] at h9
          have : k + 1 + n = k + (1 + n) := by omega
          rwa [this] at h9)
        clear h92 ho3 hr3 hesc hne hln heok
        go_wp2_with (first

            | (go_at_call 45; refine (HC.out _).mono ?_; rintro e w1 ⟨⟨v, rfl, hv⟩, hb1⟩; have HVS : Hid (v.size = x.length) := Lib.hid (by have h9 := congrArg List.length hv; simpa using h9); have HV : Hid (v.data.toList = x) := Lib.hid hv; clear hv)
            | (at_builtin; refine Lib.wpList_append_own_string _ rfl _ _ 36 9 rfl (w.heap.size) 5 i0 Tryd.underlying36 Tryd.underlying9 hi hz0 hz1 hz2 _ _ _ rfl (ho.keep hb1) v rfl ?c1 ?c2 ?c3 ?_))
        case c1 => have := HVS.out; have := HSZ.out; unfold maxLen; omega
        case c2 => have := HVS.out; have := HSZ.out; omega
        case c3 => exact Nat.le_trans hbs.out hb1.size
        intro v' w2 hown' hgrow _
        have hown := Own.put (l := acc) (n := acc.length + v.size) (x := x) (by have := HVS.out; omega) (by rw [← HV.out]; exact hown')
        have hb2 : Below w.heap.size w w2 := (hb.trans (hb1.mono hbs.out)).grown hgrow (Nat.le_trans hbs.out hb1.size) (Own.lt (ho.keep hb1))
        have HA : Hid ((acc ++ x).length ≤ 4 * (k + (1 + n))) := Lib.hid (by rw [List.length_append]; omega)
        clear hown' hgrow hb hal
        go_wp2
        refine ⟨⟨k + (1 + n), acc ++ x, o3, by omega, by simp, hown, hb2, HR3.out, HF.out, HA.out⟩, ?_⟩
        simp [intOf]; omega
    · have hkk : k = s.size := by omega
      subst hkk
      have hdn : s.data.toList.drop s.size = [] := by apply List.drop_eq_nil_of_le; have := HL.out; omega
      rw [hdn] at hr
      have hf := H.out
      rw [hr.nilo, List.append_nil] at hf
      have hcv := fun n => (ho.keep (below_drew _ n)).conv
      have HF := Lib.hid hf
      clear hf hr hdn
      go_wp2_with fail
      go_quiet ((go_at_call 23; exact Calls.quiet_of_same ((HVAL.out _).mono fun _ _ h => ⟨h.1, h.2.symm⟩)))
      go_wp2_with fail
      go_ret2
      exact ⟨⟨_, rfl, by simpa using HF.out⟩, hb.trans ((below_drew _ _).mono hbs.out)⟩

set_option maxRecDepth 100000 in
set_option maxHeartbeats 8000000 in
theorem readPattern_ok (s : ByteArray) (o : Bytes) (hrd : Reads stopPat eokPat s.data.toList o) (hv : validL s.data.toList = true) (w : World) (hs : (s.size : Int) ≤ 17179869184) :
    Calls Tryd.prog 28 #[.string s] w fun e w' => RetStrB o true e ∧ Below w.heap.size w w' := by
  obtain ⟨i0, hi, hz0, hz1, hz2⟩ := info_parts byteInfo
  have HVAL := Lib.hid (fun w => (hv ▸ valid_any s w (maxLen_of hs) : Calls Tryd.prog 23 #[.string s] w fun e w' => e = .returned (.bool true) ∧ w = w'))
  clear hv
  have hs0 : s.size ≤ 2 ^ 63 - 1 := by omega
  have HSZ := Lib.hid hs; clear hs
  have HL : Hid (s.data.toList.length = s.size) := Lib.hid (by simp)
  have HRD := Lib.hid hrd; clear hrd
  have hnp : s.data.toList ≠ [40, 63, 58, 41] := by
    intro h
    have h1 := HRD.out
    rw [h] at h1
    exact absurd h1.inv.1 (by decide)
  have np1 : (s.toList = [40, 63, 58, 41]) = False := by rw [Lib.toList_data]; exact eq_false hnp
  have np2 : (s.toList == [40, 63, 58, 41]) = false := by rw [Lib.toList_data, beq_eq_false_iff_ne]; exact hnp
  clear hnp
  have HN0 : Hid True := Lib.hid trivial
  go_enter Tryd.func28, Tryd.ntmps28
  go_wp2_with fail
  go_loopw [4, 5] (fun vo i wr => ∃ (k : Nat) (acc o2 : Bytes), k ≤ s.size ∧ i = .int .i64 k ∧ Own w.heap.size vo acc wr ∧ Below w.heap.size w wr ∧ Reads stopPat eokPat (s.data.toList.drop k) o2 ∧ acc ++ o2 = o ∧ acc.length ≤ 4 * k) (fun _ i _ => s.size - (intOf i).toNat)
  case atStart => exact ⟨0, [], o, Nat.zero_le _, rfl, Own.nil _ _, Below.refl _ _, HRD.out, rfl, by simp⟩
  case round =>
    rename_i vo _
    obtain ⟨k, acc, o2, hk, rfl, ho, hb, hr, hf, hal⟩ := hrel
    have H := Lib.hid hf; clear hf
    have hbs := Lib.hid hb.size
    by_cases hlt : k < s.size
    · have HD := Lib.hid (drop_cons s k hlt)
      have HB1 : Hid (acc.length + 1 ≤ maxLen ∧ (acc.length + 1) * 1 ≤ 140737488355328) := Lib.hid (by have := HSZ.out; unfold maxLen; omega)
      rw [HD.out] at hr
      obtain ⟨hst, hcase⟩ := hr.inv
      clear hr
      have hxk : (s.extract k s.size).data.toList = s[k] :: s.data.toList.drop (k + 1) := by rw [extract_end, HD.out]
      unfold stopPat at hst
      rw [Bool.or_eq_false_iff, at0_c0] at hst
      obtain ⟨hpat, hsl⟩ := hst
      have hhas := fun w => has_any ⟨#[94, 36, 46, 42, 43, 63, 40, 41, 91, 93, 123, 125, 124, 47]⟩ s[k].toNat w (by decide)
      rw [show hasB (⟨#[94, 36, 46, 42, 43, 63, 40, 41, 91, 93, 123, 125, 124, 47]⟩ : ByteArray).data.toList s[k].toNat = false from hpat] at hhas
      have HPAT := Lib.hid hhas
      clear hhas hpat
      have hline : lineEndL (s.extract k s.size).data.toList = false := by rw [hxk]; exact hsl
      have HLE := Lib.hid (fun w => lineEnd_no (s.extract k s.size) w (by unfold maxLen; simp; omega) (by simp; omega) hline)
      clear hline hsl
      clear hxk
      rcases hcase with ⟨hn92, o3, ho3, hr3⟩ | ⟨h92, x, n, o3, ho3, heok, hesc, hr3⟩
      · have q92 : ((s[k].toNat : Int) == 92) = false := by rw [beq_eq_false_iff_ne]; omega
        have HF : Hid ((acc ++ [s[k]]) ++ o3 = o) := Lib.hid (by rw [List.append_assoc, List.singleton_append, ← ho3]; exact H.out)
        have HR3 := Lib.hid hr3
        clear hn92 ho3 hr3
        go_wp2_with (first
            | (clear HN0; go_at_call 31; refine (HPAT.out _).mono ?_; rintro e w1 ⟨rfl, rfl⟩)
            | (go_at_call 47; refine (HLE.out _).mono ?_; rintro e w1 ⟨rfl, rfl⟩)
            | (at_builtin; refine wpList_append_own _ rfl _ _ 36 rfl (w.heap.size) 5 i0 (.int .u8 0) 1 1 Tryd.underlying36 hi hz0 hz1 hz2 rfl (by decide) _ _ _ rfl (ho.alloc _) ⟨_, 0, none⟩ 1 1 [.int .u8 s[k].toNat] rfl rfl ?c1 ?c2 ?c3 ?c4 ?c5 ?_))
        case c1 => intro j u hj
                   match j, hj with
                   | 0, hj => simp at hj; subst hj; simp [Addr.add]
        case c2 => intro u hu; simp at hu; subst hu; rfl
        case c3 => exact HB1.out.1
        case c4 => exact HB1.out.2
        case c5 => have := hbs.out; simp; omega
        intro v' w2 hown' hgrow _
        have hown := Own.put (x := [s[k]]) (n := acc.length + 1) (by simp) hown'
        have hb2 : Below w.heap.size w w2 := Below.appended hb hbs.out hgrow (Own.lt ho)
        have HA : Hid ((acc ++ [s[k]]).length ≤ 4 * (k + 1)) := Lib.hid (by rw [List.length_append]; simp; omega)
        clear hown' hgrow hb hal
        go_wp2
        refine ⟨⟨k + 1, acc ++ [s[k]], o3, by omega, by simp, hown, hb2, HR3.out, HF.out, HA.out⟩, ?_⟩
        simp [intOf]; omega
      · obtain ⟨hne, hn1, hn2, hx4⟩ := hesc.bounds
        have q92 : ((s[k].toNat : Int) == 92) = true := by rw [beq_iff_eq]; omega
        have hln : (s.data.toList.drop (k + 1)).length = s.size - (k + 1) := by rw [List.length_drop, HL.out]
        have hk1 : k + 1 < s.size := by
          have := List.length_pos_iff.2 hne
          omega
        have hk1' : (k : Int) + 1 ≤ s.size := by omega
        have hkn : (k : Int) + (1 + n) ≤ s.size := by omega
        have hn0 : (n : Int) ≤ s.size := by omega
        have hcon := fun w => escape_any (s.extract (k + 1) s.size) x n (by rw [extract_end]; exact hesc) w (by unfold maxLen; simp; omega)
        have HC := Lib.hid hcon; clear hcon
        have hcc : at0 (s.data.toList.drop (k + 1)) 0 = s[k + 1].toNat := by rw [drop_cons s (k + 1) hk1, at0_c0]
        rw [hcc] at heok
        have hesc2 : ∃ a b, isAlnumB s[k + 1].toNat = a ∧ hasB escLetters s[k + 1].toNat = b ∧ (a && !b) = false ∧ s[k + 1].toNat < 128 := by
          refine ⟨_, _, rfl, rfl, ?_⟩
          unfold eokPat at heok
          rw [Bool.not_eq_true', Bool.or_eq_false_iff, decide_eq_false_iff_not] at heok
          exact ⟨heok.1, by omega⟩
        obtain ⟨ba, bb, hba, hbb, hab, h128⟩ := hesc2
        have hal1 := fun w => isAlnum_any s[k + 1].toNat w
        rw [hba] at hal1
        have HAL := Lib.hid hal1
        have hle2 := fun w => has_any ⟨#[120, 117, 116, 110, 118, 102, 114, 48]⟩ s[k + 1].toNat w (by decide)
        rw [show hasB (⟨#[120, 117, 116, 110, 118, 102, 114, 48]⟩ : ByteArray).data.toList s[k + 1].toNat = bb from hbb] at hle2
        have HLE2 := Lib.hid hle2
        have q128 : decide ((128 : Int) ≤ s[k + 1].toNat) = false := by rw [decide_eq_false_iff_not]; omega
        clear hal1 hle2 hba hbb h128 hcc
        have HF : Hid ((acc ++ x) ++ o3 = o) := Lib.hid (by rw [List.append_assoc, ← ho3]; exact H.out)
        have HR3 : Hid (Reads stopPat eokPat (s.data.toList.drop (k + (1 + n))) o3) := Lib.hid (by
          have h9 := hr3
          rw [List.drop_drop] at h9
          have : k + 1 + n = k + (1 + n) := by omega
          rwa [this] at h9)
        clear h92 ho3 hr3 hesc hne hln heok
        have hbab : ba = false ∨ (ba = true ∧ bb = true) := by cases ba <;> cases bb <;> simp_all
        clear hab
        rcases hbab with rfl | ⟨rfl, rfl⟩
        all_goals
          go_wp2_with (first
              | (clear HN0; go_at_call 31; refine (HPAT.out _).mono ?_; rintro e w1 ⟨rfl, rfl⟩)
              | (go_at_call 47; refine (HLE.out _).mono ?_; rintro e w1 ⟨rfl, rfl⟩)
              | (go_at_call 48; refine (HAL.out _).mono ?_; rintro e w1 ⟨rfl, rfl⟩)
              | (go_at_call 31; refine (HLE2.out _).mono ?_; rintro e w1 ⟨rfl, rfl⟩)
              | (go_at_call 45; refine (HC.out _).mono ?_; rintro e w1 ⟨⟨v, rfl, hv⟩, hb1⟩; have HVS : Hid (v.size = x.length) := Lib.hid (by have h9 := congrArg List.length hv; simpa using h9); have HV : Hid (v.data.toList = x) := Lib.hid hv; clear hv)
              | (at_builtin; refine Lib.wpList_append_own_string _ rfl _ _ 36 9 rfl (w.heap.size) 5 i0 Tryd.underlying36 Tryd.underlying9 hi hz0 hz1 hz2 _ _ _ rfl (ho.keep hb1) v rfl ?c1 ?c2 ?c3 ?_))
          case c1 => have := HVS.out; have := HSZ.out; unfold maxLen; omega
          case c2 => have := HVS.out; have := HSZ.out; omega
          case c3 => exact Nat.le_trans hbs.out hb1.size
          intro v' w2 hown' hgrow _
          have hown := Own.put (l := acc) (n := acc.length + v.size) (x := x) (by have := HVS.out; omega) (by rw [← HV.out]; exact hown')
          have hb2 : Below w.heap.size w w2 := (hb.trans (hb1.mono hbs.out)).grown hgrow (Nat.le_trans hbs.out hb1.size) (Own.lt (ho.keep hb1))
          have HA : Hid ((acc ++ x).length ≤ 4 * (k + (1 + n))) := Lib.hid (by rw [List.length_append]; omega)
          clear hown' hgrow hb hal
          go_wp2
          refine ⟨⟨k + (1 + n), acc ++ x, o3, by omega, by simp, hown, hb2, HR3.out, HF.out, HA.out⟩, ?_⟩
          simp [intOf]; omega
    · have hkk : k = s.size := by omega
      subst hkk
      have hdn : s.data.toList.drop s.size = [] := by apply List.drop_eq_nil_of_le; have := HL.out; omega
      rw [hdn] at hr
      have hf := H.out
      rw [hr.nilo, List.append_nil] at hf
      have hcv := fun n => (ho.keep (below_drew _ n)).conv
      have HF := Lib.hid hf
      clear hf hr hdn
      go_wp2_with fail
      go_quiet ((go_at_call 23; exact Calls.quiet_of_same ((HVAL.out _).mono fun _ _ h => ⟨h.1, h.2.symm⟩)))
      go_wp2_with fail
      go_ret2
      exact ⟨⟨_, rfl, by simpa using HF.out⟩, hb.trans ((below_drew _ _).mono hbs.out)⟩
end Go.Proofs.YteheelcppgjeaaaDoor
