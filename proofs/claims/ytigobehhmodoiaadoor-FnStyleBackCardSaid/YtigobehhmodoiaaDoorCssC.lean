/- The reference's StyleText and ReadStyle. -/
import Derived.Test.YtigobehhmodoiaaDoorCssB
import Derived.Test.YtigobehhmodoiaaDoorOwn
namespace Go.Proofs.YtigobehhmodoiaaDoor
open Go.RowKit
set_option linter.unusedVariables false
set_option linter.unusedSimpArgs false

def RetOpt (o : Option Bytes) (e : Ending) : Prop := match o with
  | some l => RetStrB l true e
  | none => e = .returned (.tuple #[.string ⟨#[]⟩, .bool false])
theorem codedL_le (n : Nat) : (codedL n).length ≤ 4 := by
  unfold codedL
  repeat' split
  all_goals simp
theorem sizeL_le4 (l : Bytes) : sizeL l ≤ 4 := by
  unfold sizeL decL Go.Lib.decodeN
  generalize at0 l 0 = b0, at0 l 1 = b1, at0 l 2 = b2, at0 l 3 = b3, l.length = n at *
  repeat' split
  all_goals simp_all
theorem cssEsc_le (t : Bytes) (h : (cssEscL t).2.2 = true) : 1 ≤ (cssEscL t).2.1 ∧ (cssEscL t).2.1 ≤ t.length ∧ (cssEscL t).1.length ≤ 4 := by
  unfold cssEscL at h ⊢
  by_cases hA : t = [] ∨ at0 t 0 = 10 ∨ at0 t 0 = 13 ∨ at0 t 0 = 12
  · rw [if_pos hA] at h; cases h
  · rw [if_neg hA] at h ⊢
    simp only [not_or] at hA
    obtain ⟨⟨V, N⟩, hp⟩ : ∃ p, hexRun 6 t 0 0 = p := ⟨_, rfl⟩
    obtain ⟨_, _, hNL, _⟩ := hexRun_bound _ _ _ _ _ _ hp
    rw [hp] at h ⊢
    simp only at h ⊢
    by_cases hN : N = 0
    · rw [if_pos hN] at h ⊢
      simp only [decide_eq_true_eq] at h
      have h4 := sizeL_le4 t
      have hl := sizeL_le t hA.1
      refine ⟨by simp only; omega, by simp only; omega, ?_⟩
      simp only [List.length_take]
      omega
    · rw [if_neg hN] at h ⊢
      by_cases hV : V = 0 ∨ 0x10ffff < V
      · rw [if_pos hV] at h; cases h
      · rw [if_neg hV]
        refine ⟨?_, ?_, codedL_le _⟩
        · simp only
          unfold blankEnd
          repeat' split
          all_goals omega
        · simp only
          unfold blankEnd
          repeat' split
          all_goals omega

set_option maxRecDepth 100000 in
set_option maxHeartbeats 8000000 in
theorem styleText_any (s : ByteArray) (w : World) (hs : (s.size : Int) ≤ 17179869184) :
    Calls Tryd.prog 21 #[.string s] w fun e w' => RetOpt (styleL s.data.toList) e ∧ Below w.heap.size w w' := by
  obtain ⟨i0, hi, hz0, hz1, hz2⟩ := info_parts byteInfo
  have hs0 : s.size ≤ 2 ^ 63 - 1 := by omega
  have HSZ := Lib.hid hs; clear hs
  have HL : Hid (s.data.toList.length = s.size) := Lib.hid (by simp)
  go_enter Tryd.func21, Tryd.ntmps21
  go_wp2_with fail
  go_loopw [4, 5] (fun vo i wr => ∃ (k : Nat) (acc : Bytes), k ≤ s.size ∧ i = .int .i64 k ∧ Own w.heap.size vo acc wr ∧ Below w.heap.size w wr ∧ (styleL (s.data.toList.drop k)).map (acc ++ ·) = styleL s.data.toList ∧ acc.length ≤ 4 * k) (fun _ i _ => s.size - (intOf i).toNat)
  case atStart => exact ⟨0, [], Nat.zero_le _, rfl, Own.nil _ _, Below.refl _ _, by simp, by simp⟩
  case round =>
    obtain ⟨k, acc, hk, rfl, ho, hb, hf, hal⟩ := hrel
    have H := Lib.hid hf; clear hf
    have hbs := Lib.hid hb.size
    by_cases hlt : k < s.size
    · have HD := Lib.hid (drop_cons s k hlt)
      have HB1 : Hid (acc.length + 1 ≤ maxLen ∧ (acc.length + 1) * 1 ≤ 140737488355328) := Lib.hid (by have := HSZ.out; unfold maxLen; omega)
      by_cases hc : s[k].toNat = 92
      · have hc1 : ((s[k].toNat : Int) != 92) = false := by simp [hc]
        have hst := styleL_esc s[k] (s.data.toList.drop (k + 1)) hc
        rw [← HD.out] at hst
        have hcon := fun w => styleEscape_any (s.extract (k + 1) s.size) w (by unfold maxLen; simp; omega)
        rw [extract_end] at hcon
        obtain ⟨⟨x, n, b⟩, hp⟩ : ∃ p, cssEscL (s.data.toList.drop (k + 1)) = p := ⟨_, rfl⟩
        have hle := cssEsc_le (s.data.toList.drop (k + 1))
        rw [hp] at hst hcon hle
        rw [List.length_drop, HL.out] at hle
        simp only at hst hle
        have HC := Lib.hid hcon; clear hcon
        have hk1 : (k : Int) + 1 ≤ s.size := by omega
        clear hp hc
        cases b
        · have HR : Hid (styleL s.data.toList = none) := Lib.hid (by rw [← H.out, hst]; rfl)
          clear hst hle
          go_wp2_with (first
            | (go_at_call 47; refine (HC.out _).mono ?_; rintro e w1 ⟨⟨v, rfl, hv⟩, hb1⟩; have HV := Lib.hid hv; clear hv))
          go_ret2
          refine ⟨?_, hb.trans (hb1.mono hbs.out)⟩
          rw [HR.out]
          exact rfl
        · obtain ⟨hn1, hn2, hx4⟩ := hle rfl
          have HF : Hid ((styleL (s.data.toList.drop (k + (1 + n)))).map ((acc ++ x) ++ ·) = styleL s.data.toList) := Lib.hid (by
            rw [← H.out, hst, if_pos rfl, List.drop_drop, Option.map_map, show k + 1 + n = k + (1 + n) by omega]
            congr 1
            funext y
            simp [List.append_assoc])
          have hkn : (k : Int) + (1 + n) ≤ s.size := by omega
          have hn0 : (n : Int) ≤ s.size := by omega
          clear hst hle
          go_wp2_with (first
            | (go_at_call 47; refine (HC.out _).mono ?_; rintro e w1 ⟨⟨v, rfl, hv⟩, hb1⟩; have HVS : Hid (v.size = x.length) := Lib.hid (by have h9 := congrArg List.length hv; simpa using h9); have HV : Hid (v.data.toList = x) := Lib.hid hv; clear hv)
            | (at_builtin; refine Lib.wpList_append_own_string _ rfl _ _ 34 9 rfl (w.heap.size) 5 i0 Tryd.underlying34 Tryd.underlying9 hi hz0 hz1 hz2 _ _ _ rfl (ho.keep hb1) v rfl ?c1 ?c2 ?c3 ?_))
          case c1 => have := HVS.out; have := HSZ.out; unfold maxLen; omega
          case c2 => have := HVS.out; have := HSZ.out; omega
          case c3 => exact Nat.le_trans hbs.out hb1.size
          intro v' w2 hown' hgrow _
          have hown := Own.put (l := acc) (n := acc.length + v.size) (x := x) (by have := HVS.out; omega) (by rw [← HV.out]; exact hown')
          have hb2 : Below w.heap.size w w2 := (hb.trans (hb1.mono hbs.out)).grown hgrow (Nat.le_trans hbs.out hb1.size) (Own.lt (ho.keep hb1))
          have HA : Hid ((acc ++ x).length ≤ 4 * (k + (1 + n))) := Lib.hid (by rw [List.length_append]; omega)
          clear hown' hgrow hb hal
          go_wp2
          refine ⟨⟨k + (1 + n), acc ++ x, by omega, by simp, hown, hb2, HF.out, HA.out⟩, ?_⟩
          simp [intOf]; omega
      · have hc1 : ((s[k].toNat : Int) != 92) = true := by simp; omega
        have HF : Hid ((styleL (s.data.toList.drop (k + 1))).map ((acc ++ [s[k]]) ++ ·) = styleL s.data.toList) := Lib.hid (by
          rw [← H.out, HD.out, styleL_byte _ _ hc, Option.map_map]
          congr 1
          funext y
          simp)
        clear hc
        go_wp2_with (first
            | (at_builtin; refine wpList_append_own _ rfl _ _ 34 rfl (w.heap.size) 5 i0 (.int .u8 0) 1 1 Tryd.underlying34 hi hz0 hz1 hz2 rfl (by decide) _ _ _ rfl (ho.alloc _) ⟨_, 0, none⟩ 1 1 [.int .u8 s[k].toNat] rfl rfl ?c1 ?c2 ?c3 ?c4 ?c5 ?_))
        case c1 => intro j u hj
                   match j, hj with
                   | 0, hj => simp at hj; subst hj; simp [Addr.add]
        case c2 => intro u hu; simp at hu; subst hu; rfl
        case c3 => exact HB1.out.1
        case c4 => exact HB1.out.2
        case c5 => have := hbs.out; simp; omega
        intro v' w2 hown' hgrow _
        have hown := Own.put (x := [s[k]]) (n := acc.length + 1) (by simp) hown'
        have hb2 : Below w.heap.size w w2 := Below.appended hb hbs.out hgrow (Own.lt ho)
        have HA : Hid ((acc ++ [s[k]]).length ≤ 4 * (k + 1)) := Lib.hid (by rw [List.length_append]; simp; omega)
        clear hown' hgrow hb hal
        go_wp2
        refine ⟨⟨k + 1, acc ++ [s[k]], by omega, by simp, hown, hb2, HF.out, HA.out⟩, ?_⟩
        simp [intOf]; omega
    · have hkk : k = s.size := by omega
      subst hkk
      have hcv := ho.conv
      have hdn : s.data.toList.drop s.size = [] := by apply List.drop_eq_nil_of_le; have := HL.out; omega
      have HR : Hid (styleL s.data.toList = some acc) := Lib.hid (by rw [← H.out, hdn, styleL_nil]; simp)
      clear hdn
      go_wp2
      go_ret2
      refine ⟨?_, hb⟩
      rw [HR.out]
      exact ⟨_, rfl, by simp⟩

set_option maxRecDepth 100000 in
set_option maxHeartbeats 4000000 in
theorem readStyle_ok (s : ByteArray) (q : Nat) (o : Bytes) (hno : ∀ (k : Nat) (h : k < s.size), s[k].toNat ≠ q ∧ s[k].toNat ≠ 10 ∧ s[k].toNat ≠ 13 ∧ s[k].toNat ≠ 12 ∧ s[k].toNat ≠ 0) (hv : validL s.data.toList = true) (ho : styleL s.data.toList = some o) (w : World) (hs : (s.size : Int) ≤ 17179869184) :
    Calls Tryd.prog 18 #[.string s, .int .u8 q] w fun e w' => RetStrB o true e ∧ Below w.heap.size w w' := by
  have hval := fun w => valid_any s w (maxLen_of hs)
  rw [hv] at hval
  have HVAL := Lib.hid hval
  have hst := fun w => styleText_any s w hs
  rw [ho] at hst
  have HST : Hid (∀ w, Calls Tryd.prog 21 #[.string s] w fun e w' => RetStrB o true e ∧ Below w.heap.size w w') := Lib.hid hst
  have HNO := Lib.hid hno
  have hs0 : s.size ≤ 2 ^ 63 - 2 := by omega
  clear hv ho hval hst hno hs
  go_enter Tryd.func18, Tryd.ntmps18
  go_wp2_with fail
  go_loop [6] (fun i => ∃ k : Nat, k ≤ s.size + 1 ∧ i = .int .i64 k) (fun i => s.size + 1 - (intOf i).toNat)
  case atStart => exact ⟨0, Nat.zero_le _, rfl⟩
  case round =>
    obtain ⟨k, hk, rfl⟩ := hrel
    by_cases hlt : k < s.size
    · obtain ⟨n1, n2, n3, n4, n5⟩ := HNO.out k hlt
      have k1 : ((s[k].toNat : Int) == (q : Int)) = false := by rw [beq_eq_false_iff_ne]; omega
      have k2 : ((s[k].toNat : Int) == 10) = false := by rw [beq_eq_false_iff_ne]; omega
      have k3 : ((s[k].toNat : Int) == 13) = false := by rw [beq_eq_false_iff_ne]; omega
      have k4 : ((s[k].toNat : Int) == 12) = false := by rw [beq_eq_false_iff_ne]; omega
      have k5 : ((s[k].toNat : Int) == 0) = false := by rw [beq_eq_false_iff_ne]; omega
      clear n1 n2 n3 n4 n5
      by_cases hc : s[k].toNat = 92
      · have c1 : ((s[k].toNat : Int) == 92) = true := by rw [beq_iff_eq]; omega
        clear hc
        go_wp2_with fail
        go_round
        case rel => exact ⟨k + 2, by omega, by go_num⟩
        case measure => simp [intOf]; omega
      · have c1 : ((s[k].toNat : Int) == 92) = false := by rw [beq_eq_false_iff_ne]; omega
        clear hc
        go_wp2_with fail
        go_round
        case rel => exact ⟨k + 1, by omega, by go_num⟩
        case measure => simp [intOf]; omega
    · have hge : (s.size : Int) ≤ k := by omega
      go_wp2_with (first
        | (go_at_call 15; refine (HVAL.out _).mono ?_; rintro e w' ⟨rfl, rfl⟩)
        | (go_at_call 21; refine (HST.out _).mono ?_; rintro e w1 ⟨⟨v, rfl, hv⟩, hb1⟩; have HV := Lib.hid hv; clear hv))
      go_ret2
      exact ⟨⟨_, rfl, HV.out⟩, hb1⟩
end Go.Proofs.YtigobehhmodoiaaDoor
