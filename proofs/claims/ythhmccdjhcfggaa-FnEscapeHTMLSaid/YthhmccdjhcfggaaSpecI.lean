/- The reference's numeric. -/
import Derived.Test.YthhmccdjhcfggaaSpecH
namespace Go.Proofs.Ythhmccdjhcfggaa
open Go.RowKit
set_option linter.unusedVariables false
set_option linter.unusedSimpArgs false

def RetRef (p : Bytes × Nat × Bool) (e : Ending) : Prop := ∃ v : ByteArray, e = .returned (.tuple #[.string v, .int .i64 p.2.1, .bool p.2.2]) ∧ v.data.toList = p.1

theorem numeric_none (l : Bytes) (x : Nat) (h : numGo (numBase l) (l.drop (numFirst l)) 0 (numFirst l) = (x, numFirst l)) : numericL l = ([], 0, false) := by
  unfold numericL; simp only [h, if_true]
theorem numeric_some (l : Bytes) (x k : Nat) (h : numGo (numBase l) (l.drop (numFirst l)) 0 (numFirst l) = (x, k)) (hk : k ≠ numFirst l) :
    numericL l = (codedL (charOfN x), (if k < l.length ∧ at0 l k = 59 then k + 1 else k), true) := by
  unfold numericL; simp only [h, if_neg hk]
theorem drop_at (l : Bytes) (k : Nat) (h : k < l.length) : ∃ b, l.drop k = b :: l.drop (k + 1) ∧ b.toNat = at0 l k := by
  refine ⟨l[k], List.drop_eq_getElem_cons h, ?_⟩
  unfold at0; rw [List.getD_eq_getElem?_getD, List.getElem?_eq_getElem h]; rfl
theorem numGo_digit (B : Nat) (l : Bytes) (x k : Nat) (h : k < l.length) (hd : digitV (at0 l k) < B) :
    numGo B (l.drop k) x k = numGo B (l.drop (k + 1)) (min (x * B + digitV (at0 l k)) 0x110000) (k + 1) := by
  obtain ⟨b, e, hb⟩ := drop_at l k h
  rw [e, numGo, hb, if_pos hd]
theorem numGo_stop (B : Nat) (l : Bytes) (x k : Nat) (h : k < l.length) (hd : ¬ digitV (at0 l k) < B) : numGo B (l.drop k) x k = (x, k) := by
  obtain ⟨b, e, hb⟩ := drop_at l k h
  rw [e, numGo, hb, if_neg hd]
theorem numGo_end (B : Nat) (l : Bytes) (x k : Nat) (h : l.length ≤ k) : numGo B (l.drop k) x k = (x, k) := by
  rw [List.drop_of_length_le h]; rfl
theorem retRef_mk (p : Bytes × Nat × Bool) (v : ByteArray) (n : Int) (b : Bool) (h1 : v.data.toList = p.1) (h2 : n = p.2.1) (h3 : b = p.2.2) : RetRef p (.returned (.tuple #[.string v, .int .i64 n, .bool b])) :=
  ⟨v, by rw [h2, h3], h1⟩
theorem retRef_none (p : Bytes × Nat × Bool) (h : p = ([], 0, false)) : RetRef p (.returned (.tuple #[.string { data := #[] }, .int .i64 0, .bool false])) := by
  subst h; exact ⟨_, rfl, rfl⟩

set_option maxRecDepth 100000 in
set_option maxHeartbeats 4000000 in
theorem numeric_short (s : ByteArray) (w : World) (hs : s.size ≤ maxLen) (h2 : 2 ≤ s.size) (h3 : ¬ (2 : Int) < s.size) :
    Calls Try.prog 24 #[.string s] w fun e w' => RetRef (numericL s.data.toList) e ∧ Below w.heap.size w w' := by
  have HL : Hid (s.data.toList.length = s.size) := Lib.hid (by simp)
  have HB : Hid (numBase s.data.toList = 10 ∧ numFirst s.data.toList = 2) := Lib.hid <| by
    have hl := HL.out
    unfold numBase numFirst
    rw [if_neg (by omega), if_neg (by omega)]; exact ⟨rfl, rfl⟩
  unfold maxLen at hs
  go_enter Try.func24, Try.ntmps24
  go_wp2_with fail
  go_loop [6, 7] (fun i v => ∃ k x : Nat, 2 ≤ k ∧ k ≤ s.size ∧ i = .int .i64 k ∧ v = .int .i64 x ∧ (x : Int) ≤ 1114112 ∧ numGo 10 (s.data.toList.drop 2) 0 2 = numGo 10 (s.data.toList.drop k) x k) (fun i _ => s.size - (intOf i).toNat)
  case atStart => exact ⟨2, 0, by omega, by omega, rfl, rfl, by omega, rfl⟩
  case round =>
    obtain ⟨k, x, hk1, hk, rfl, rfl, hx, hf⟩ := hrel
    have H := Lib.hid hf; clear hf
    by_cases hlt : k < s.size
    · exfalso; omega
    · have HS : Hid (numGo 10 (s.data.toList.drop 2) 0 2 = (x, k)) := Lib.hid <| by
        rw [H.out]
        exact numGo_end 10 s.data.toList x k (by rw [HL.out]; omega)
      by_cases hkF : k = 2
      · have HR : Hid (numericL s.data.toList = ([], 0, false)) := Lib.hid (numeric_none _ x (by rw [HB.out.1, HB.out.2, HS.out, hkF]))
        subst hkF
        go_wp2_with fail
        go_ret3
        exact ⟨retRef_none _ HR.out, Below.refl _ _⟩
      · exfalso; omega

set_option maxRecDepth 100000 in
set_option maxHeartbeats 4000000 in
theorem numeric_dec (s : ByteArray) (w : World) (hs : s.size ≤ maxLen) (h2 : 3 ≤ s.size) (g1 : ((s[2].toNat : Int) == 120) = false) (g2 : ((s[2].toNat : Int) == 88) = false) :
    Calls Try.prog 24 #[.string s] w fun e w' => RetRef (numericL s.data.toList) e ∧ Below w.heap.size w w' := by
  have HL : Hid (s.data.toList.length = s.size) := Lib.hid (by simp)
  have HB : Hid (numBase s.data.toList = 10 ∧ numFirst s.data.toList = 2) := Lib.hid <| by
    have hl := HL.out
    have h0 := at0_get s 2 (by omega)
    simp only [beq_iff_eq, beq_eq_false_iff_ne, ne_eq] at g1 g2
    unfold numBase numFirst
    rw [if_neg (by omega), if_neg (by omega)]; exact ⟨rfl, rfl⟩
  unfold maxLen at hs
  go_enter Try.func24, Try.ntmps24
  go_wp2_with fail
  go_loop [6, 7] (fun i v => ∃ k x : Nat, 2 ≤ k ∧ k ≤ s.size ∧ i = .int .i64 k ∧ v = .int .i64 x ∧ (x : Int) ≤ 1114112 ∧ numGo 10 (s.data.toList.drop 2) 0 2 = numGo 10 (s.data.toList.drop k) x k) (fun i _ => s.size - (intOf i).toNat)
  case atStart => exact ⟨2, 0, by omega, by omega, rfl, rfl, by omega, rfl⟩
  case round =>
    obtain ⟨k, x, hk1, hk, rfl, rfl, hx, hf⟩ := hrel
    have H := Lib.hid hf; clear hf
    by_cases hlt : k < s.size
    · obtain ⟨d, hd⟩ : ∃ d : Nat, d = digitV s[k].toNat := ⟨_, rfl⟩
      have hcon := fun wx => digit_any s[k].toNat s[k].toNat_lt 10 wx
      rw [← hd] at hcon
      have HC := Lib.hid hcon; clear hcon
      have HD := Lib.hid hd; clear hd
      have HA := Lib.hid (at0_get s k hlt)
      by_cases hdl : (d : Int) < 10
      · have HS : Hid (numGo 10 (s.data.toList.drop k) x k = numGo 10 (s.data.toList.drop (k + 1)) (min (x * 10 + d) 0x110000) (k + 1)) := Lib.hid <| by
          have h1 := numGo_digit 10 s.data.toList x k (by rw [HL.out]; exact hlt) (by rw [HA.out, ← HD.out]; omega)
          rw [HA.out, ← HD.out] at h1; exact h1
        go_wp2_with (go_at_call 26; refine (HC.out _).mono ?_; rintro e w' ⟨rfl, rfl⟩)
        go_round
        case rel =>
          refine ⟨k + 1, min (x * 10 + d) 0x110000, by omega, by omega, by go_num, ?_, by omega, by rw [H.out, HS.out]⟩
          congr 1
          split <;> omega
        case measure => simp [intOf]; omega
      · have hdl' : decide ((d : Int) < 10) = false := by simpa using hdl
        have HS : Hid (numGo 10 (s.data.toList.drop 2) 0 2 = (x, k)) := Lib.hid <| by
          rw [H.out]
          exact numGo_stop 10 s.data.toList x k (by rw [HL.out]; exact hlt) (by rw [HA.out, ← HD.out]; omega)
        clear hdl
        by_cases hkF : k = 2
        · have HR : Hid (numericL s.data.toList = ([], 0, false)) := Lib.hid (numeric_none _ x (by rw [HB.out.1, HB.out.2, HS.out, hkF]))
          subst hkF
          go_wp2_with (go_at_call 26; refine (HC.out _).mono ?_; rintro e w' ⟨rfl, rfl⟩)
          go_ret3
          exact ⟨retRef_none _ HR.out, Below.refl _ _⟩
        · have hkF' : ((k : Int) == 2) = false := by simp; omega
          have HR := Lib.hid (numeric_some s.data.toList x k (by rw [HB.out.1, HB.out.2, HS.out]) (by rw [HB.out.2]; exact hkF))
          clear hkF
          by_cases hsc : s[k].toNat = 59
          · have hsc' : ((s[k].toNat : Int) == 59) = true := by simp [hsc]
            have HX : Hid ((if k < s.data.toList.length ∧ at0 s.data.toList k = 59 then k + 1 else k) = k + 1) := Lib.hid (if_pos ⟨by rw [HL.out]; exact hlt, by rw [HA.out]; exact hsc⟩)
            clear hsc
            go_wp2_with (go_at_call 26; refine (HC.out _).mono ?_; rintro e w' ⟨rfl, rfl⟩)
            refine (charOf_any x _ (by omega)).mono ?_
            rintro e w1 ⟨rfl, hb1⟩
            go_wp2_with fail
            refine (coded_any _ _ (by have := charOfN_le x; omega)).mono ?_
            rintro e w2 ⟨⟨v, rfl, hv⟩, hb2⟩
            have HV := Lib.hid hv; clear hv
            have hbb := hb1.trans (hb2.mono hb1.size)
            go_wp2_with fail
            go_ret3
            exact ⟨retRef_mk _ _ _ _ (by rw [HR.out]; exact HV.out) (by rw [HR.out]; show (k : Int) + 1 = ((_ : Nat) : Int); rw [HX.out]; rfl) (by rw [HR.out]), hbb⟩
          · have hsc' : ((s[k].toNat : Int) == 59) = false := by simp; omega
            have HX : Hid ((if k < s.data.toList.length ∧ at0 s.data.toList k = 59 then k + 1 else k) = k) := Lib.hid (if_neg (fun h => hsc (by rw [← HA.out]; exact h.2)))
            clear hsc
            go_wp2_with (go_at_call 26; refine (HC.out _).mono ?_; rintro e w' ⟨rfl, rfl⟩)
            refine (charOf_any x _ (by omega)).mono ?_
            rintro e w1 ⟨rfl, hb1⟩
            go_wp2_with fail
            refine (coded_any _ _ (by have := charOfN_le x; omega)).mono ?_
            rintro e w2 ⟨⟨v, rfl, hv⟩, hb2⟩
            have HV := Lib.hid hv; clear hv
            have hbb := hb1.trans (hb2.mono hb1.size)
            go_wp2_with fail
            go_ret3
            exact ⟨retRef_mk _ _ _ _ (by rw [HR.out]; exact HV.out) (by rw [HR.out]; show _ = ((_ : Nat) : Int); rw [HX.out]) (by rw [HR.out]), hbb⟩
    · have HS : Hid (numGo 10 (s.data.toList.drop 2) 0 2 = (x, k)) := Lib.hid <| by
        rw [H.out]
        exact numGo_end 10 s.data.toList x k (by rw [HL.out]; omega)
      by_cases hkF : k = 2
      · exfalso; omega
      · have hkF' : ((k : Int) == 2) = false := by simp; omega
        have HR := Lib.hid (numeric_some s.data.toList x k (by rw [HB.out.1, HB.out.2, HS.out]) (by rw [HB.out.2]; exact hkF))
        clear hkF
        have HX : Hid ((if k < s.data.toList.length ∧ at0 s.data.toList k = 59 then k + 1 else k) = k) := Lib.hid (if_neg (fun h => hlt (by rw [← HL.out]; exact h.1)))
        go_wp2_with fail
        refine (charOf_any x _ (by omega)).mono ?_
        rintro e w1 ⟨rfl, hb1⟩
        go_wp2_with fail
        refine (coded_any _ _ (by have := charOfN_le x; omega)).mono ?_
        rintro e w2 ⟨⟨v, rfl, hv⟩, hb2⟩
        have HV := Lib.hid hv; clear hv
        have hbb := hb1.trans (hb2.mono hb1.size)
        go_wp2_with fail
        go_ret3
        exact ⟨retRef_mk _ _ _ _ (by rw [HR.out]; exact HV.out) (by rw [HR.out]; show _ = ((_ : Nat) : Int); rw [HX.out]) (by rw [HR.out]), hbb⟩

set_option maxRecDepth 100000 in
set_option maxHeartbeats 4000000 in
theorem numeric_x (s : ByteArray) (w : World) (hs : s.size ≤ maxLen) (h2 : 3 ≤ s.size) (g1 : ((s[2].toNat : Int) == 120) = true) :
    Calls Try.prog 24 #[.string s] w fun e w' => RetRef (numericL s.data.toList) e ∧ Below w.heap.size w w' := by
  have HL : Hid (s.data.toList.length = s.size) := Lib.hid (by simp)
  have HB : Hid (numBase s.data.toList = 16 ∧ numFirst s.data.toList = 3) := Lib.hid <| by
    have hl := HL.out
    have h0 := at0_get s 2 (by omega)
    simp only [beq_iff_eq, beq_eq_false_iff_ne, ne_eq] at g1
    unfold numBase numFirst
    rw [if_pos (by omega), if_pos (by omega)]; exact ⟨rfl, rfl⟩
  unfold maxLen at hs
  go_enter Try.func24, Try.ntmps24
  go_wp2_with fail
  go_loop [6, 7] (fun i v => ∃ k x : Nat, 3 ≤ k ∧ k ≤ s.size ∧ i = .int .i64 k ∧ v = .int .i64 x ∧ (x : Int) ≤ 1114112 ∧ numGo 16 (s.data.toList.drop 3) 0 3 = numGo 16 (s.data.toList.drop k) x k) (fun i _ => s.size - (intOf i).toNat)
  case atStart => exact ⟨3, 0, by omega, by omega, rfl, rfl, by omega, rfl⟩
  case round =>
    obtain ⟨k, x, hk1, hk, rfl, rfl, hx, hf⟩ := hrel
    have H := Lib.hid hf; clear hf
    by_cases hlt : k < s.size
    · obtain ⟨d, hd⟩ : ∃ d : Nat, d = digitV s[k].toNat := ⟨_, rfl⟩
      have hcon := fun wx => digit_any s[k].toNat s[k].toNat_lt 16 wx
      rw [← hd] at hcon
      have HC := Lib.hid hcon; clear hcon
      have HD := Lib.hid hd; clear hd
      have HA := Lib.hid (at0_get s k hlt)
      by_cases hdl : (d : Int) < 16
      · have HS : Hid (numGo 16 (s.data.toList.drop k) x k = numGo 16 (s.data.toList.drop (k + 1)) (min (x * 16 + d) 0x110000) (k + 1)) := Lib.hid <| by
          have h1 := numGo_digit 16 s.data.toList x k (by rw [HL.out]; exact hlt) (by rw [HA.out, ← HD.out]; omega)
          rw [HA.out, ← HD.out] at h1; exact h1
        go_wp2_with (go_at_call 26; refine (HC.out _).mono ?_; rintro e w' ⟨rfl, rfl⟩)
        go_round
        case rel =>
          refine ⟨k + 1, min (x * 16 + d) 0x110000, by omega, by omega, by go_num, ?_, by omega, by rw [H.out, HS.out]⟩
          congr 1
          split <;> omega
        case measure => simp [intOf]; omega
      · have hdl' : decide ((d : Int) < 16) = false := by simpa using hdl
        have HS : Hid (numGo 16 (s.data.toList.drop 3) 0 3 = (x, k)) := Lib.hid <| by
          rw [H.out]
          exact numGo_stop 16 s.data.toList x k (by rw [HL.out]; exact hlt) (by rw [HA.out, ← HD.out]; omega)
        clear hdl
        by_cases hkF : k = 3
        · have HR : Hid (numericL s.data.toList = ([], 0, false)) := Lib.hid (numeric_none _ x (by rw [HB.out.1, HB.out.2, HS.out, hkF]))
          subst hkF
          go_wp2_with (go_at_call 26; refine (HC.out _).mono ?_; rintro e w' ⟨rfl, rfl⟩)
          go_ret3
          exact ⟨retRef_none _ HR.out, Below.refl _ _⟩
        · have hkF' : ((k : Int) == 3) = false := by simp; omega
          have HR := Lib.hid (numeric_some s.data.toList x k (by rw [HB.out.1, HB.out.2, HS.out]) (by rw [HB.out.2]; exact hkF))
          clear hkF
          by_cases hsc : s[k].toNat = 59
          · have hsc' : ((s[k].toNat : Int) == 59) = true := by simp [hsc]
            have HX : Hid ((if k < s.data.toList.length ∧ at0 s.data.toList k = 59 then k + 1 else k) = k + 1) := Lib.hid (if_pos ⟨by rw [HL.out]; exact hlt, by rw [HA.out]; exact hsc⟩)
            clear hsc
            go_wp2_with (go_at_call 26; refine (HC.out _).mono ?_; rintro e w' ⟨rfl, rfl⟩)
            refine (charOf_any x _ (by omega)).mono ?_
            rintro e w1 ⟨rfl, hb1⟩
            go_wp2_with fail
            refine (coded_any _ _ (by have := charOfN_le x; omega)).mono ?_
            rintro e w2 ⟨⟨v, rfl, hv⟩, hb2⟩
            have HV := Lib.hid hv; clear hv
            have hbb := hb1.trans (hb2.mono hb1.size)
            go_wp2_with fail
            go_ret3
            exact ⟨retRef_mk _ _ _ _ (by rw [HR.out]; exact HV.out) (by rw [HR.out]; show (k : Int) + 1 = ((_ : Nat) : Int); rw [HX.out]; rfl) (by rw [HR.out]), hbb⟩
          · have hsc' : ((s[k].toNat : Int) == 59) = false := by simp; omega
            have HX : Hid ((if k < s.data.toList.length ∧ at0 s.data.toList k = 59 then k + 1 else k) = k) := Lib.hid (if_neg (fun h => hsc (by rw [← HA.out]; exact h.2)))
            clear hsc
            go_wp2_with (go_at_call 26; refine (HC.out _).mono ?_; rintro e w' ⟨rfl, rfl⟩)
            refine (charOf_any x _ (by omega)).mono ?_
            rintro e w1 ⟨rfl, hb1⟩
            go_wp2_with fail
            refine (coded_any _ _ (by have := charOfN_le x; omega)).mono ?_
            rintro e w2 ⟨⟨v, rfl, hv⟩, hb2⟩
            have HV := Lib.hid hv; clear hv
            have hbb := hb1.trans (hb2.mono hb1.size)
            go_wp2_with fail
            go_ret3
            exact ⟨retRef_mk _ _ _ _ (by rw [HR.out]; exact HV.out) (by rw [HR.out]; show _ = ((_ : Nat) : Int); rw [HX.out]) (by rw [HR.out]), hbb⟩
    · have HS : Hid (numGo 16 (s.data.toList.drop 3) 0 3 = (x, k)) := Lib.hid <| by
        rw [H.out]
        exact numGo_end 16 s.data.toList x k (by rw [HL.out]; omega)
      by_cases hkF : k = 3
      · have HR : Hid (numericL s.data.toList = ([], 0, false)) := Lib.hid (numeric_none _ x (by rw [HB.out.1, HB.out.2, HS.out, hkF]))
        subst hkF
        go_wp2_with fail
        go_ret3
        exact ⟨retRef_none _ HR.out, Below.refl _ _⟩
      · have hkF' : ((k : Int) == 3) = false := by simp; omega
        have HR := Lib.hid (numeric_some s.data.toList x k (by rw [HB.out.1, HB.out.2, HS.out]) (by rw [HB.out.2]; exact hkF))
        clear hkF
        have HX : Hid ((if k < s.data.toList.length ∧ at0 s.data.toList k = 59 then k + 1 else k) = k) := Lib.hid (if_neg (fun h => hlt (by rw [← HL.out]; exact h.1)))
        go_wp2_with fail
        refine (charOf_any x _ (by omega)).mono ?_
        rintro e w1 ⟨rfl, hb1⟩
        go_wp2_with fail
        refine (coded_any _ _ (by have := charOfN_le x; omega)).mono ?_
        rintro e w2 ⟨⟨v, rfl, hv⟩, hb2⟩
        have HV := Lib.hid hv; clear hv
        have hbb := hb1.trans (hb2.mono hb1.size)
        go_wp2_with fail
        go_ret3
        exact ⟨retRef_mk _ _ _ _ (by rw [HR.out]; exact HV.out) (by rw [HR.out]; show _ = ((_ : Nat) : Int); rw [HX.out]) (by rw [HR.out]), hbb⟩

set_option maxRecDepth 100000 in
set_option maxHeartbeats 4000000 in
theorem numeric_X (s : ByteArray) (w : World) (hs : s.size ≤ maxLen) (h2 : 3 ≤ s.size) (g1 : ((s[2].toNat : Int) == 120) = false) (g2 : ((s[2].toNat : Int) == 88) = true) :
    Calls Try.prog 24 #[.string s] w fun e w' => RetRef (numericL s.data.toList) e ∧ Below w.heap.size w w' := by
  have HL : Hid (s.data.toList.length = s.size) := Lib.hid (by simp)
  have HB : Hid (numBase s.data.toList = 16 ∧ numFirst s.data.toList = 3) := Lib.hid <| by
    have hl := HL.out
    have h0 := at0_get s 2 (by omega)
    simp only [beq_iff_eq, beq_eq_false_iff_ne, ne_eq] at g1 g2
    unfold numBase numFirst
    rw [if_pos (by omega), if_pos (by omega)]; exact ⟨rfl, rfl⟩
  unfold maxLen at hs
  go_enter Try.func24, Try.ntmps24
  go_wp2_with fail
  go_loop [6, 7] (fun i v => ∃ k x : Nat, 3 ≤ k ∧ k ≤ s.size ∧ i = .int .i64 k ∧ v = .int .i64 x ∧ (x : Int) ≤ 1114112 ∧ numGo 16 (s.data.toList.drop 3) 0 3 = numGo 16 (s.data.toList.drop k) x k) (fun i _ => s.size - (intOf i).toNat)
  case atStart => exact ⟨3, 0, by omega, by omega, rfl, rfl, by omega, rfl⟩
  case round =>
    obtain ⟨k, x, hk1, hk, rfl, rfl, hx, hf⟩ := hrel
    have H := Lib.hid hf; clear hf
    by_cases hlt : k < s.size
    · obtain ⟨d, hd⟩ : ∃ d : Nat, d = digitV s[k].toNat := ⟨_, rfl⟩
      have hcon := fun wx => digit_any s[k].toNat s[k].toNat_lt 16 wx
      rw [← hd] at hcon
      have HC := Lib.hid hcon; clear hcon
      have HD := Lib.hid hd; clear hd
      have HA := Lib.hid (at0_get s k hlt)
      by_cases hdl : (d : Int) < 16
      · have HS : Hid (numGo 16 (s.data.toList.drop k) x k = numGo 16 (s.data.toList.drop (k + 1)) (min (x * 16 + d) 0x110000) (k + 1)) := Lib.hid <| by
          have h1 := numGo_digit 16 s.data.toList x k (by rw [HL.out]; exact hlt) (by rw [HA.out, ← HD.out]; omega)
          rw [HA.out, ← HD.out] at h1; exact h1
        go_wp2_with (go_at_call 26; refine (HC.out _).mono ?_; rintro e w' ⟨rfl, rfl⟩)
        go_round
        case rel =>
          refine ⟨k + 1, min (x * 16 + d) 0x110000, by omega, by omega, by go_num, ?_, by omega, by rw [H.out, HS.out]⟩
          congr 1
          split <;> omega
        case measure => simp [intOf]; omega
      · have hdl' : decide ((d : Int) < 16) = false := by simpa using hdl
        have HS : Hid (numGo 16 (s.data.toList.drop 3) 0 3 = (x, k)) := Lib.hid <| by
          rw [H.out]
          exact numGo_stop 16 s.data.toList x k (by rw [HL.out]; exact hlt) (by rw [HA.out, ← HD.out]; omega)
        clear hdl
        by_cases hkF : k = 3
        · have HR : Hid (numericL s.data.toList = ([], 0, false)) := Lib.hid (numeric_none _ x (by rw [HB.out.1, HB.out.2, HS.out, hkF]))
          subst hkF
          go_wp2_with (go_at_call 26; refine (HC.out _).mono ?_; rintro e w' ⟨rfl, rfl⟩)
          go_ret3
          exact ⟨retRef_none _ HR.out, Below.refl _ _⟩
        · have hkF' : ((k : Int) == 3) = false := by simp; omega
          have HR := Lib.hid (numeric_some s.data.toList x k (by rw [HB.out.1, HB.out.2, HS.out]) (by rw [HB.out.2]; exact hkF))
          clear hkF
          by_cases hsc : s[k].toNat = 59
          · have hsc' : ((s[k].toNat : Int) == 59) = true := by simp [hsc]
            have HX : Hid ((if k < s.data.toList.length ∧ at0 s.data.toList k = 59 then k + 1 else k) = k + 1) := Lib.hid (if_pos ⟨by rw [HL.out]; exact hlt, by rw [HA.out]; exact hsc⟩)
            clear hsc
            go_wp2_with (go_at_call 26; refine (HC.out _).mono ?_; rintro e w' ⟨rfl, rfl⟩)
            refine (charOf_any x _ (by omega)).mono ?_
            rintro e w1 ⟨rfl, hb1⟩
            go_wp2_with fail
            refine (coded_any _ _ (by have := charOfN_le x; omega)).mono ?_
            rintro e w2 ⟨⟨v, rfl, hv⟩, hb2⟩
            have HV := Lib.hid hv; clear hv
            have hbb := hb1.trans (hb2.mono hb1.size)
            go_wp2_with fail
            go_ret3
            exact ⟨retRef_mk _ _ _ _ (by rw [HR.out]; exact HV.out) (by rw [HR.out]; show (k : Int) + 1 = ((_ : Nat) : Int); rw [HX.out]; rfl) (by rw [HR.out]), hbb⟩
          · have hsc' : ((s[k].toNat : Int) == 59) = false := by simp; omega
            have HX : Hid ((if k < s.data.toList.length ∧ at0 s.data.toList k = 59 then k + 1 else k) = k) := Lib.hid (if_neg (fun h => hsc (by rw [← HA.out]; exact h.2)))
            clear hsc
            go_wp2_with (go_at_call 26; refine (HC.out _).mono ?_; rintro e w' ⟨rfl, rfl⟩)
            refine (charOf_any x _ (by omega)).mono ?_
            rintro e w1 ⟨rfl, hb1⟩
            go_wp2_with fail
            refine (coded_any _ _ (by have := charOfN_le x; omega)).mono ?_
            rintro e w2 ⟨⟨v, rfl, hv⟩, hb2⟩
            have HV := Lib.hid hv; clear hv
            have hbb := hb1.trans (hb2.mono hb1.size)
            go_wp2_with fail
            go_ret3
            exact ⟨retRef_mk _ _ _ _ (by rw [HR.out]; exact HV.out) (by rw [HR.out]; show _ = ((_ : Nat) : Int); rw [HX.out]) (by rw [HR.out]), hbb⟩
    · have HS : Hid (numGo 16 (s.data.toList.drop 3) 0 3 = (x, k)) := Lib.hid <| by
        rw [H.out]
        exact numGo_end 16 s.data.toList x k (by rw [HL.out]; omega)
      by_cases hkF : k = 3
      · have HR : Hid (numericL s.data.toList = ([], 0, false)) := Lib.hid (numeric_none _ x (by rw [HB.out.1, HB.out.2, HS.out, hkF]))
        subst hkF
        go_wp2_with fail
        go_ret3
        exact ⟨retRef_none _ HR.out, Below.refl _ _⟩
      · have hkF' : ((k : Int) == 3) = false := by simp; omega
        have HR := Lib.hid (numeric_some s.data.toList x k (by rw [HB.out.1, HB.out.2, HS.out]) (by rw [HB.out.2]; exact hkF))
        clear hkF
        have HX : Hid ((if k < s.data.toList.length ∧ at0 s.data.toList k = 59 then k + 1 else k) = k) := Lib.hid (if_neg (fun h => hlt (by rw [← HL.out]; exact h.1)))
        go_wp2_with fail
        refine (charOf_any x _ (by omega)).mono ?_
        rintro e w1 ⟨rfl, hb1⟩
        go_wp2_with fail
        refine (coded_any _ _ (by have := charOfN_le x; omega)).mono ?_
        rintro e w2 ⟨⟨v, rfl, hv⟩, hb2⟩
        have HV := Lib.hid hv; clear hv
        have hbb := hb1.trans (hb2.mono hb1.size)
        go_wp2_with fail
        go_ret3
        exact ⟨retRef_mk _ _ _ _ (by rw [HR.out]; exact HV.out) (by rw [HR.out]; show _ = ((_ : Nat) : Int); rw [HX.out]) (by rw [HR.out]), hbb⟩

theorem numeric_any (s : ByteArray) (w : World) (hs : s.size ≤ maxLen) (h2 : 2 ≤ s.size) :
    Calls Try.prog 24 #[.string s] w fun e w' => RetRef (numericL s.data.toList) e ∧ Below w.heap.size w w' := by
  by_cases h3 : s.size < 3
  · exact numeric_short s w hs h2 (by omega)
  have h3' : 3 ≤ s.size := by omega
  by_cases g1 : s[2].toNat = 120
  · exact numeric_x s w hs h3' (by simp [g1])
  by_cases g2 : s[2].toNat = 88
  · exact numeric_X s w hs h3' (by simp [g2]) (by simp [g2])
  · exact numeric_dec s w hs h3' (by simp; omega) (by simp; omega)
end Go.Proofs.Ythhmccdjhcfggaa
