/- The reference's Scheme. -/
import Derived.Test.YtolamblmfejhoaaDoorLawF2
import Derived.Test.YtolamblmfejhoaaDoorLow
import Derived.LoopTactic
namespace Go.Proofs.YtolamblmfejhoaaDoor
open Go.RowKit
set_option linter.unusedVariables false
set_option linter.unusedSimpArgs false

def RetScheme (l : Bytes) (o : Option Nat) (e : Ending) : Prop := match o with
  | some i => RetStrB (Lib.toLowerA (l.take i)) true e
  | none => e = .returned (.tuple #[.string ⟨#[]⟩, .bool false])
theorem go_bad (l : Bytes) (k : Nat) (b : UInt8) (hb : l[k]? = some b) (h : ¬ (b.toNat = 58 ∧ 0 < k)) (hc : schemeBad b.toNat k = true) : schemeGo (l.drop k) k = none := by
  have hk := (List.getElem?_eq_some_iff.1 hb).1
  rw [List.drop_eq_getElem_cons hk, (List.getElem?_eq_some_iff.1 hb).2]
  unfold schemeGo
  rw [if_neg h, if_pos hc]
theorem go_on (l : Bytes) (k : Nat) (b : UInt8) (hb : l[k]? = some b) (h : ¬ (b.toNat = 58 ∧ 0 < k)) (hc : schemeBad b.toNat k = false) : schemeGo (l.drop k) k = schemeGo (l.drop (k + 1)) (k + 1) := by
  have hk := (List.getElem?_eq_some_iff.1 hb).1
  rw [List.drop_eq_getElem_cons hk, (List.getElem?_eq_some_iff.1 hb).2]
  conv => lhs; unfold schemeGo
  rw [if_neg h, if_neg (by rw [hc]; decide)]
theorem go_at (l : Bytes) (k : Nat) (b : UInt8) (hb : l[k]? = some b) (h : b.toNat = 58 ∧ 0 < k) : schemeGo (l.drop k) k = some k := by
  have hk := (List.getElem?_eq_some_iff.1 hb).1
  rw [List.drop_eq_getElem_cons hk, (List.getElem?_eq_some_iff.1 hb).2]
  unfold schemeGo
  rw [if_pos h]

set_option maxRecDepth 100000 in
set_option maxHeartbeats 2000000 in
theorem scheme_any (s : ByteArray) (w : World) (hs : (s.size : Int) ≤ 17179869184) :
    Calls Tryd.prog 7 #[.string s] w fun e w' => RetScheme s.data.toList (schemeL s.data.toList) e ∧ Below w.heap.size w w' := by
  have HS := Lib.hid hs
  go_enter Tryd.func7, Tryd.ntmps7
  go_wp2_with fail
  go_loop [8] (fun s8 => ∃ k : Nat, s8 = .int .i64 k ∧ k ≤ s.size ∧ Hid (schemeL s.data.toList = schemeGo (s.data.toList.drop k) k)) (fun s8 => s.size - (intOf s8).toNat)
  case atStart => exact ⟨0, rfl, Nat.zero_le _, Lib.hid rfl⟩
  case round =>
    obtain ⟨k, rfl, hk, H⟩ := hrel
    by_cases hlt : k < s.size
    · have HX : Hid (s.data.toList[k]? = some s[k]) := Lib.hid (by rw [List.getElem?_eq_getElem (by simpa using hlt)]; rfl)
      obtain ⟨x, hx⟩ : ∃ x, x = s[k] := ⟨_, rfl⟩
      have hx2 : s[k].toNat = x.toNat := by rw [hx]
      rw [← hx] at HX
      clear hx
      have HA := Lib.hid (fun w => isAlpha_any x.toNat w)
      have HBAD : Hid (¬ (x.toNat = 58 ∧ 0 < k) → schemeBad x.toNat k = true → schemeL s.data.toList = none) := Lib.hid fun h1 h2 => by rw [H.out, go_bad _ _ _ HX.out h1 h2]
      have HON : Hid (¬ (x.toNat = 58 ∧ 0 < k) → schemeBad x.toNat k = false → schemeL s.data.toList = schemeGo (s.data.toList.drop (k + 1)) (k + 1)) := Lib.hid fun h1 h2 => by rw [H.out, go_on _ _ _ HX.out h1 h2]
      by_cases h58 : x.toNat = 58 ∧ 0 < k
      · have HAT : Hid (schemeL s.data.toList = some k) := Lib.hid (by rw [H.out, go_at _ _ _ HX.out h58])
        obtain ⟨e1, e2⟩ := h58
        have q1 : ((x.toNat : Int) == 58) = true := by rw [beq_iff_eq]; omega
        have q2 : (0 : Int) < k := by omega
        have HLO : Hid (∀ w, Calls Tryd.prog 16 #[.string (s.extract 0 k)] w fun e w' => RetStr (Lib.toLowerA (s.data.toList.take k)) e ∧ Below w.heap.size w w') := Lib.hid fun w => by
          have h1 : (s.extract 0 k).size = k := by simp; omega
          have := lower_any (s.extract 0 k) w (by rw [h1]; have := HS.out; omega)
          rw [extract_mid0] at this; exact this
        clear HBAD HON H HX HA e1
        go_wp2_with (go_at_call 16; refine (HLO.out _).mono ?_; rintro e w' ⟨⟨v, rfl, hv⟩, hb⟩)
        go_ret2
        refine ⟨?_, hb⟩
        rw [HAT.out]
        exact ⟨v, rfl, hv⟩
      · have HN58 := Lib.hid h58
        obtain ⟨a, ha⟩ : ∃ a, isAlphaB x.toNat = a := ⟨_, rfl⟩
        rw [ha] at HA
        cases a
        · by_cases h0 : k = 0
          · subst h0
            have HB : Hid (schemeBad x.toNat 0 = true) := Lib.hid (by unfold schemeBad; rw [ha]; rfl)
            clear ha h58
            by_cases e58 : (x.toNat : Int) = 58
            · have q1 : ((x.toNat : Int) == 58) = true := by rw [beq_iff_eq]; exact e58
              clear e58
              have HR := Lib.hid (HBAD.out HN58.out HB.out)
              clear HON HBAD HB HN58 H HX
              go_wp2_with (go_at_call 17; refine (HA.out _).mono ?_; rintro e w' ⟨rfl, rfl⟩)
              go_ret2
              refine ⟨?_, Below.refl _ _⟩
              rw [HR.out]
              exact rfl
            · have q1 : ((x.toNat : Int) == 58) = false := by rw [beq_eq_false_iff_ne]; exact e58
              clear e58
              have HR := Lib.hid (HBAD.out HN58.out HB.out)
              clear HON HBAD HB HN58 H HX
              go_wp2_with (go_at_call 17; refine (HA.out _).mono ?_; rintro e w' ⟨rfl, rfl⟩)
              go_ret2
              refine ⟨?_, Below.refl _ _⟩
              rw [HR.out]
              exact rfl
          · have q1 : ((x.toNat : Int) == 58) = false := by rw [beq_eq_false_iff_ne]; omega
            have q2 : ((k : Int) == 0) = false := by rw [beq_eq_false_iff_ne]; omega
            have hk0 : (k == 0) = false := by rw [beq_eq_false_iff_ne]; exact h0
            by_cases d1 : 48 ≤ x.toNat ∧ x.toNat ≤ 57
            · have HB : Hid (schemeBad x.toNat k = false) := Lib.hid (by unfold schemeBad; rw [ha, hk0]; simp [d1])
              obtain ⟨d2, d3⟩ := d1
              have q3 : ¬ (x.toNat : Int) < 48 := by omega
              have q4 : ¬ (57 : Int) < x.toNat := by omega
              clear ha h58 d2 d3 hk0
              have HR := Lib.hid (HON.out HN58.out HB.out)
              clear HON HBAD HB HN58 H HX
              go_wp2_with (go_at_call 17; refine (HA.out _).mono ?_; rintro e w' ⟨rfl, rfl⟩)
              go_round
              case rel => exact ⟨k + 1, by go_num, by omega, HR⟩
              case measure => simp [intOf]; omega
            · by_cases g : x.toNat = 43 ∨ x.toNat = 45 ∨ x.toNat = 46
              · have HB : Hid (schemeBad x.toNat k = false) := Lib.hid (by unfold schemeBad; rw [ha, hk0]; rcases g with g | g | g <;> rw [g] <;> rfl)
                have q3 : (x.toNat : Int) < 48 := by omega
                clear ha h58 d1 hk0
                rcases g with g | g | g
                · have g1 : ((x.toNat : Int) != 43) = false := by simp; omega
                  clear g
                  have HR := Lib.hid (HON.out HN58.out HB.out)
                  clear HON HBAD HB HN58 H HX
                  go_wp2_with (go_at_call 17; refine (HA.out _).mono ?_; rintro e w' ⟨rfl, rfl⟩)
                  go_round
                  case rel => exact ⟨k + 1, by go_num, by omega, HR⟩
                  case measure => simp [intOf]; omega
                · have g1 : ((x.toNat : Int) != 43) = true := by simp; omega
                  have g2 : ((x.toNat : Int) != 45) = false := by simp; omega
                  clear g
                  have HR := Lib.hid (HON.out HN58.out HB.out)
                  clear HON HBAD HB HN58 H HX
                  go_wp2_with (go_at_call 17; refine (HA.out _).mono ?_; rintro e w' ⟨rfl, rfl⟩)
                  go_round
                  case rel => exact ⟨k + 1, by go_num, by omega, HR⟩
                  case measure => simp [intOf]; omega
                · have g1 : ((x.toNat : Int) != 43) = true := by simp; omega
                  have g2 : ((x.toNat : Int) != 45) = true := by simp; omega
                  have g3 : ((x.toNat : Int) != 46) = false := by simp; omega
                  clear g
                  have HR := Lib.hid (HON.out HN58.out HB.out)
                  clear HON HBAD HB HN58 H HX
                  go_wp2_with (go_at_call 17; refine (HA.out _).mono ?_; rintro e w' ⟨rfl, rfl⟩)
                  go_round
                  case rel => exact ⟨k + 1, by go_num, by omega, HR⟩
                  case measure => simp [intOf]; omega
              · have HB : Hid (schemeBad x.toNat k = true) := Lib.hid (by unfold schemeBad; rw [ha, hk0]; simp; omega)
                have g1 : ((x.toNat : Int) != 43) = true := by simp; omega
                have g2 : ((x.toNat : Int) != 45) = true := by simp; omega
                have g3 : ((x.toNat : Int) != 46) = true := by simp; omega
                by_cases q3 : (x.toNat : Int) < 48
                · clear ha h58 d1 hk0 g
                  have HR := Lib.hid (HBAD.out HN58.out HB.out)
                  clear HON HBAD HB HN58 H HX
                  go_wp2_with (go_at_call 17; refine (HA.out _).mono ?_; rintro e w' ⟨rfl, rfl⟩)
                  go_ret2
                  refine ⟨?_, Below.refl _ _⟩
                  rw [HR.out]
                  exact rfl
                · have q4 : (57 : Int) < x.toNat := by omega
                  clear ha h58 d1 hk0 g
                  have HR := Lib.hid (HBAD.out HN58.out HB.out)
                  clear HON HBAD HB HN58 H HX
                  go_wp2_with (go_at_call 17; refine (HA.out _).mono ?_; rintro e w' ⟨rfl, rfl⟩)
                  go_ret2
                  refine ⟨?_, Below.refl _ _⟩
                  rw [HR.out]
                  exact rfl
        · have HB : Hid (schemeBad x.toNat k = false) := Lib.hid (by unfold schemeBad; rw [ha]; rfl)
          have q1 : ((x.toNat : Int) == 58) = false := by
            rw [beq_eq_false_iff_ne]
            intro e
            rw [show x.toNat = 58 by omega] at ha
            cases ha
          clear ha h58
          have HR := Lib.hid (HON.out HN58.out HB.out)
          clear HON HBAD HB HN58 H HX
          go_wp2_with (go_at_call 17; refine (HA.out _).mono ?_; rintro e w' ⟨rfl, rfl⟩)
          go_round
          case rel => exact ⟨k + 1, by go_num, by omega, HR⟩
          case measure => simp [intOf]; omega
    · have HEND : Hid (schemeL s.data.toList = none) := Lib.hid (by
        rw [H.out, List.drop_of_length_le (by simp; omega)]; rfl)
      go_wp2_with fail
      go_ret2
      refine ⟨?_, Below.refl _ _⟩
      rw [HEND.out]
      exact rfl
end Go.Proofs.YtolamblmfejhoaaDoor
