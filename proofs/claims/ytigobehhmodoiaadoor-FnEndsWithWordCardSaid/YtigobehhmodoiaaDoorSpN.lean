/- The reference's Word, Named. -/
import Derived.Test.YtigobehhmodoiaaDoorCom
import Derived.Test.YtigobehhmodoiaaDoorLawN
import Derived.Test.YtigobehhmodoiaaDoorSpIs
import Derived.LoopTactic
namespace Go.Proofs.YtigobehhmodoiaaDoor
open Go.RowKit
set_option linter.unusedVariables false
set_option linter.unusedSimpArgs false

def wordTo (l : Bytes) (k : Nat) : Prop := (l.take k).all (fun b => isAlnumB b.toNat) = true ∧ (0 < k → 97 ≤ at0 l 0 ∧ at0 l 0 ≤ 122)
theorem wordTo_step (s : ByteArray) (k : Nat) (hlt : k < s.size) (h : wordTo s.data.toList k) (hc : isAlnumB s[k].toNat = true) (h0 : 0 < k ∨ (97 ≤ at0 s.data.toList 0 ∧ at0 s.data.toList 0 ≤ 122)) : wordTo s.data.toList (k + 1) := by
  refine ⟨?_, fun _ => ?_⟩
  · rw [take_snoc s k hlt, List.all_append, h.1]; simp [hc]
  · rcases h0 with h0 | h0
    · exact h.2 h0
    · exact h0
theorem wordB_not (s : ByteArray) (k : Nat) (hlt : k < s.size) (hc : isAlnumB s[k].toNat = false) : wordB s.data.toList = false := by
  have : s.data.toList.all (fun b => isAlnumB b.toNat) = false := by
    rw [List.all_eq_false]
    exact ⟨s[k], mem_get s k hlt, by rw [hc]; decide⟩
  unfold wordB
  rw [this]; simp
theorem wordB_first (s : ByteArray) (h : at0 s.data.toList 0 < 97 ∨ 122 < at0 s.data.toList 0) : wordB s.data.toList = false := by
  unfold wordB
  rcases h with h | h
  · rw [show decide (97 ≤ at0 s.data.toList 0) = false by simp; omega]; simp
  · rw [show decide (at0 s.data.toList 0 ≤ 122) = false by simp; omega]; simp
theorem wordB_end (s : ByteArray) (h : wordTo s.data.toList s.size) : wordB s.data.toList = !s.toList.isEmpty := by
  have hl : s.data.toList.length = s.size := by simp
  rw [Lib.toList_data]
  unfold wordB
  have h1 := h.1
  rw [List.take_of_length_le (Nat.le_of_eq hl)] at h1
  rw [h1]
  cases he : s.data.toList with
  | nil => rfl
  | cons b t =>
    have : 0 < s.size := by rw [← hl, he]; simp
    have h2 := h.2 this
    rw [he] at h2
    simp [h2]

set_option maxRecDepth 100000 in
set_option maxHeartbeats 2000000 in
theorem wordq_any (s : ByteArray) (w : World) (hs : s.size ≤ maxLen) :
    Calls Tryd.prog 25 #[.string s] w fun e w' => e = .returned (.bool (wordB s.data.toList)) ∧ w = w' := by
  unfold maxLen at hs
  have HL : Hid (s.data.toList.length = s.size) := Lib.hid (by simp)
  go_enter Tryd.func25, Tryd.ntmps25
  go_wp2_with fail
  go_loop [6] (fun i => ∃ k : Nat, k ≤ s.size ∧ i = .int .i64 k ∧ Hid (wordTo s.data.toList k)) (fun i => s.size - (intOf i).toNat)
  case atStart => exact ⟨0, Nat.zero_le _, rfl, Lib.hid ⟨rfl, fun h => by omega⟩⟩
  case round =>
    obtain ⟨k, hk, rfl, H⟩ := hrel
    by_cases hlt : k < s.size
    · have h0 : 0 < s.size := by omega
      have HA : Hid (at0 s.data.toList 0 = s[0].toNat) := Lib.hid (at0_get s 0 h0)
      by_cases hc : isAlnumB s[k].toNat = true
      · by_cases hk0 : 0 < k
        · have q1 : ((k : Int) == 0) = false := by simp; omega
          have HR := wordTo_step s k hlt H.out hc (.inl hk0)
          have HR' := Lib.hid HR; clear HR
          go_wp2_with (go_at_call 50; refine (isAlnum_any _ _).mono ?_; rintro e w' ⟨rfl, rfl⟩)
          go_round
          case rel => exact ⟨k + 1, by omega, by go_num, HR'⟩
          case measure => simp [intOf]; omega
        · have q1 : ((k : Int) == 0) = true := by simp; omega
          by_cases c1 : (s[0].toNat : Int) < 97
          · have HR : Hid (wordB s.data.toList = false) := Lib.hid (wordB_first s (by rw [HA.out]; omega))
            go_wp2_with (go_at_call 50; refine (isAlnum_any _ _).mono ?_; rintro e w' ⟨rfl, rfl⟩)
            go_ret
            exact ⟨ret_bool HR.out.symm, rfl⟩
          · by_cases c2 : (122 : Int) < s[0].toNat
            · have HR : Hid (wordB s.data.toList = false) := Lib.hid (wordB_first s (by rw [HA.out]; omega))
              go_wp2_with (go_at_call 50; refine (isAlnum_any _ _).mono ?_; rintro e w' ⟨rfl, rfl⟩)
              go_ret
              exact ⟨ret_bool HR.out.symm, rfl⟩
            · have HR := Lib.hid (wordTo_step s k hlt H.out hc (.inr (by rw [HA.out]; omega)))
              go_wp2_with (go_at_call 50; refine (isAlnum_any _ _).mono ?_; rintro e w' ⟨rfl, rfl⟩)
              go_round
              case rel => exact ⟨k + 1, by omega, by go_num, HR⟩
              case measure => simp [intOf]; omega
      · have hc' : isAlnumB s[k].toNat = false := by simpa using hc
        have HR := Lib.hid (wordB_not s k hlt hc')
        clear hc
        go_wp2_with (go_at_call 50; refine (isAlnum_any _ _).mono ?_; rintro e w' ⟨rfl, rfl⟩)
        go_ret
        exact ⟨ret_bool HR.out.symm, rfl⟩
    · obtain rfl : k = s.size := by omega
      have HR := Lib.hid (wordB_end s H.out)
      go_wp2_with (go_at_call 50; refine (isAlnum_any _ _).mono ?_; rintro e w' ⟨rfl, rfl⟩)
      go_ret
      exact ⟨ret_bool (by rw [HR.out]), rfl⟩


theorem on_way (s : ByteArray) : (isOn s.data.toList = true ∧ 2 < s.size ∧ (s.extract 0 2).toList = [111, 110] ∧ wordB (s.data.toList.drop 2) = true) ∨ (isOn s.data.toList = false ∧ ¬ 2 < s.size) ∨ (isOn s.data.toList = false ∧ 2 < s.size ∧ (s.extract 0 2).toList ≠ [111, 110]) ∨ (isOn s.data.toList = false ∧ 2 < s.size ∧ (s.extract 0 2).toList = [111, 110] ∧ wordB (s.data.toList.drop 2) = false) := by
  have hl : s.data.toList.length = s.size := by simp
  have he : (s.extract 0 2).toList = s.data.toList.take 2 := by rw [Lib.toList_data, extract_zero]
  rw [he]
  unfold isOn onW
  rw [hl]
  by_cases c1 : 2 < s.size
  · by_cases c2 : s.data.toList.take 2 = [111, 110]
    · cases c3 : wordB (s.data.toList.drop 2)
      · right; right; right; simp [c1, c2]
      · left; simp [c1, c2]
    · right; right; left; simp [c1, c2]
  · right; left; simp [c1]

set_option maxRecDepth 100000 in
set_option maxHeartbeats 4000000 in
theorem named_any (s : ByteArray) (w : World) (hs : (s.size : Int) ≤ 2147483647) :
    Calls Tryd.prog 38 #[.string s] w fun e w' => e = .returned (.tuple #[.int .i64 ((namedL s.data.toList).1 : Int), .bool (namedL s.data.toList).2]) ∧ Below w.heap.size w w' := by
  have HI1 : Hid (∀ w W : World, W = w.alloc (.cells (urlNames.map (fun l => Value.string ⟨l.toArray⟩)).toArray 9) → Calls Tryd.prog 63 #[.string s, .slice (some ⟨w.heap.size, 0, none⟩) 6 6] W fun e w' => e = .returned (.bool (urlNames.any (· == s.data.toList))) ∧ W = w') :=
    Lib.hid fun w W hW => is_any s urlNames w.heap.size 6 6 rfl (by decide) W (hW ▸ strs_new w urlNames 9)
  have HI2 : Hid (∀ (w W : World) (b : Nat), b = w.heap.size + 1 → W = (w.alloc (.cells (urlNames.map (fun l => Value.string ⟨l.toArray⟩)).toArray 9)).alloc (.cells (plainNames.map (fun l => Value.string ⟨l.toArray⟩)).toArray 9) → Calls Tryd.prog 63 #[.string s, .slice (some ⟨b, 0, none⟩) 7 7] W fun e w' => e = .returned (.bool (plainNames.any (· == s.data.toList))) ∧ W = w') :=
    Lib.hid fun w W b hb hW => is_any s plainNames b 7 7 rfl (by decide) W (by
      have h := strs_new (w.alloc (.cells (urlNames.map (fun l => Value.string ⟨l.toArray⟩)).toArray 9)) plainNames 9
      rw [show (w.alloc (.cells (urlNames.map (fun l => Value.string ⟨l.toArray⟩)).toArray 9)).heap.size = b by rw [hb]; simp, ← hW] at h
      exact h)
  obtain ⟨bu, hbu⟩ : ∃ b, urlNames.any (· == s.data.toList) = b := ⟨_, rfl⟩
  obtain ⟨bp, hbp⟩ : ∃ b, plainNames.any (· == s.data.toList) = b := ⟨_, rfl⟩
  obtain ⟨bs, hbs⟩ : ∃ b, (s.data.toList == styleW) = b := ⟨_, rfl⟩
  have HN : Hid (namedL s.data.toList = if isOn s.data.toList = true then (4, true) else if bs = true then (1, true) else if bu = true then (6, true) else if bp = true then (0, true) else (0, false)) := Lib.hid (by unfold namedL; rw [hbu, hbp, hbs])
  rw [hbu] at HI1
  rw [hbp] at HI2
  have hs2 : (s.toList == [115, 116, 121, 108, 101]) = bs := by rw [Lib.toList_data]; exact hbs
  clear hbu hbp hbs
  have HS := Lib.hid hs; clear hs
  have K1 : Hid True := Lib.hid trivial
  rcases on_way s with ⟨h0, h1, h2, h3⟩ | ⟨h0, h1⟩ | ⟨h0, h1, h2⟩ | ⟨h0, h1, h2, h3⟩
  · rw [h0, if_pos rfl] at HN
    have HW : Hid (∀ w, Calls Tryd.prog 25 #[.string (s.extract 2 s.size)] w fun e w' => e = .returned (.bool true) ∧ w = w') := Lib.hid fun w => by
      have := wordq_any (s.extract 2 s.size) w (by have := HS.out; unfold maxLen; simp; omega)
      rw [extract_end, h3] at this
      exact this
    have d1 : (2 : Int) < s.size := by omega
    have q1 : ((s.extract 0 2).toList == [111, 110]) = true := by rw [h2]; rfl
    clear h0 h1 h3 hs2 HI1 HI2 h2
    go_enter Tryd.func38, Tryd.ntmps38
    go_wp2_with (go_at_call 25; refine (HW.out _).mono ?_; rintro e w' ⟨rfl, rfl⟩)
    go_ret2
    rw [HN.out]
    exact ⟨rfl, Below.refl _ _⟩
  all_goals (rw [h0, if_neg (by decide)] at HN)
  · have d1 : decide ((2 : Int) < s.size) = false := by simp; omega
    have HW : Hid (∀ w, Calls Tryd.prog 25 #[.string (s.extract 2 s.size)] w fun e w' => e = .returned (.bool (wordB (s.extract 2 s.size).data.toList)) ∧ w = w') := Lib.hid fun w => wordq_any _ w (by have := HS.out; unfold maxLen; simp; omega)
    clear h0 h1
    cases bs <;> cases bu <;> cases bp
    all_goals
      first
        | (have q4 : (s.toList = [115, 116, 121, 108, 101]) = False := by simpa using hs2)
        | (have q4 : (s.toList = [115, 116, 121, 108, 101]) = True := by simpa using hs2)
      go_enter Tryd.func38, Tryd.ntmps38
      go_wp2_with (first
        | (go_at_call 25; refine (HW.out _).mono ?_; rintro e w' ⟨rfl, rfl⟩)
        | (go_at_call 63; clear K1; refine (HI1.out _ _ rfl).mono ?_; rintro e w' ⟨rfl, rfl⟩)
        | (go_at_call 63; refine (HI2.out _ _ _ rfl rfl).mono ?_; rintro e w' ⟨rfl, rfl⟩))
      go_ret2
      rw [HN.out]
      exact ⟨rfl, by first | exact Below.refl _ _ | exact (Below.refl _ _).alloc (Nat.le_refl _) _ | exact ((Below.refl _ _).alloc (Nat.le_refl _) _).alloc (by simp) _⟩
  · have d1 : (2 : Int) < s.size := by omega
    have q1 : ((s.extract 0 2).toList == [111, 110]) = false := by rw [beq_eq_false_iff_ne]; exact h2
    have q3 : ((s.extract 0 2).toList = [111, 110]) = False := eq_false h2
    have HW : Hid (∀ w, Calls Tryd.prog 25 #[.string (s.extract 2 s.size)] w fun e w' => e = .returned (.bool (wordB (s.extract 2 s.size).data.toList)) ∧ w = w') := Lib.hid fun w => wordq_any _ w (by have := HS.out; unfold maxLen; simp; omega)
    clear h0 h1 h2
    cases bs <;> cases bu <;> cases bp
    all_goals
      first
        | (have q4 : (s.toList = [115, 116, 121, 108, 101]) = False := by simpa using hs2)
        | (have q4 : (s.toList = [115, 116, 121, 108, 101]) = True := by simpa using hs2)
      go_enter Tryd.func38, Tryd.ntmps38
      go_wp2_with (first
        | (go_at_call 25; refine (HW.out _).mono ?_; rintro e w' ⟨rfl, rfl⟩)
        | (go_at_call 63; clear K1; refine (HI1.out _ _ rfl).mono ?_; rintro e w' ⟨rfl, rfl⟩)
        | (go_at_call 63; refine (HI2.out _ _ _ rfl rfl).mono ?_; rintro e w' ⟨rfl, rfl⟩))
      go_ret2
      rw [HN.out]
      exact ⟨rfl, by first | exact Below.refl _ _ | exact (Below.refl _ _).alloc (Nat.le_refl _) _ | exact ((Below.refl _ _).alloc (Nat.le_refl _) _).alloc (by simp) _⟩
  · have d1 : (2 : Int) < s.size := by omega
    have q1 : ((s.extract 0 2).toList == [111, 110]) = true := by rw [h2]; rfl
    have HW : Hid (∀ w, Calls Tryd.prog 25 #[.string (s.extract 2 s.size)] w fun e w' => e = .returned (.bool false) ∧ w = w') := Lib.hid fun w => by
      have := wordq_any (s.extract 2 s.size) w (by have := HS.out; unfold maxLen; simp; omega)
      rw [extract_end, h3] at this
      exact this
    clear h0 h1 h2 h3
    cases bs <;> cases bu <;> cases bp
    all_goals
      first
        | (have q4 : (s.toList = [115, 116, 121, 108, 101]) = False := by simpa using hs2)
        | (have q4 : (s.toList = [115, 116, 121, 108, 101]) = True := by simpa using hs2)
      go_enter Tryd.func38, Tryd.ntmps38
      go_wp2_with (first
        | (go_at_call 25; refine (HW.out _).mono ?_; rintro e w' ⟨rfl, rfl⟩)
        | (go_at_call 63; clear K1; refine (HI1.out _ _ rfl).mono ?_; rintro e w' ⟨rfl, rfl⟩)
        | (go_at_call 63; refine (HI2.out _ _ _ rfl rfl).mono ?_; rintro e w' ⟨rfl, rfl⟩))
      go_ret2
      rw [HN.out]
      exact ⟨rfl, by first | exact Below.refl _ _ | exact (Below.refl _ _).alloc (Nat.le_refl _) _ | exact ((Below.refl _ _).alloc (Nat.le_refl _) _).alloc (by simp) _⟩
end Go.Proofs.YtigobehhmodoiaaDoor
