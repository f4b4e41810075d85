/- The reference's readers of escapes in ECMAScript. -/
import Derived.Test.YteheelcppgjeaaaDoorSpecM
import Derived.Test.YteheelcppgjeaaaDoorLawJ
import Derived.Deep.QuietTactic
import Derived.BigQuiet
namespace Go.Proofs.YteheelcppgjeaaaDoor
open Go.RowKit
set_option linter.unusedVariables false
set_option linter.unusedSimpArgs false

/-- The number that digits stand for. -/
def hexFold (l : Bytes) : Nat := l.foldl (fun v b => v * 16 + digitV b.toNat) 0
theorem hexFold_snoc (l : Bytes) (b : UInt8) : hexFold (l ++ [b]) = hexFold l * 16 + digitV b.toNat := by simp [hexFold]
theorem or4 (a b : Nat) (ha : a < 134217728) (hb : b < 16) : bits .or .i64 ((a : Int) * 16) (b : Int) = (a : Int) * 16 + (b : Int) := by
  have h := i64_or_nat (a * 16) b (by omega) (by omega)
  rw [nat_join 4 (a * 16) b (by omega) hb] at h
  exact_mod_cast h

set_option maxRecDepth 100000 in
theorem hex_ok (s : ByteArray) (D : Nat) (hD : D ≤ 4) (hl : D ≤ s.size) (hd : ∀ k, (h : k < s.size) → k < D → digitV s[k].toNat < 16) (w : World) (hs : s.size ≤ maxLen) :
    Calls Tryd.prog 67 #[.string s, .int .i64 D] w fun e w' => e = .returned (.tuple #[.int .i64 (hexFold (s.data.toList.take D)), .bool true]) ∧ w = w' := by
  unfold maxLen at hs
  have HD := Lib.hid hd; clear hd
  have hDI : decide (s.size < D) = false := by rw [decide_eq_false_iff_not]; omega
  have hD4 : (D : Int) ≤ 4 := by omega
  go_enter Tryd.func67, Tryd.ntmps67
  go_wp2_with fail
  go_loop [6, 15] (fun n i => ∃ k : Nat, k ≤ D ∧ i = .int .i64 k ∧ n = .int .i64 (hexFold (s.data.toList.take k)) ∧ hexFold (s.data.toList.take k) < 16 ^ k) (fun _ i => D - (intOf i).toNat)
  case atStart => exact ⟨0, Nat.zero_le _, rfl, rfl, by simp [hexFold]⟩
  case round =>
    obtain ⟨k, hk, rfl, rfl, hb⟩ := hrel
    by_cases hlt : k < D
    · have hks : k < s.size := by omega
      have hdk := HD.out k hks hlt
      obtain ⟨v, hv⟩ : ∃ v, v = hexFold (s.data.toList.take k) := ⟨_, rfl⟩
      obtain ⟨d, hd⟩ : ∃ d, d = digitV s[k].toNat := ⟨_, rfl⟩
      have HS : Hid (hexFold (s.data.toList.take (k + 1)) = v * 16 + d) := Lib.hid <| by
        rw [take_snoc s k hks, hexFold_snoc, hv, hd]
      have hvb : v < 4096 := by
        rw [← hv] at hb
        have : (16 : Nat) ^ k ≤ 16 ^ 3 := Nat.pow_le_pow_right (by omega) (by omega)
        omega
      rw [← hd] at hdk
      have hcon := fun w => digit_any s[k].toNat s[k].toNat_lt 16 w
      rw [← hd] at hcon
      have HC := Lib.hid hcon; clear hcon
      rw [← hv] at hb ⊢
      have HB : Hid (v * 16 + d < 16 ^ (k + 1)) := Lib.hid <| by rw [Nat.pow_succ]; omega
      have ho := or4 v d (by omega) hdk
      have hdi : decide ((d : Int) < 16) = true := by rw [decide_eq_true_eq]; omega
      clear hv hd hb
      go_wp2_with (go_at_call 85; refine (HC.out _).mono ?_; rintro e w' ⟨rfl, rfl⟩)
      go_round
      case rel => exact ⟨k + 1, by omega, by go_num, by rw [HS.out]; go_num, by rw [HS.out]; exact HB.out⟩
      case measure => simp [intOf]; omega
    · obtain rfl : k = D := by omega
      go_wp2_with fail
      go_ret2
      exact ⟨rfl, rfl⟩

theorem single_hit (c : Nat) (hc : singleV c ≠ 0) (w : World) :
    Calls Tryd.prog 69 #[.int .u8 c] w fun e w' => e = .returned (.tuple #[.int .u8 (singleV c), .bool true]) ∧ w = w' := by
  have h : c = 98 ∨ c = 116 ∨ c = 110 ∨ c = 118 ∨ c = 102 ∨ c = 114 := by
    by_cases e1 : c = 98
    · omega
    by_cases e2 : c = 116
    · omega
    by_cases e3 : c = 110
    · omega
    by_cases e4 : c = 118
    · omega
    by_cases e5 : c = 102
    · omega
    by_cases e6 : c = 114
    · omega
    exfalso
    apply hc
    unfold singleV
    rw [if_neg e1, if_neg e2, if_neg e3, if_neg e4, if_neg e5, if_neg e6]
  rcases h with rfl | rfl | rfl | rfl | rfl | rfl
  all_goals
    go_enter Tryd.func69, Tryd.ntmps69
    go_wp2
    go_ret2
    exact ⟨rfl, rfl⟩
theorem single_none (c : Nat) (hc : singleV c = 0) (w : World) :
    Calls Tryd.prog 69 #[.int .u8 c] w fun e w' => e = .returned (.tuple #[.int .u8 0, .bool false]) ∧ w = w' := by
  unfold singleV at hc
  have k1 : ((c : Int) == 98) = false := by rw [beq_eq_false_iff_ne]; intro h; rw [if_pos (by omega)] at hc; cases hc
  have k2 : ((c : Int) == 116) = false := by rw [beq_eq_false_iff_ne]; intro h; rw [if_neg (by omega), if_pos (by omega)] at hc; cases hc
  have k3 : ((c : Int) == 110) = false := by rw [beq_eq_false_iff_ne]; intro h; rw [if_neg (by omega), if_neg (by omega), if_pos (by omega)] at hc; cases hc
  have k4 : ((c : Int) == 118) = false := by rw [beq_eq_false_iff_ne]; intro h; rw [if_neg (by omega), if_neg (by omega), if_neg (by omega), if_pos (by omega)] at hc; cases hc
  have k5 : ((c : Int) == 102) = false := by rw [beq_eq_false_iff_ne]; intro h; rw [if_neg (by omega), if_neg (by omega), if_neg (by omega), if_neg (by omega), if_pos (by omega)] at hc; cases hc
  have k6 : ((c : Int) == 114) = false := by rw [beq_eq_false_iff_ne]; intro h; rw [if_neg (by omega), if_neg (by omega), if_neg (by omega), if_neg (by omega), if_neg (by omega), if_pos (by omega)] at hc; cases hc
  clear hc
  go_enter Tryd.func69, Tryd.ntmps69
  go_wp2
  go_ret2
  exact ⟨rfl, rfl⟩

theorem extract_mid0 (s : ByteArray) (b : Nat) : (s.extract 0 b).data.toList = s.data.toList.take b := by
  rw [Lib.extract_data]; simp
set_option maxRecDepth 100000 in
theorem lineEnd_no (s : ByteArray) (w : World) (hs : s.size ≤ maxLen) (h0 : 0 < s.size) (h : lineEndL s.data.toList = false) :
    Calls Tryd.prog 47 #[.string s] w fun e w' => e = .returned (.bool false) ∧ w = w' := by
  unfold maxLen at hs
  have HL : Hid (s.data.toList.length = s.size) := Lib.hid (by simp)
  unfold lineEndL at h
  rw [HL.out, at0_get s 0 h0] at h
  simp only [Bool.or_eq_false_iff, beq_eq_false_iff_ne] at h
  obtain ⟨⟨h1, h2⟩, h3⟩ := h
  have k1 : ((s[0].toNat : Int) == 10) = false := by rw [beq_eq_false_iff_ne]; omega
  have k2 : ((s[0].toNat : Int) == 13) = false := by rw [beq_eq_false_iff_ne]; omega
  clear h1 h2
  by_cases hz : s.size ≤ 2
  · have hz' : decide ((2 : Int) < s.size) = false := by rw [decide_eq_false_iff_not]; omega
    clear h3
    go_enter Tryd.func47, Tryd.ntmps47
    go_wp2_with fail
    go_ret
    exact ⟨rfl, rfl⟩
  · have hz2 : (2 : Int) < s.size := by omega
    rw [at0_get s 1 (by omega), at0_get s 2 (by omega)] at h3
    have HN : Hid ((s.extract 0 2).toList = [226, 128] → s[2].toNat ≠ 168 ∧ s[2].toNat ≠ 169) := Lib.hid <| by
      intro h
      rw [Lib.toList_data, extract_mid0 s 2] at h
      have e0 : at0 s.data.toList 0 = 226 := by rw [← at0_take s.data.toList 2 0 (by omega), h]; rfl
      have e1 : at0 s.data.toList 1 = 128 := by rw [← at0_take s.data.toList 2 1 (by omega), h]; rfl
      rw [at0_get s 0 h0] at e0
      rw [at0_get s 1 (by omega)] at e1
      rw [e0, e1, decide_eq_true (by omega)] at h3
      simp at h3
      exact h3
    clear h3
    by_cases hx : (s.extract 0 2).toList = [226, 128]
    · obtain ⟨n1, n2⟩ := HN.out hx
      have k3 : ((s[2].toNat : Int) == 168) = false := by rw [beq_eq_false_iff_ne]; omega
      have k4 : ((s[2].toNat : Int) == 169) = false := by rw [beq_eq_false_iff_ne]; omega
      clear n1 n2 HN
      go_enter Tryd.func47, Tryd.ntmps47
      go_wp2_with fail
      go_ret
      exact ⟨rfl, rfl⟩
    · have hx1 : ((s.extract 0 2).toList = [226, 128]) = False := eq_false hx
      have hx2 : ((s.extract 0 2).toList == [226, 128]) = false := by rw [beq_eq_false_iff_ne]; exact hx
      clear hx HN
      go_enter Tryd.func47, Tryd.ntmps47
      go_wp2_with fail
      go_ret
      exact ⟨rfl, rfl⟩
end Go.Proofs.YteheelcppgjeaaaDoor
