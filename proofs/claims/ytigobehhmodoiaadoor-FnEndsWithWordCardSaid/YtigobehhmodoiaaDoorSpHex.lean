/- The reference's reader of hexadecimal digits. -/
import Derived.Test.YtigobehhmodoiaaDoorCom
namespace Go.Proofs.YtigobehhmodoiaaDoor
open Go.RowKit
set_option linter.unusedVariables false
set_option linter.unusedSimpArgs false

/-- The number that digits stand for. -/
def hexFold (l : Bytes) : Nat := l.foldl (fun v b => v * 16 + digitV b.toNat) 0
theorem hexFold_snoc (l : Bytes) (b : UInt8) : hexFold (l ++ [b]) = hexFold l * 16 + digitV b.toNat := by simp [hexFold]
theorem or4 (a b : Nat) (ha : a < 134217728) (hb : b < 16) : bits .or .i64 ((a : Int) * 16) (b : Int) = (a : Int) * 16 + (b : Int) := by
  have h := i64_or_nat (a * 16) b (by omega) (by omega)
  rw [nat_join 4 (a * 16) b (by omega) hb] at h
  exact_mod_cast h

set_option maxRecDepth 100000 in
theorem hex_ok (s : ByteArray) (D : Nat) (hD : D ≤ 4) (hl : D ≤ s.size) (hd : ∀ k, (h : k < s.size) → k < D → digitV s[k].toNat < 16) (w : World) (hs : s.size ≤ maxLen) :
    Calls Tryd.prog 58 #[.string s, .int .i64 D] w fun e w' => e = .returned (.tuple #[.int .i64 (hexFold (s.data.toList.take D)), .bool true]) ∧ w = w' := by
  unfold maxLen at hs
  have HD := Lib.hid hd; clear hd
  have hDI : decide (s.size < D) = false := by rw [decide_eq_false_iff_not]; omega
  have hD4 : (D : Int) ≤ 4 := by omega
  go_enter Tryd.func58, Tryd.ntmps58
  go_wp2_with fail
  go_loop [6, 15] (fun n i => ∃ k : Nat, k ≤ D ∧ i = .int .i64 k ∧ n = .int .i64 (hexFold (s.data.toList.take k)) ∧ hexFold (s.data.toList.take k) < 16 ^ k) (fun _ i => D - (intOf i).toNat)
  case atStart => exact ⟨0, Nat.zero_le _, rfl, rfl, by simp [hexFold]⟩
  case round =>
    obtain ⟨k, hk, rfl, rfl, hb⟩ := hrel
    by_cases hlt : k < D
    · have hks : k < s.size := by omega
      have hdk := HD.out k hks hlt
      obtain ⟨v, hv⟩ : ∃ v, v = hexFold (s.data.toList.take k) := ⟨_, rfl⟩
      obtain ⟨d, hd⟩ : ∃ d, d = digitV s[k].toNat := ⟨_, rfl⟩
      have HS : Hid (hexFold (s.data.toList.take (k + 1)) = v * 16 + d) := Lib.hid <| by
        rw [take_snoc s k hks, hexFold_snoc, hv, hd]
      have hvb : v < 4096 := by
        rw [← hv] at hb
        have : (16 : Nat) ^ k ≤ 16 ^ 3 := Nat.pow_le_pow_right (by omega) (by omega)
        omega
      rw [← hd] at hdk
      have hcon := fun w => digit_any s[k].toNat s[k].toNat_lt 16 w
      rw [← hd] at hcon
      have HC := Lib.hid hcon; clear hcon
      rw [← hv] at hb ⊢
      have HB : Hid (v * 16 + d < 16 ^ (k + 1)) := Lib.hid <| by rw [Nat.pow_succ]; omega
      have ho := or4 v d (by omega) hdk
      have hdi : decide ((d : Int) < 16) = true := by rw [decide_eq_true_eq]; omega
      clear hv hd hb
      go_wp2_with (go_at_call 67; refine (HC.out _).mono ?_; rintro e w' ⟨rfl, rfl⟩)
      go_round
      case rel => exact ⟨k + 1, by omega, by go_num, by rw [HS.out]; go_num, by rw [HS.out]; exact HB.out⟩
      case measure => simp [intOf]; omega
    · obtain rfl : k = D := by omega
      go_wp2_with fail
      go_ret2
      exact ⟨rfl, rfl⟩

set_option maxRecDepth 100000 in
theorem hex_short (s : ByteArray) (D : Nat) (hl : s.size < D) (w : World) (hs : s.size ≤ maxLen) :
    Calls Tryd.prog 58 #[.string s, .int .i64 D] w fun e w' => e = .returned (.tuple #[.int .i64 0, .bool false]) ∧ w = w' := by
  unfold maxLen at hs
  have hDI : decide (s.size < D) = true := by rw [decide_eq_true_eq]; omega
  go_enter Tryd.func58, Tryd.ntmps58
  go_wp2_with fail
  go_ret2
  exact ⟨rfl, rfl⟩
set_option maxRecDepth 100000 in
theorem hex_bad0 (s : ByteArray) (hl : 2 ≤ s.size) (h0 : 0 < s.size) (hd : 16 ≤ digitV s[0].toNat) (w : World) (hs : s.size ≤ maxLen) :
    Calls Tryd.prog 58 #[.string s, .int .i64 2] w fun e w' => e = .returned (.tuple #[.int .i64 0, .bool false]) ∧ w = w' := by
  unfold maxLen at hs
  obtain ⟨d, hdd⟩ : ∃ d, d = digitV s[0].toNat := ⟨_, rfl⟩
  have hcon := fun w => digit_any s[0].toNat s[0].toNat_lt 16 w
  rw [← hdd] at hcon hd
  have HC := Lib.hid hcon; clear hcon
  have hdi : decide ((d : Int) < 16) = false := by rw [decide_eq_false_iff_not]; omega
  have hl2 : decide ((s.size : Int) < 2) = false := by rw [decide_eq_false_iff_not]; omega
  have h0' : (0 : Int) < s.size := by omega
  clear hd hdd
  go_enter Tryd.func58, Tryd.ntmps58
  go_wp2_with fail
  refine wp_loop_rounds 1 ?_; rw [rounds_succ]
  go_wp2_with (go_at_call 67; refine (HC.out _).mono ?_; rintro e w' ⟨rfl, rfl⟩)
  go_ret2
  exact ⟨rfl, rfl⟩
set_option maxRecDepth 100000 in
theorem hex_bad1 (s : ByteArray) (hl : 2 ≤ s.size) (h0 : digitV s[0].toNat < 16) (hd : 16 ≤ digitV s[1].toNat) (w : World) (hs : s.size ≤ maxLen) :
    Calls Tryd.prog 58 #[.string s, .int .i64 2] w fun e w' => e = .returned (.tuple #[.int .i64 0, .bool false]) ∧ w = w' := by
  unfold maxLen at hs
  obtain ⟨d, hdd⟩ : ∃ d, d = digitV s[0].toNat := ⟨_, rfl⟩
  obtain ⟨d1, hdd1⟩ : ∃ d, d = digitV s[1].toNat := ⟨_, rfl⟩
  have hcon := fun w => digit_any s[0].toNat s[0].toNat_lt 16 w
  have hcon1 := fun w => digit_any s[1].toNat s[1].toNat_lt 16 w
  rw [← hdd] at hcon h0
  rw [← hdd1] at hcon1 hd
  have HC := Lib.hid hcon; clear hcon
  have HC1 := Lib.hid hcon1; clear hcon1
  have hdi : decide ((d : Int) < 16) = true := by rw [decide_eq_true_eq]; omega
  have hdi1 : decide ((d1 : Int) < 16) = false := by rw [decide_eq_false_iff_not]; omega
  have hl2 : decide ((s.size : Int) < 2) = false := by rw [decide_eq_false_iff_not]; omega
  have h0' : (1 : Int) < s.size := by omega
  have h0'' : (0 : Int) < s.size := by omega
  have ho : bits .or .i64 0 (d : Int) = (d : Int) := by have := or4 0 d (by omega) h0; simpa using this
  have HT : Hid True := Lib.hid trivial
  clear hd hdd hdd1
  go_enter Tryd.func58, Tryd.ntmps58
  go_wp2_with fail
  refine wp_loop_rounds 2 ?_; rw [rounds_succ]
  go_wp2_with (go_at_call 67; refine (HC.out _).mono ?_; rintro e w' ⟨rfl, rfl⟩)
  rw [rounds_succ]
  go_wp2_with (go_at_call 67; refine (HC1.out _).mono ?_; rintro e w' ⟨rfl, rfl⟩)
  go_ret2
  exact ⟨rfl, rfl⟩
end Go.Proofs.YtigobehhmodoiaaDoor
