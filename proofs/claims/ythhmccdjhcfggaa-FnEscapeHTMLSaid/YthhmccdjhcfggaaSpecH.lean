/- The reference's charOf and numeric. -/
import Derived.Test.YthhmccdjhcfggaaSpecG
import Derived.Test.YthhmccdjhcfggaaSpecF
namespace Go.Proofs.Ythhmccdjhcfggaa
open Go.RowKit
set_option linter.unusedVariables false
set_option linter.unusedSimpArgs false

theorem charOf_zero (w : World) :
    Calls Try.prog 28 #[.int .i64 0] w fun e w' => e = .returned (.int .i64 ((65533 : Nat) : Int)) ∧ Below w.heap.size w w' := by
  go_enter Try.func28, Try.ntmps28
  go_wp2_with fail
  go_ret
  exact ⟨rfl, Below.refl _ _⟩

theorem charOf_great (n : Nat) (w : World) (g1 : ((n : Int) == 0) = false) (g2 : (1114111 : Int) < n) :
    Calls Try.prog 28 #[.int .i64 n] w fun e w' => e = .returned (.int .i64 ((65533 : Nat) : Int)) ∧ Below w.heap.size w w' := by
  go_enter Try.func28, Try.ntmps28
  go_wp2_with fail
  go_ret
  exact ⟨rfl, Below.refl _ _⟩

theorem charOf_half (n : Nat) (w : World) (g1 : ((n : Int) == 0) = false) (g2 : ¬(1114111 : Int) < n) (g3 : (55296 : Int) ≤ n) (g4 : (n : Int) ≤ 57343) :
    Calls Try.prog 28 #[.int .i64 n] w fun e w' => e = .returned (.int .i64 ((65533 : Nat) : Int)) ∧ Below w.heap.size w w' := by
  go_enter Try.func28, Try.ntmps28
  go_wp2_with fail
  go_ret
  exact ⟨rfl, Below.refl _ _⟩

set_option maxRecDepth 100000 in
set_option maxHeartbeats 1000000 in
theorem charOf_self1 (n : Nat) (w : World) (g1 : ((n : Int) == 0) = false) (g2 : (n : Int) < 128) :
    Calls Try.prog 28 #[.int .i64 n] w fun e w' => e = .returned (.int .i64 (n : Int)) ∧ Below w.heap.size w w' := by
  go_enter Try.func28, Try.ntmps28
  go_wp2_with fail
  go_ret
  exact ⟨rfl, (Below.refl _ _).alloc (Nat.le_refl _) _⟩

set_option maxRecDepth 100000 in
set_option maxHeartbeats 1000000 in
theorem charOf_self2 (n : Nat) (w : World) (g1 : ((n : Int) == 0) = false) (g2 : decide ((1114111 : Int) < n) = false) (g3 : decide ((55296 : Int) ≤ n) = false) (g4 : decide ((128 : Int) ≤ n) = true) (g5 : decide ((n : Int) < 160) = false) :
    Calls Try.prog 28 #[.int .i64 n] w fun e w' => e = .returned (.int .i64 (n : Int)) ∧ Below w.heap.size w w' := by
  go_enter Try.func28, Try.ntmps28
  go_wp2_with fail
  go_ret
  exact ⟨rfl, (Below.refl _ _).alloc (Nat.le_refl _) _⟩

set_option maxRecDepth 100000 in
set_option maxHeartbeats 1000000 in
theorem charOf_self3 (n : Nat) (w : World) (g1 : ((n : Int) == 0) = false) (g2 : ¬ (1114111 : Int) < n) (g3 : ¬ (n : Int) ≤ 57343) :
    Calls Try.prog 28 #[.int .i64 n] w fun e w' => e = .returned (.int .i64 (n : Int)) ∧ Below w.heap.size w w' := by
  go_enter Try.func28, Try.ntmps28
  go_wp2_with fail
  go_ret
  exact ⟨rfl, (Below.refl _ _).alloc (Nat.le_refl _) _⟩

theorem tab_len : tabC.length = 32 := rfl
theorem get_tab (l : List Value) (hl : l = tabC.map (fun x : Nat => Value.int .i64 (x : Int))) (m : Nat) (hm : m < l.length) : l[m] = .int .i64 ((tabC.getD m 0 : Nat) : Int) := by
  subst hl
  have h2 : m < tabC.length := by simpa using hm
  simp [List.getD_eq_getElem?_getD, List.getElem?_eq_getElem h2]

set_option maxRecDepth 100000 in
set_option maxHeartbeats 1000000 in
theorem charOf_tab (n m : Nat) (w : World) (g1 : ((n : Int) == 0) = false) (g2 : decide ((1114111 : Int) < n) = false) (g3 : decide ((55296 : Int) ≤ n) = false) (g4 : decide ((128 : Int) ≤ n) = true) (g5 : decide ((n : Int) < 160) = true)
    (g6 : wrap64 ((n : Int) - 128) = (m : Int)) (g7 : m < 32) :
    Calls Try.prog 28 #[.int .i64 n] w fun e w' => e = .returned (.int .i64 ((tabC.getD m 0 : Nat) : Int)) ∧ Below w.heap.size w w' := by
  go_enter Try.func28, Try.ntmps28
  go_wp2_with fail
  go_ret
  exact ⟨congrArg Ending.returned (get_tab _ rfl m _), (Below.refl _ _).alloc (Nat.le_refl _) _⟩

theorem charOf_any (n : Nat) (w : World) (hn : n < 2147483648) :
    Calls Try.prog 28 #[.int .i64 n] w fun e w' => e = .returned (.int .i64 ((charOfN n : Nat) : Int)) ∧ Below w.heap.size w w' := by
  by_cases h0 : n = 0
  · subst h0; exact charOf_zero w
  have g1 : ((n : Int) == 0) = false := by simp; omega
  by_cases h1 : 1114111 < n
  · have e : charOfN n = 65533 := by unfold charOfN; rw [if_pos (by omega)]
    rw [e]; exact charOf_great n w g1 (by omega)
  by_cases h2 : 55296 ≤ n ∧ n ≤ 57343
  · have e : charOfN n = 65533 := by unfold charOfN; rw [if_pos (by omega)]
    rw [e]; exact charOf_half n w g1 (by omega) (by omega) (by omega)
  by_cases h3 : n < 128
  · have e : charOfN n = n := by unfold charOfN; rw [if_neg (by omega), if_neg (by omega)]
    rw [e]; exact charOf_self1 n w g1 (by omega)
  by_cases h4 : n < 160
  · have e : charOfN n = tabC.getD (n - 128) 0 := by unfold charOfN; rw [if_neg (by omega), if_pos (by omega)]
    rw [e]
    refine charOf_tab n (n - 128) w g1 ?_ ?_ ?_ ?_ ?_ (by omega)
    · rw [decide_eq_false_iff_not]; omega
    · rw [decide_eq_false_iff_not]; omega
    · rw [decide_eq_true_iff]; omega
    · rw [decide_eq_true_iff]; omega
    · unfold wrap64; omega
  have e : charOfN n = n := by unfold charOfN; rw [if_neg (by omega), if_neg (by omega)]
  by_cases h5 : n < 55296
  · rw [e]
    refine charOf_self2 n w g1 ?_ ?_ ?_ ?_
    · rw [decide_eq_false_iff_not]; omega
    · rw [decide_eq_false_iff_not]; omega
    · rw [decide_eq_true_iff]; omega
    · rw [decide_eq_false_iff_not]; omega
  · rw [e]
    exact charOf_self3 n w g1 (by omega) (by omega)

theorem charOfN_le (n : Nat) : charOfN n < 1114112 := by
  have ht : ∀ k, tabC.getD k 0 < 1114112 := by
    intro k
    by_cases h : k < 32
    · have : ∀ k, k < 32 → tabC.getD k 0 < 1114112 := by decide
      exact this k h
    · have : tabC.getD k 0 = 0 := by rw [List.getD_eq_getElem?_getD, List.getElem?_eq_none (by rw [tab_len]; omega)]; rfl
      omega
  unfold charOfN
  have := ht (n - 0x80)
  repeat' split
  all_goals omega
end Go.Proofs.Ythhmccdjhcfggaa
