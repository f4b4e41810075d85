/- The reference's Coded: a number as a character in UTF-8. -/
import Derived.Test.YtigobehhmodoiaaDoorCom
import Derived.StillTailTactics
namespace Go.Proofs.YtigobehhmodoiaaDoor
open Go.RowKit
set_option linter.unusedVariables false
set_option linter.unusedSimpArgs false

theorem moreB (m : Nat) (hm : m < 2147483648) : bits .or .i64 128 (bits .and .i64 (m : Int) 63) % 256 = ((128 + m % 64 : Nat) : Int) := by
  have h1 := i64_and_nat m 63 hm (by omega)
  rw [nat_mask6] at h1
  have h2 := i64_or_nat 128 (m % 64) (by omega) (by omega)
  rw [nat_join 6 128 (m % 64) (by omega) (by omega)] at h2
  have h3 : bits .and .i64 (m : Int) 63 = ((m % 64 : Nat) : Int) := h1
  rw [h3]
  have h4 : bits .or .i64 128 ((m % 64 : Nat) : Int) = ((128 + m % 64 : Nat) : Int) := h2
  rw [h4]; omega
theorem lead2 (m : Nat) (hm : m < 32) : bits .or .i64 192 (m : Int) % 256 = ((192 + m : Nat) : Int) := by
  have h2 := i64_or_nat 192 m (by omega) (by omega)
  rw [nat_join 5 192 m (by omega) (by omega)] at h2
  have h4 : bits .or .i64 192 (m : Int) = ((192 + m : Nat) : Int) := h2
  rw [h4]; omega
theorem lead3 (m : Nat) (hm : m < 16) : bits .or .i64 224 (m : Int) % 256 = ((224 + m : Nat) : Int) := by
  have h2 := i64_or_nat 224 m (by omega) (by omega)
  rw [nat_join 4 224 m (by omega) (by omega)] at h2
  have h4 : bits .or .i64 224 (m : Int) = ((224 + m : Nat) : Int) := h2
  rw [h4]; omega
theorem lead4 (m : Nat) (hm : m < 8) : bits .or .i64 240 (m : Int) % 256 = ((240 + m : Nat) : Int) := by
  have h2 := i64_or_nat 240 m (by omega) (by omega)
  rw [nat_join 3 240 m (by omega) (by omega)] at h2
  have h4 : bits .or .i64 240 (m : Int) = ((240 + m : Nat) : Int) := h2
  rw [h4]; omega

theorem more0 (n : Nat) (a : Addr) (w : World) (hn : n < 2097152) (hc : w.cell? a = some (.int .i64 n)) :
    Calls Tryd.prog 88 #[.int .i64 0, .pointer (some a)] w fun e w' => e = .returned (.int .u8 ((128 + n % 64 : Nat) : Int)) ∧ w' = w := by
  have h := Lib.hid (moreB n (by omega))
  go_enter Tryd.func88, Tryd.ntmps88
  go_wp2_with fail
  go_ret
  exact ⟨ret_int h.out, rfl⟩
theorem more1 (n : Nat) (a : Addr) (w : World) (hn : n < 2097152) (hc : w.cell? a = some (.int .i64 n)) :
    Calls Tryd.prog 88 #[.int .i64 1, .pointer (some a)] w fun e w' => e = .returned (.int .u8 ((128 + n / 64 % 64 : Nat) : Int)) ∧ w' = w := by
  have h := Lib.hid (moreB (n / 64) (by omega))
  go_enter Tryd.func88, Tryd.ntmps88
  go_wp2_with fail
  go_ret
  exact ⟨ret_int h.out, rfl⟩
theorem more2 (n : Nat) (a : Addr) (w : World) (hn : n < 2097152) (hc : w.cell? a = some (.int .i64 n)) :
    Calls Tryd.prog 88 #[.int .i64 2, .pointer (some a)] w fun e w' => e = .returned (.int .u8 ((128 + n / 4096 % 64 : Nat) : Int)) ∧ w' = w := by
  have h := Lib.hid (moreB (n / 4096) (by omega))
  go_enter Tryd.func88, Tryd.ntmps88
  go_wp2_with fail
  go_ret
  exact ⟨ret_int h.out, rfl⟩

theorem region_still_tail {P : Program} {id : Nat} {Q : Exit → Act → World → Prop} {a : Act} {w : World} {l : List Oper} (n : Nat) (hm : P.follows .mixedOrders = true) (hB : Region.lexTailB .any l.toArray n = true)
    (h : wpStill P l.toArray w.drew (fun a' => wpList P l.toArray Q (l.drop n) a' w.drew) (l.take n) a) : (Code.region id l.toArray true).wp P Q a w :=
  wp_region_still_tail n hm hB h

theorem conv_at (w : World) (xs : List Nat) (h : ∀ x ∈ xs, x < 256) (b n cap : Nat) (hn : xs.length = n)
    (hc : ∀ j (hj : j < xs.length), w.cell? ⟨b, j, none⟩ = some (.int .u8 ((xs[j] : Nat) : Int))) :
    (convert 34 9 (.slice (some ⟨b, 0, none⟩) n cap)).run Tryd.prog w = .ok (.string ⟨(xs.map UInt8.ofNat).toArray⟩) w := by
  have hl : (xs.map UInt8.ofNat).length = n := by simpa using hn
  rw [← hl]
  refine run_convert_bytes_back _ _ _ 5 _ _ (xs.map UInt8.ofNat) Tryd.underlying34 Tryd.underlying5 Tryd.underlying9 (fun j hj => ?_)
  have hj' : j < xs.length := by simpa using hj
  have e : Addr.add ⟨b, 0, none⟩ j = ⟨b, j, none⟩ := by
    by_cases h0 : j = 0
    · subst h0; rfl
    · simp [Addr.add, h0]
  rw [e, hc j hj']
  have hx := h xs[j] (List.getElem_mem hj')
  simp [Nat.mod_eq_of_lt hx]

theorem conv_new (w : World) (xs : List Nat) (h : ∀ x ∈ xs, x < 256) (b n cap : Nat) (hb : b = w.heap.size) (hn : xs.length = n) :
    (convert 34 9 (.slice (some ⟨b, 0, none⟩) n cap)).run Tryd.prog (w.alloc (.cells (xs.map (fun x : Nat => Value.int .u8 (x : Int))).toArray 5)) =
      .ok (.string ⟨(xs.map UInt8.ofNat).toArray⟩) (w.alloc (.cells (xs.map (fun x : Nat => Value.int .u8 (x : Int))).toArray 5)) := by
  subst hb
  refine conv_at _ xs h _ _ _ hn (fun j hj => ?_)
  rw [World.cell?_alloc_new]
  simp [List.getElem?_eq_getElem hj]
theorem conv_drew (w : World) (xs : List Nat) (h : ∀ x ∈ xs, x < 256) (b n cap : Nat) (hb : b = w.heap.size) (hn : xs.length = n) :
    (convert 34 9 (.slice (some ⟨b, 0, none⟩) n cap)).run Tryd.prog (w.alloc (.cells (xs.map (fun x : Nat => Value.int .u8 (x : Int))).toArray 5)).drew =
      .ok (.string ⟨(xs.map UInt8.ofNat).toArray⟩) (w.alloc (.cells (xs.map (fun x : Nat => Value.int .u8 (x : Int))).toArray 5)).drew := by
  subst hb
  refine conv_at _ xs h _ _ _ hn (fun j hj => ?_)
  show World.cell? (w.alloc _) _ = _
  rw [World.cell?_alloc_new]
  simp [List.getElem?_eq_getElem hj]

set_option maxRecDepth 100000 in
set_option maxHeartbeats 1000000 in
theorem coded_1 (n : Nat) (w : World) (hn : n < 128) :
    Calls Tryd.prog 70 #[.int .i64 n] w fun e w' => RetStr (codedL n) e ∧ Below w.heap.size w w' := by
  have HR : Hid (codedL n = [UInt8.ofNat n]) := Lib.hid <| by unfold codedL; rw [if_pos hn]
  have hcv := conv_new (w.alloc (.cells #[.int .i64 n] 3)) [n] (by simp; omega) (w.heap.size + 1) 1 1 (by simp) rfl
  simp only [List.map_cons, List.map_nil] at hcv
  go_enter Tryd.func70, Tryd.ntmps70
  go_wp2_with fail
  go_ret
  exact ⟨⟨_, rfl, by rw [HR.out]⟩, ((Below.refl _ _).alloc (Nat.le_refl _) _).alloc (by simp) _⟩

set_option maxRecDepth 100000 in
set_option maxHeartbeats 2000000 in
theorem coded_2 (n : Nat) (w : World) (h1 : 128 ≤ (n : Int)) (hn : (n : Int) < 2048) :
    Calls Tryd.prog 70 #[.int .i64 n] w fun e w' => RetStr (codedL n) e ∧ Below w.heap.size w w' := by
  obtain ⟨b0, hb0, hl0, e0⟩ : ∃ b0 : Nat, bits .or .i64 192 ((n : Int) / 64) % 256 = (b0 : Int) ∧ b0 < 256 ∧ Hid (b0 = 192 + n / 64) := ⟨192 + n / 64, lead2 (n / 64) (by omega), by omega, rfl⟩
  obtain ⟨b1, hl1, e1⟩ : ∃ b : Nat, b < 256 ∧ Hid (b = 128 + n % 64) := ⟨_, by omega, rfl⟩
  have HR : Hid (codedL n = [UInt8.ofNat b0, UInt8.ofNat b1]) := Lib.hid <| by unfold codedL; rw [if_neg (by omega), if_pos (by omega), e0.out, e1.out]
  have m0 := fun a w hc => more0 n a w (by omega) hc
  rw [← e1.out] at m0
  have M0 := Lib.hid m0; clear m0
  have hcv := conv_drew (w.alloc (.cells #[.int .i64 n] 3)) [b0, b1] (by simp; omega) (w.heap.size + 1) 2 2 (by simp) rfl
  simp only [List.map_cons, List.map_nil] at hcv
  go_enter Tryd.func70, Tryd.ntmps70
  go_wp2_with fail
  refine region_still_tail 6 (by kernel_rfl) (by kernel_rfl) ?_
  simp only [List.take_succ_cons, List.take_zero, List.drop_succ_cons, List.drop_zero]
  repeat still_step
  still_call (M0.out _ _ (by go_simp))
  refine wpStill_nil ?_
  go_wp2_with fail
  go_ret
  exact ⟨⟨_, rfl, by rw [HR.out]⟩, ((((Below.refl _ _).alloc (Nat.le_refl _) _).alloc (by simp) _).drew)⟩

set_option maxRecDepth 100000 in
set_option maxHeartbeats 2000000 in
theorem coded_3 (n : Nat) (w : World) (h1 : 2048 ≤ (n : Int)) (hn : (n : Int) < 65536) :
    Calls Tryd.prog 70 #[.int .i64 n] w fun e w' => RetStr (codedL n) e ∧ Below w.heap.size w w' := by
  obtain ⟨b0, hb0, hl0, e0⟩ : ∃ b0 : Nat, bits .or .i64 224 ((n : Int) / 4096) % 256 = (b0 : Int) ∧ b0 < 256 ∧ Hid (b0 = 224 + n / 4096) := ⟨224 + n / 4096, lead3 (n / 4096) (by omega), by omega, rfl⟩
  obtain ⟨b1, hl1, e1⟩ : ∃ b : Nat, b < 256 ∧ Hid (b = 128 + n / 64 % 64) := ⟨_, by omega, rfl⟩
  obtain ⟨b2, hl2, e2⟩ : ∃ b : Nat, b < 256 ∧ Hid (b = 128 + n % 64) := ⟨_, by omega, rfl⟩
  have HR : Hid (codedL n = [UInt8.ofNat b0, UInt8.ofNat b1, UInt8.ofNat b2]) := Lib.hid <| by unfold codedL; rw [if_neg (by omega), if_neg (by omega), if_pos (by omega), e0.out, e1.out, e2.out]
  have m1 := fun a w hc => more1 n a w (by omega) hc
  rw [← e1.out] at m1
  have M1 := Lib.hid m1; clear m1
  have m0 := fun a w hc => more0 n a w (by omega) hc
  rw [← e2.out] at m0
  have M0 := Lib.hid m0; clear m0
  have hcv := conv_drew (w.alloc (.cells #[.int .i64 n] 3)) [b0, b1, b2] (by simp; omega) (w.heap.size + 1) 3 3 (by simp) rfl
  simp only [List.map_cons, List.map_nil] at hcv
  have g0 : ¬ (n : Int) < 128 := by omega
  have g1 : ¬ (n : Int) < 2048 := by omega
  clear h1
  go_enter Tryd.func70, Tryd.ntmps70
  go_wp2_with fail
  refine region_still_tail 8 (by kernel_rfl) (by kernel_rfl) ?_
  simp only [List.take_succ_cons, List.take_zero, List.drop_succ_cons, List.drop_zero]
  repeat still_step
  still_call (M1.out _ _ (by go_simp))
  repeat still_step
  still_call (M0.out _ _ (by go_simp))
  refine wpStill_nil ?_
  go_wp2_with fail
  go_ret
  exact ⟨⟨_, rfl, by rw [HR.out]⟩, ((((Below.refl _ _).alloc (Nat.le_refl _) _).alloc (by simp) _).drew)⟩

set_option maxRecDepth 100000 in
set_option maxHeartbeats 2000000 in
theorem coded_4 (n : Nat) (w : World) (h1 : 65536 ≤ (n : Int)) (hn : (n : Int) < 2097152) :
    Calls Tryd.prog 70 #[.int .i64 n] w fun e w' => RetStr (codedL n) e ∧ Below w.heap.size w w' := by
  obtain ⟨b0, hb0, hl0, e0⟩ : ∃ b0 : Nat, bits .or .i64 240 ((n : Int) / 262144) % 256 = (b0 : Int) ∧ b0 < 256 ∧ Hid (b0 = 240 + n / 262144) := ⟨240 + n / 262144, lead4 (n / 262144) (by omega), by omega, rfl⟩
  obtain ⟨b1, hl1, e1⟩ : ∃ b : Nat, b < 256 ∧ Hid (b = 128 + n / 4096 % 64) := ⟨_, by omega, rfl⟩
  obtain ⟨b2, hl2, e2⟩ : ∃ b : Nat, b < 256 ∧ Hid (b = 128 + n / 64 % 64) := ⟨_, by omega, rfl⟩
  obtain ⟨b3, hl3, e3⟩ : ∃ b : Nat, b < 256 ∧ Hid (b = 128 + n % 64) := ⟨_, by omega, rfl⟩
  have HR : Hid (codedL n = [UInt8.ofNat b0, UInt8.ofNat b1, UInt8.ofNat b2, UInt8.ofNat b3]) := Lib.hid <| by unfold codedL; rw [if_neg (by omega), if_neg (by omega), if_neg (by omega), e0.out, e1.out, e2.out, e3.out]
  have m2 := fun a w hc => more2 n a w (by omega) hc
  rw [← e1.out] at m2
  have M2 := Lib.hid m2; clear m2
  have m1 := fun a w hc => more1 n a w (by omega) hc
  rw [← e2.out] at m1
  have M1 := Lib.hid m1; clear m1
  have m0 := fun a w hc => more0 n a w (by omega) hc
  rw [← e3.out] at m0
  have M0 := Lib.hid m0; clear m0
  have hcv := conv_drew (w.alloc (.cells #[.int .i64 n] 3)) [b0, b1, b2, b3] (by simp; omega) (w.heap.size + 1) 4 4 (by simp) rfl
  simp only [List.map_cons, List.map_nil] at hcv
  have g0 : ¬ (n : Int) < 128 := by omega
  have g1 : ¬ (n : Int) < 2048 := by omega
  have g2 : ¬ (n : Int) < 65536 := by omega
  clear h1 hn
  go_enter Tryd.func70, Tryd.ntmps70
  go_wp2_with fail
  refine region_still_tail 10 (by kernel_rfl) (by kernel_rfl) ?_
  simp only [List.take_succ_cons, List.take_zero, List.drop_succ_cons, List.drop_zero]
  repeat still_step
  still_call (M2.out _ _ (by go_simp))
  repeat still_step
  still_call (M1.out _ _ (by go_simp))
  repeat still_step
  still_call (M0.out _ _ (by go_simp))
  refine wpStill_nil ?_
  go_wp2_with fail
  go_ret
  exact ⟨⟨_, rfl, by rw [HR.out]⟩, ((((Below.refl _ _).alloc (Nat.le_refl _) _).alloc (by simp) _).drew)⟩

theorem coded_any (n : Nat) (w : World) (hn : n < 2097152) :
    Calls Tryd.prog 70 #[.int .i64 n] w fun e w' => RetStr (codedL n) e ∧ Below w.heap.size w w' := by
  by_cases h1 : n < 128
  · exact coded_1 n w h1
  by_cases h2 : n < 2048
  · exact coded_2 n w (by omega) (by omega)
  by_cases h3 : n < 65536
  · exact coded_3 n w (by omega) (by omega)
  · exact coded_4 n w (by omega) (by omega)
end Go.Proofs.YtigobehhmodoiaaDoor
