/- CSS: the package's skipCSSSpace, at a window of a byte slice. -/
import Derived.Test.YtigobehhmodoiaaDoorDecA
import Derived.Test.YtigobehhmodoiaaDoorLawD2
namespace Go.Proofs.YtigobehhmodoiaaDoor
open Go.RowKit
set_option linter.unusedVariables false
set_option linter.unusedSimpArgs false

/-- The slice that reads the source from place p on (N: its end, c: its room). -/
def SrcV (b N c p : Nat) (v : Value) : Prop := ∃ (a : Addr) (C : Nat), v = .slice (some a) (N - p) C ∧ (p < N → a = ⟨b, p, none⟩ ∧ C = c - p)
theorem SrcV.at {b N c p : Nat} {v : Value} (h : SrcV b N c p v) (hp : p < N) : v = .slice (some ⟨b, p, none⟩) (N - p) (c - p) := by
  obtain ⟨a, C, rfl, h⟩ := h
  obtain ⟨rfl, rfl⟩ := h hp
  rfl
theorem SrcV.mk {b N c p : Nat} {a : Addr} {m C : Nat} (hm : m = N - p) (h : p < N → a = ⟨b, p, none⟩ ∧ C = c - p) : SrcV b N c p (.slice (some a) m C) := ⟨a, C, by rw [hm], h⟩

set_option maxRecDepth 100000 in
set_option maxHeartbeats 4000000 in
theorem skip_none (a : Addr) (C : Nat) (w : World) :
    Calls Tryd.prog 92 #[.slice (some a) 0 C] w fun e w' => e = .returned (.slice (some a) 0 C) ∧ w = w' := by
  go_enter Tryd.func92, Tryd.ntmps92
  go_wp2_with fail
  go_ret
  exact ⟨rfl, rfl⟩
/-- At a place of the source: the slice behind the white space. -/
theorem slice_to (b p m C k : Nat) (hk : k ≤ C) : ∃ A : Addr, (if C = k then some (⟨b, p, none⟩ : Addr) else some ⟨b, p + k, none⟩) = some A ∧ (k < C → A = ⟨b, p + k, none⟩) := by
  by_cases h : C = k
  · exact ⟨⟨b, p, none⟩, by rw [if_pos h], fun h2 => by omega⟩
  · exact ⟨⟨b, p + k, none⟩, by rw [if_neg h], fun _ => rfl⟩

set_option maxRecDepth 100000 in
set_option maxHeartbeats 4000000 in
theorem skip_one (b p m C c0 : Nat) (w : World) (A : Addr) (hA : (if C = 1 then some (⟨b, p, none⟩ : Addr) else some ⟨b, p + 1, none⟩) = some A) (hm : 0 < m) (hmC : m ≤ C) (hC : (C : Int) ≤ 9223372036854775807) (hc : w.cell? ⟨b, p, none⟩ = some (.int .u8 c0)) (hb : c0 = 9 ∨ c0 = 10 ∨ c0 = 12 ∨ c0 = 32) :
    Calls Tryd.prog 92 #[.slice (some ⟨b, p, none⟩) m C] w fun e w' => e = .returned (.slice (some A) (m - 1) (C - 1)) ∧ w = w' := by
  have d1 : ((m : Int) == 0) = false := by rw [beq_eq_false_iff_ne]; omega
  have d2 : (0 : Int) < m := by omega
  have d3 : (1 : Int) ≤ m := by omega
  have d4 : (1 : Int) ≤ C := by omega
  rcases hb with rfl | rfl | rfl | rfl
  all_goals
    go_enter Tryd.func92, Tryd.ntmps92
    go_wp2_with fail
    go_ret
    exact ⟨rfl, rfl⟩

set_option maxRecDepth 100000 in
set_option maxHeartbeats 4000000 in
theorem skip_two (b p m C : Nat) (w : World) (A : Addr) (hA : (if C = 2 then some (⟨b, p, none⟩ : Addr) else some ⟨b, p + 2, none⟩) = some A) (hm : 1 < m) (hmC : m ≤ C) (hC : (C : Int) ≤ 9223372036854775807) (hc : w.cell? ⟨b, p, none⟩ = some (.int .u8 13)) (hc1 : w.cell? ⟨b, p + 1, none⟩ = some (.int .u8 10)) :
    Calls Tryd.prog 92 #[.slice (some ⟨b, p, none⟩) m C] w fun e w' => e = .returned (.slice (some A) (m - 2) (C - 2)) ∧ w = w' := by
  have d1 : ((m : Int) == 0) = false := by rw [beq_eq_false_iff_ne]; omega
  have d2 : (1 : Int) < m := by omega
  have d3 : (2 : Int) ≤ m := by omega
  have d4 : (2 : Int) ≤ C := by omega
  go_enter Tryd.func92, Tryd.ntmps92
  go_wp2_with fail
  go_ret
  exact ⟨rfl, rfl⟩
set_option maxRecDepth 100000 in
set_option maxHeartbeats 4000000 in
theorem skip_cr (b p m C : Nat) (w : World) (A : Addr) (hA : (if C = 1 then some (⟨b, p, none⟩ : Addr) else some ⟨b, p + 1, none⟩) = some A) (hm : 0 < m) (hmC : m ≤ C) (hC : (C : Int) ≤ 9223372036854775807) (hc : w.cell? ⟨b, p, none⟩ = some (.int .u8 13)) (hc1 : 1 < m → ∃ c1 : Nat, c1 ≠ 10 ∧ w.cell? ⟨b, p + 1, none⟩ = some (.int .u8 c1)) :
    Calls Tryd.prog 92 #[.slice (some ⟨b, p, none⟩) m C] w fun e w' => e = .returned (.slice (some A) (m - 1) (C - 1)) ∧ w = w' := by
  have d1 : ((m : Int) == 0) = false := by rw [beq_eq_false_iff_ne]; omega
  have d2 : (0 : Int) < m := by omega
  have d3 : (1 : Int) ≤ m := by omega
  have d4 : (1 : Int) ≤ C := by omega
  by_cases h1 : 1 < m
  · obtain ⟨c1, hc1a, hc1b⟩ := hc1 h1
    have q1 : ((c1 : Int) == 10) = false := by rw [beq_eq_false_iff_ne]; omega
    have q2 : decide ((2 : Int) ≤ m) = true := by simp; omega
    have q3 : (1 : Int) < m := by omega
    clear hc1 h1 hc1a
    go_enter Tryd.func92, Tryd.ntmps92
    go_wp2_with fail
    go_ret
    have hA9 : A = ⟨b, p + 1, none⟩ := by
      rw [if_neg (by omega)] at hA
      exact (Option.some.inj hA).symm
    rw [hA9]
    exact ⟨rfl, rfl⟩
  · have q2 : decide ((2 : Int) ≤ m) = false := by simp; omega
    clear hc1 h1
    go_enter Tryd.func92, Tryd.ntmps92
    go_wp2_with fail
    go_ret
    exact ⟨rfl, rfl⟩
set_option maxRecDepth 100000 in
set_option maxHeartbeats 4000000 in
theorem skip_other (b p m C c0 : Nat) (w : World) (hm : 0 < m) (hmC : m ≤ C) (hC : (C : Int) ≤ 9223372036854775807) (hc : w.cell? ⟨b, p, none⟩ = some (.int .u8 c0)) (hb : c0 ≠ 9 ∧ c0 ≠ 10 ∧ c0 ≠ 12 ∧ c0 ≠ 32 ∧ c0 ≠ 13) :
    Calls Tryd.prog 92 #[.slice (some ⟨b, p, none⟩) m C] w fun e w' => e = .returned (.slice (some ⟨b, p, none⟩) m C) ∧ w = w' := by
  have d1 : ((m : Int) == 0) = false := by rw [beq_eq_false_iff_ne]; omega
  have d2 : (0 : Int) < m := by omega
  have q1 : ((c0 : Int) == 9) = false := by rw [beq_eq_false_iff_ne]; omega
  have q2 : ((c0 : Int) == 10) = false := by rw [beq_eq_false_iff_ne]; omega
  have q3 : ((c0 : Int) == 12) = false := by rw [beq_eq_false_iff_ne]; omega
  have q4 : ((c0 : Int) == 32) = false := by rw [beq_eq_false_iff_ne]; omega
  have q5 : ((c0 : Int) == 13) = false := by rw [beq_eq_false_iff_ne]; omega
  clear hb
  go_enter Tryd.func92, Tryd.ntmps92
  go_wp2_with fail
  go_ret
  exact ⟨rfl, rfl⟩

/-- At a place of the source: behind the white space. -/
theorem skip_any (b N c p : Nat) (v : Value) (l : Bytes) (hv : SrcV b N c p v) (hl : l.length = N - p) (hpN : p ≤ N) (hNc : N ≤ c) (hc : (c : Int) ≤ 9223372036854775807) :
    ∃ v', SrcV b N c (p + blankSkip l) v' ∧ ∀ w : World, (∀ i, i < l.length → w.cell? ⟨b, p + i, none⟩ = some (.int .u8 (at0 l i : Nat))) →
    Calls Tryd.prog 92 #[v] w fun e w' => e = .returned v' ∧ w' = w := by
  rcases Nat.lt_or_ge p N with hlt | hge
  · rw [hv.at hlt]
    have hne : l ≠ [] := by intro e; rw [e] at hl; simp at hl; omega
    by_cases c9 : at0 l 0 = 9 ∨ at0 l 0 = 10 ∨ at0 l 0 = 12 ∨ at0 l 0 = 32
    · have e : blankSkip l = 1 := by
        unfold blankSkip
        rw [if_pos ⟨hne, by unfold isBlankB; rcases c9 with h | h | h | h <;> rw [h] <;> rfl⟩, if_neg (by omega)]
      rw [e]
      obtain ⟨A, hA, hA2⟩ := slice_to b p (N - p) (c - p) 1 (by omega)
      refine ⟨_, SrcV.mk (m := N - p - 1) (C := c - p - 1) (by omega) (fun h => ⟨hA2 (by omega), by omega⟩), fun w hB => ?_⟩
      have h0 := hB 0 (by omega)
      rw [Nat.add_zero] at h0
      exact (skip_one b p (N - p) (c - p) _ w A hA (by omega) (by omega) (by omega) h0 c9).mono fun _ _ h => ⟨h.1, h.2.symm⟩
    · by_cases c13 : at0 l 0 = 13
      · by_cases c2 : 1 < l.length ∧ at0 l 1 = 10
        · have e : blankSkip l = 2 := by
            unfold blankSkip
            rw [if_pos ⟨hne, by unfold isBlankB; rw [c13]; rfl⟩, if_pos ⟨c13, c2⟩]
          rw [e]
          obtain ⟨A, hA, hA2⟩ := slice_to b p (N - p) (c - p) 2 (by omega)
          refine ⟨_, SrcV.mk (m := N - p - 2) (C := c - p - 2) (by omega) (fun h => ⟨hA2 (by omega), by omega⟩), fun w hB => ?_⟩
          have h0 := hB 0 (by omega)
          rw [Nat.add_zero, c13] at h0
          have h1 := hB 1 c2.1
          rw [c2.2] at h1
          exact (skip_two b p (N - p) (c - p) w A hA (by omega) (by omega) (by omega) h0 h1).mono fun _ _ h => ⟨h.1, h.2.symm⟩
        · have e : blankSkip l = 1 := by
            unfold blankSkip
            rw [if_pos ⟨hne, by unfold isBlankB; rw [c13]; rfl⟩, if_neg (fun h => c2 h.2)]
          rw [e]
          obtain ⟨A, hA, hA2⟩ := slice_to b p (N - p) (c - p) 1 (by omega)
          refine ⟨_, SrcV.mk (m := N - p - 1) (C := c - p - 1) (by omega) (fun h => ⟨hA2 (by omega), by omega⟩), fun w hB => ?_⟩
          have h0 := hB 0 (by omega)
          rw [Nat.add_zero, c13] at h0
          exact (skip_cr b p (N - p) (c - p) w A hA (by omega) (by omega) (by omega) h0 (fun h => ⟨at0 l 1, fun h2 => c2 ⟨by omega, h2⟩, hB 1 (by omega)⟩)).mono fun _ _ h => ⟨h.1, h.2.symm⟩
      · have e : blankSkip l = 0 := by
          unfold blankSkip
          rw [if_neg]
          rintro ⟨_, h⟩
          unfold isBlankB at h
          simp only [Bool.or_eq_true, beq_iff_eq] at h
          omega
        rw [e]
        refine ⟨_, SrcV.mk (m := N - p) (C := c - p) (by omega) (fun h => ⟨rfl, by omega⟩), fun w hB => ?_⟩
        have h0 := hB 0 (by omega)
        rw [Nat.add_zero] at h0
        exact (skip_other b p (N - p) (c - p) _ w (by omega) (by omega) (by omega) h0 (by omega)).mono fun _ _ h => ⟨h.1, h.2.symm⟩
  · obtain ⟨a, C, rfl, _⟩ := hv
    have e0 : N - p = 0 := by omega
    have e1 : l = [] := List.eq_nil_of_length_eq_zero (by omega)
    rw [e0]
    have e2 : blankSkip l = 0 := by rw [e1]; rfl
    rw [e2]
    exact ⟨_, SrcV.mk (a := a) (m := 0) (C := C) (by omega) (fun h => by omega), fun w _ => (skip_none a C w).mono fun _ _ h => ⟨h.1, h.2.symm⟩⟩
end Go.Proofs.YtigobehhmodoiaaDoor
