/- unicode.SimpleFold at ASCII characters and at the long s. -/
import Derived.Test.YtolamblmfejhoaaDoorCom
import Derived.Deep.LoopGhost
namespace Go.Proofs.YtolamblmfejhoaaDoor
open Go.RowKit
set_option linter.unusedVariables false
set_option linter.unusedSimpArgs false

/-- What unicode.asciiFold holds. -/
def asciiN (r : Nat) : Nat := if 65 ≤ r ∧ r ≤ 90 then r + 32 else if r = 107 then 8490 else if r = 115 then 383 else if 97 ≤ r ∧ r ≤ 122 then r - 32 else r
/-- The cells of unicode.caseOrbit that the search of the long s meets. -/
def orbN (i : Nat) : Nat := match i with | 5 => 197 | 8 => 304 | 9 => 305 | 10 => 383 | 11 => 452 | 23 => 837 | 47 => 966 | _ => 0
def orbSet : List Nat := [5, 8, 9, 10, 11, 23, 47]
def OrbAt (R oR cap : Nat) (w : World) : Prop := w.cell? ⟨1, 0, none⟩ = some (.slice (some ⟨R, oR, none⟩) 94 cap) ∧ (∀ i ∈ orbSet, w.cell? ⟨R, oR + i * 2, none⟩ = some (.int .u16 (orbN i))) ∧ w.cell? ⟨R, oR + 10 * 2 + 1, none⟩ = some (.int .u16 83)
def FoldTab (w : World) : Prop := (∀ r, r < 128 → w.cell? ⟨0, r, none⟩ = some (.int .u16 (asciiN r))) ∧ ∃ R oR cap, OrbAt R oR cap w
theorem FoldTab.keep {B : Nat} {w w' : World} (h : FoldTab w) (k : Below B w w') (hB : w.heap.size ≤ B) : FoldTab w' := by
  obtain ⟨h1, R, oR, cap, h2, h3, h4⟩ := h
  refine ⟨fun r hr => ?_, R, oR, cap, ?_, fun i hi => ?_, ?_⟩
  · exact (k.cell (p := ⟨_, r, none⟩) (Nat.lt_of_lt_of_le (World.block_lt_of_cell? _ _ (h1 r hr)) hB)).trans (h1 r hr)
  · exact (k.cell (p := ⟨_, 0, none⟩) (Nat.lt_of_lt_of_le (World.block_lt_of_cell? _ _ h2) hB)).trans h2
  · exact (k.cell (p := ⟨R, _, none⟩) (Nat.lt_of_lt_of_le (World.block_lt_of_cell? _ _ (h3 i hi)) hB)).trans (h3 i hi)
  · exact (k.cell (p := ⟨R, _, none⟩) (Nat.lt_of_lt_of_le (World.block_lt_of_cell? _ _ h4) hB)).trans h4

set_option maxRecDepth 100000 in
theorem fold_ascii_any (r : Nat) (hr : r < 128) (w : World) (h : FoldTab w) : Calls Tryd.prog 62 #[.int .i32 r] w fun e w' => e = .returned (.int .i32 (asciiN r)) ∧ w = w' := by
  have hc := h.1 r hr
  have hw : asciiN r ≤ 8490 := by unfold asciiN; split <;> (try split) <;> (try split) <;> (try split) <;> omega
  obtain ⟨x, hx⟩ : ∃ x, asciiN r = x := ⟨_, rfl⟩
  rw [hx] at hc hw ⊢
  clear h hx
  go_enter Tryd.func62, Tryd.ntmps62
  go_wp2
  go_ret
  exact ⟨by simp, rfl⟩

/-- The steps of the search. -/
def stepLo (g : Nat) : Nat := match g with | 7 => 0 | 6 => 0 | 5 => 0 | 4 => 0 | 3 => 6 | 2 => 9 | 1 => 9 | _ => 10
def stepHi (g : Nat) : Nat := match g with | 7 => 94 | 6 => 47 | 5 => 23 | 4 => 11 | 3 => 11 | 2 => 11 | 1 => 10 | _ => 10
def stepMid (g : Nat) : Nat := match g with | 7 => 47 | 6 => 23 | 5 => 11 | 4 => 5 | 3 => 8 | 2 => 10 | _ => 9
theorem step_ok (g : Nat) (h0 : 0 < g) (h : g ≤ 7) : stepLo g < stepHi g ∧ stepHi g ≤ 94 ∧ (stepLo g + stepHi g) / 2 = stepMid g ∧ stepMid g ∈ orbSet ∧ orbN (stepMid g) < 1000 ∧
    ((orbN (stepMid g) < 383 ∧ stepLo (g - 1) = stepMid g + 1 ∧ stepHi (g - 1) = stepHi g) ∨ (383 ≤ orbN (stepMid g) ∧ stepHi (g - 1) = stepMid g ∧ stepLo (g - 1) = stepLo g)) := by
  rcases (by omega : g = 7 ∨ g = 6 ∨ g = 5 ∨ g = 4 ∨ g = 3 ∨ g = 2 ∨ g = 1) with rfl | rfl | rfl | rfl | rfl | rfl | rfl <;> decide
set_option maxRecDepth 100000 in
theorem fold_383 (w : World) (h : FoldTab w) : Calls Tryd.prog 62 #[.int .i32 383] w fun e w' => e = .returned (.int .i32 83) ∧ w = w' := by
  obtain ⟨-, R, oR, cap, h0, hc, hv⟩ := h
  go_enter Tryd.func62, Tryd.ntmps62
  go_wp2
  go_loopg [3, 4] 7 (fun g s3 s4 wx => w = wx ∧ g ≤ 7 ∧ s3 = .int .i64 (stepLo g) ∧ s4 = .int .i64 (stepHi g))
  case atStart => exact ⟨rfl, by omega, rfl, rfl⟩
  case round =>
    obtain ⟨rfl, hg, rfl, rfl⟩ := hrel
    by_cases hz : gk = 0
    · subst hz
      have hk : w.cell? ⟨R, oR + stepLo 0 * 2, none⟩ = some (.int .u16 383) := hc 10 (by decide)
      have hv2 : w.cell? ⟨R, oR + stepLo 0 * 2 + 1, none⟩ = some (.int .u16 83) := hv
      have hlt : ¬ ((stepLo 0 : Int) < (stepHi 0 : Int)) := by decide
      have hl94 : (stepLo 0 : Int) < 94 := by decide
      obtain ⟨lo, hlo⟩ : ∃ lo, stepLo 0 = lo := ⟨_, rfl⟩
      obtain ⟨hi, hhi⟩ : ∃ hi, stepHi 0 = hi := ⟨_, rfl⟩
      rw [hlo] at hk hv2 hlt hl94 ⊢
      rw [hhi] at hlt ⊢
      clear hlo hhi hc hv
      go_wp2
      go_ret
      exact ⟨rfl, rfl⟩
    · obtain ⟨g', rfl⟩ : ∃ g', gk = g' + 1 := ⟨gk - 1, by omega⟩
      obtain ⟨s1, s2, s3, s4, s5, s6⟩ := step_ok (g' + 1) (by omega) hg
      have hk := hc _ s4
      have HC := Lib.hid hc
      rw [Nat.add_sub_cancel] at s6
      obtain ⟨lo, hlo⟩ : ∃ lo, stepLo (g' + 1) = lo := ⟨_, rfl⟩
      obtain ⟨hi, hhi⟩ : ∃ hi, stepHi (g' + 1) = hi := ⟨_, rfl⟩
      obtain ⟨m, hm⟩ : ∃ m, stepMid (g' + 1) = m := ⟨_, rfl⟩
      rw [hlo, hhi] at s1 s3 s6
      rw [hhi] at s2
      rw [hm] at s3 s4 s5 s6 hk
      rw [hlo, hhi]
      obtain ⟨x, hx⟩ : ∃ x, orbN m = x := ⟨_, rfl⟩
      rw [hx] at hk s5 s6
      have hmz : ((lo : Int) + (hi : Int)) / 2 = (m : Int) := by omega
      have hlt : (lo : Int) < (hi : Int) := by omega
      have hmr : lo ≤ m ∧ m < hi := by omega
      clear hc s4 hlo hhi hm hx hz
      rcases s6 with ⟨q1, q2, q3⟩ | ⟨q1, q2, q3⟩
      · have hq : (x : Int) < 383 := by omega
        have HQ := Lib.hid (And.intro q2 q3)
        clear q2 q3
        go_wp2
        go_roundg g'
        case measure => omega
        case rel => exact ⟨rfl, by omega, by rw [HQ.out.1]; simp, by rw [HQ.out.2]⟩
      · have hq : ¬ ((x : Int) < 383) := by omega
        have HQ := Lib.hid (And.intro q2 q3)
        clear q2 q3
        go_wp2
        go_roundg g'
        case measure => omega
        case rel => exact ⟨rfl, by omega, by rw [HQ.out.2], by rw [HQ.out.1]⟩
end Go.Proofs.YtolamblmfejhoaaDoor
