/- The package's nextJSCtx at ASCII bytes. -/
import Derived.Test.YtolamblmfejhoaaDoorNxtD
namespace Go.Proofs.YtolamblmfejhoaaDoor
open Go.RowKit
set_option linter.unusedVariables false
set_option linter.unusedSimpArgs false

set_option maxRecDepth 100000 in
set_option maxHeartbeats 4000000 in
theorem nextJS_any (b cap before : Nat) (S : ByteArray) (hbef : before < 256) (w : World) (hB : By b S w) (hA : Ascii S) (hz : (S.size : Int) ≤ 17179869184) (hcap : S.size ≤ cap) :
    Calls Tryd.prog 30 #[.slice (some ⟨b, 0, none⟩) S.size cap, .int .u8 before] w fun e w' => e = .returned (.int .u8 (slashN S.data.toList before)) ∧ Below w.heap.size w w' := by
  have hl : S.data.toList.length = S.size := by simp
  have htr := trimRight_any b S.size cap S w hB hA (Nat.le_refl _) hz hcap
  obtain ⟨n, hn⟩ : ∃ n, back blankJ S.data.toList S.size = n := ⟨_, rfl⟩
  have hns : n ≤ S.size := hn ▸ back_le _ _ _
  have hdef : slashN S.data.toList before = slashN S.data.toList before := rfl
  conv at hdef => rhs; unfold slashN
  simp only [hl, hn] at hdef
  rw [hdef]
  rw [hn] at htr
  have HTR := Lib.hid htr
  have HB := Lib.hid hB
  have HA := Lib.hid hA
  clear htr hB hA hdef hn
  by_cases h0 : n = 0
  · subst h0
    rw [if_pos rfl]
    go_enter Tryd.func30, Tryd.ntmps30
    go_wp2_with (go_at_call 40; refine HTR.out.mono ?_; rintro e w1 ⟨rfl, hb1⟩)
    go_ret
    exact ⟨rfl, hb1⟩
  · rw [if_neg h0]
    obtain ⟨m, rfl⟩ : ∃ m, n = m + 1 := ⟨n - 1, by omega⟩
    have hm : m < S.size := by omega
    rw [Nat.add_sub_cancel]
    obtain ⟨c, hc⟩ : ∃ c, at0 S.data.toList m = c := ⟨_, rfl⟩
    have hcS : S[m].toNat = c := by rw [← at0_get S m hm]; exact hc
    have hc128 : c < 128 := by rw [← hcS]; exact HA.out m hm
    rw [hc]
    have HCL : Hid (∀ w1, Below w.heap.size w w1 → w1.cell? ⟨b, m, none⟩ = some (.int .u8 (c : Int))) := Lib.hid fun w1 h => by
      have := (HB.out.below h).2 m hm
      rw [hcS] at this; exact this
    have HCK : Hid (∀ w1, Below w.heap.size w w1 → ∀ k (hk : k < S.size), w1.cell? ⟨b, k, none⟩ = some (.int .u8 (at0 S.data.toList k : Int))) := Lib.hid fun w1 h k hk => by
      have := (HB.out.below h).2 k hk
      rw [← at0_get S k hk] at this; exact this
    have HC := Lib.hid hc
    clear hc hcS h0
    by_cases hpm : c = 43 ∨ c = 45
    · rw [if_pos hpm]
      obtain ⟨k0, hk0⟩ : ∃ k0, back (· == c) S.data.toList m = k0 := ⟨_, rfl⟩
      have hk0m : k0 ≤ m := hk0 ▸ back_le _ _ _
      rw [hk0]
      have HK0 := Lib.hid hk0
      clear hk0
      have hpar : (m + 1 - k0) % 2 = 0 ∨ (m + 1 - k0) % 2 = 1 := by omega
      obtain ⟨R, hR⟩ : ∃ R, (if (m + 1 - k0) % 2 = 1 then 0 else 1) = R := ⟨_, rfl⟩
      rw [hR]
      have HR := Lib.hid hR
      clear hR
      obtain ⟨c0, hc0⟩ : ∃ c0, c = c0 := ⟨_, rfl⟩
      rw [show (fun x : Nat => x == c) = (fun x => x == c0) from by rw [hc0]] at HK0
      rcases hpm with rfl | rfl
      all_goals
        go_enter Tryd.func30, Tryd.ntmps30
        go_wp2_with (go_at_call 40; refine HTR.out.mono ?_; rintro e w1 ⟨rfl, hb1⟩; have hcl := HCL.out w1 hb1)
        go_loopg [7] m (fun g s7 wx => w1 = wx ∧ s7 = .int .i64 g ∧ g ≤ m ∧ Hid (back (fun x => x == c0) S.data.toList g = k0))
        case atStart => exact ⟨rfl, by first | rfl | simp, Nat.le_refl _, HK0⟩
        case round =>
          obtain ⟨rfl, rfl, hg, HI⟩ := hrel
          cases gk with
          | zero =>
            have hk : k0 = 0 := HI.out.symm
            subst hk
            have hbt := and1 (m + 1) (by omega)
            have ec : ((m + 1 : Nat) : Int) = (m : Int) + 1 := by omega
            rw [ec] at hbt
            rcases hpar with hp | hp
            · have hp2 : (m + 1) % 2 = 0 := by omega
              rw [hp2] at hbt
              have hR0 : R = 1 := by rw [← HR.out, if_neg (by omega)]
              go_wp2
              go_ret
              exact ⟨by rw [hR0]; rfl, hb1⟩
            · have hp2 : (m + 1) % 2 = 1 := by omega
              rw [hp2] at hbt
              have hR0 : R = 0 := by rw [← HR.out, if_pos (by omega)]
              go_wp2
              go_ret
              exact ⟨by rw [hR0]; rfl, hb1⟩
          | succ g =>
            have hcg := HCK.out w1 hb1 g (by omega)
            obtain ⟨x, hx⟩ : ∃ x, at0 S.data.toList g = x := ⟨_, rfl⟩
            rw [hx] at hcg
            by_cases hxc : x = c0
            · have h2 := HI.out
              rw [back_step _ _ g (by simp [hx, hxc])] at h2
              have HI2 := Lib.hid h2
              have hxz : ((x : Int) == (c0 : Int)) = true := beq_iff_eq.2 (by omega)
              clear h2 HI hx
              subst hxc
              go_wp2
              go_roundg g
              case measure => omega
              case rel => exact ⟨rfl, rfl, by omega, HI2⟩
            · have hk : k0 = g + 1 := by rw [← HI.out]; exact back_here _ _ (g + 1) (fun _ => by simp [hx, hxc])
              have hxz : ((x : Int) == (c0 : Int)) = false := beq_eq_false_iff_ne.2 (by omega)
              clear HI hx HK0
              subst hk
              have hbt := and1 (m - g) (by omega)
              have ec : ((m - g : Nat) : Int) = (m : Int) - g := by omega
              have ec2 : (m : Int) + 1 - ((g : Int) + 1) = (m : Int) - g := by omega
              rw [ec] at hbt
              have hbt2 := hbt
              rw [← ec2] at hbt2
              rcases hpar with hp | hp
              · have hp2 : (m - g) % 2 = 0 := by omega
                rw [hp2] at hbt hbt2
                have hR0 : R = 1 := by rw [← HR.out, if_neg (by omega)]
                go_wp2
                go_ret
                exact ⟨by rw [hR0]; rfl, hb1⟩
              · have hp2 : (m - g) % 2 = 1 := by omega
                rw [hp2] at hbt hbt2
                have hR0 : R = 0 := by rw [← HR.out, if_pos (by omega)]
                go_wp2
                go_ret
                exact ⟨by rw [hR0]; rfl, hb1⟩
    · rw [if_neg hpm]
      by_cases h46 : c = 46
      · rw [if_pos h46]
        subst h46
        clear hpm
        by_cases hm0 : m = 0
        · subst hm0
          rw [if_neg (fun h => h.1 rfl)]
          go_enter Tryd.func30, Tryd.ntmps30
          go_wp2_with (go_at_call 40; refine HTR.out.mono ?_; rintro e w1 ⟨rfl, hb1⟩; have hcl := HCL.out w1 hb1)
          go_ret
          exact ⟨rfl, hb1⟩
        · obtain ⟨p, rfl⟩ : ∃ p, m = p + 1 := ⟨m - 1, by omega⟩
          rw [show p + 1 + 1 - 2 = p from rfl]
          obtain ⟨d, hd⟩ : ∃ d, at0 S.data.toList p = d := ⟨_, rfl⟩
          rw [hd]
          have HD := Lib.hid hd
          clear hd
          by_cases h1 : 48 ≤ d
          · have h1z : (48 : Int) ≤ (d : Int) := by omega
            by_cases h2 : d ≤ 57
            · have h2z : (d : Int) ≤ 57 := by omega
              rw [if_pos ⟨by omega, h1, h2⟩]
              go_enter Tryd.func30, Tryd.ntmps30
              go_wp2_with (go_at_call 40; refine HTR.out.mono ?_; rintro e w1 ⟨rfl, hb1⟩; have hcl := HCL.out w1 hb1; have hdl := HCK.out w1 hb1 p (by omega); rw [HD.out] at hdl)
              go_ret
              exact ⟨rfl, hb1⟩
            · have h2z : ¬ ((d : Int) ≤ 57) := by omega
              rw [if_neg (fun h => h2 h.2.2)]
              go_enter Tryd.func30, Tryd.ntmps30
              go_wp2_with (go_at_call 40; refine HTR.out.mono ?_; rintro e w1 ⟨rfl, hb1⟩; have hcl := HCL.out w1 hb1; have hdl := HCK.out w1 hb1 p (by omega); rw [HD.out] at hdl)
              go_ret
              exact ⟨rfl, hb1⟩
          · have h1z : ¬ ((48 : Int) ≤ (d : Int)) := by omega
            rw [if_neg (fun h => h1 h.2.1)]
            go_enter Tryd.func30, Tryd.ntmps30
            go_wp2_with (go_at_call 40; refine HTR.out.mono ?_; rintro e w1 ⟨rfl, hb1⟩; have hcl := HCL.out w1 hb1; have hdl := HCK.out w1 hb1 p (by omega); rw [HD.out] at hdl)
            go_ret
            exact ⟨rfl, hb1⟩
      · rw [if_neg h46]
        by_cases hzs : hasB zeroSet c = true
        · rw [if_pos hzs]
          have hcs : c = 44 ∨ c = 60 ∨ c = 62 ∨ c = 61 ∨ c = 42 ∨ c = 37 ∨ c = 38 ∨ c = 124 ∨ c = 94 ∨ c = 63 ∨ c = 33 ∨ c = 126 ∨ c = 40 ∨ c = 91 ∨ c = 58 ∨ c = 59 ∨ c = 123 ∨ c = 125 := by
            unfold hasB zeroSet at hzs
            simp at hzs
            omega
          clear hzs hpm h46
          rcases hcs with rfl | rfl | rfl | rfl | rfl | rfl | rfl | rfl | rfl | rfl | rfl | rfl | rfl | rfl | rfl | rfl | rfl | rfl
          all_goals
            go_enter Tryd.func30, Tryd.ntmps30
            go_wp2_with (go_at_call 40; refine HTR.out.mono ?_; rintro e w1 ⟨rfl, hb1⟩; have hcl := HCL.out w1 hb1)
            go_ret
            exact ⟨rfl, hb1⟩
        · rw [if_neg hzs]
          exact nextJS_def b cap before m c S w hz hcap hm HTR.out HB.out HA.out HC.out hc128 hpm h46 hzs
end Go.Proofs.YtolamblmfejhoaaDoor
