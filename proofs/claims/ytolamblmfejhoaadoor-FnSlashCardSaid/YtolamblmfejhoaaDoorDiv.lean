/- The reference's Divides. -/
import Derived.Test.YtolamblmfejhoaaDoorDivA
import Derived.Test.YtolamblmfejhoaaDoorHtmlA
import Derived.Deep.LoopGhost
import Derived.Deep.QuietTactic
import Derived.BigQuiet
import Derived.Deep.Cut
import Derived.Deep.CutBlock
import Derived.Deep.DeepCutAuto
namespace Go.Proofs.YtolamblmfejhoaaDoor
open Go.RowKit
set_option linter.unusedVariables false
set_option linter.unusedSimpArgs false

/-- The reference's answer, its three places named. -/
def divE (s : Bytes) (e f b : Nat) : Nat × Bool :=
  if e = 0 ∨ (f < e ∧ 0 < b ∧ at0 s (b - 1) = 46) ∨ yieldW = part s f e ∨ awaitW = part s f e then (0, false)
  else if f < e ∧ (f = 0 ∨ (hasB memSet (at0 s (f - 1)) = false ∧ at0 s (f - 1) < 128)) then (if isKey (part s f e) = true then 0 else 1, true)
  else if f < e then (0, false)
  else if at0 s (e - 1) = 93 then (1, true)
  else if hasB opSet (at0 s (e - 1)) = true then (0, true)
  else if at0 s (e - 1) = 43 ∨ at0 s (e - 1) = 45 then
    (if e - back (· == at0 s (e - 1)) s e = 1 then (0, true) else (1, decide (e - back (· == at0 s (e - 1)) s e = 2)))
  else (0, false)
theorem div_eq (s : Bytes) : dividesN s = divE s (back blankJ s s.length) (back isAlnumB s (back blankJ s s.length)) (back blankJ s (back isAlnumB s (back blankJ s s.length))) := rfl

set_option maxRecDepth 100000 in
set_option maxHeartbeats 800000 in
theorem divides_any (s : ByteArray) (w : World) (hz : (s.size : Int) ≤ 17179869184) :
    Calls Tryd.prog 14 #[.string s] w fun e w' => e = .returned (.tuple #[.int .i64 (dividesN s.data.toList).1, .bool (dividesN s.data.toList).2]) ∧ Below w.heap.size w w' := by
  have hl : s.data.toList.length = s.size := by simp
  have hdiv := div_eq s.data.toList
  rw [hl] at hdiv
  obtain ⟨e, he⟩ : ∃ e, back blankJ s.data.toList s.size = e := ⟨_, rfl⟩
  have hes : e ≤ s.size := he ▸ back_le _ _ _
  rw [he] at hdiv
  obtain ⟨f, hf⟩ : ∃ f, back isAlnumB s.data.toList e = f := ⟨_, rfl⟩
  have hfe : f ≤ e := hf ▸ back_le _ _ _
  rw [hf] at hdiv
  obtain ⟨b, hb⟩ : ∃ b, back blankJ s.data.toList f = b := ⟨_, rfl⟩
  have hbf : b ≤ f := hb ▸ back_le _ _ _
  rw [hb] at hdiv
  rw [hdiv]
  obtain ⟨rd, rb, hR⟩ : ∃ rd rb, divE s.data.toList e f b = (rd, rb) := ⟨_, _, rfl⟩
  rw [hR]
  have HR := Lib.hid hR
  have He := Lib.hid he
  have Hf := Lib.hid hf
  have Hb := Lib.hid hb
  clear hdiv he hf hb hR
  go_enter Tryd.func14, Tryd.ntmps14
  go_upto_block 0 with fail
  go_cut [4] from 10 to 20 (fun sx wx => w = wx ∧ sx = .int .i64 e)
  case first =>
    go_wp2_with fail
    go_loopg [4] s.size (fun g sx wx => w = wx ∧ sx = .int .i64 g ∧ g ≤ s.size ∧ Hid (back blankJ s.data.toList g = e))
    case atStart => exact ⟨rfl, rfl, Nat.le_refl _, He⟩
    case round =>
      obtain ⟨rfl, rfl, hg, HI⟩ := hrel
      cases gk with
      | zero =>
        have hk : e = 0 := HI.out.symm
        go_wp2_with fail
        go_meet
        exact ⟨rfl, by rw [hk]⟩
      | succ g =>
        have hgs : (g : Int) < (s.size : Int) := by omega
        have hgn : g < s.size := by omega
        obtain ⟨x, hx⟩ : ∃ x : UInt8, s[g]'hgn = x := ⟨_, rfl⟩
        have hat : at0 s.data.toList g = x.toNat := by rw [at0_get s g hgn, hx]
        have HS := Lib.hid (blankJS_any x.toNat x.toNat_lt w)
        obtain ⟨bl, hbl⟩ : ∃ bl, blankJ x.toNat = bl := ⟨_, rfl⟩
        rw [hbl] at HS
        have h2 := HI.out
        cases bl with
        | true =>
          rw [back_step _ _ g (by rw [hat]; exact hbl)] at h2
          have HI2 := Lib.hid h2
          clear h2 HI hat hbl
          go_wp2_with (go_at_call 22; refine HS.out.mono ?_; rintro e1 w1 ⟨rfl, rfl⟩)
          go_roundg g
          case measure => omega
          case rel => exact ⟨rfl, rfl, by omega, HI2⟩
        | false =>
          have hk : e = g + 1 := by rw [← h2]; exact back_here _ _ (g + 1) (fun _ => by rw [Nat.add_sub_cancel, hat]; exact hbl)
          clear h2 HI hat hbl
          go_wp2_with (go_at_call 22; refine HS.out.mono ?_; rintro e1 w1 ⟨rfl, rfl⟩)
          go_meet
          exact ⟨rfl, by rw [hk]; rfl⟩
  case rest =>
    obtain ⟨rfl, rfl⟩ := hcut
    go_upto_block 2 with fail
    go_cut [5] from 22 to 32 (fun sx wx => w = wx ∧ sx = .int .i64 f)
    case first =>
      go_wp2_with fail
      go_loopg [5] e (fun g sx wx => w = wx ∧ sx = .int .i64 g ∧ g ≤ e ∧ Hid (back isAlnumB s.data.toList g = f))
      case atStart => exact ⟨rfl, rfl, Nat.le_refl _, Hf⟩
      case round =>
        obtain ⟨rfl, rfl, hg, HI⟩ := hrel
        cases gk with
        | zero =>
          have hk : f = 0 := HI.out.symm
          go_wp2_with fail
          go_meet
          exact ⟨rfl, by rw [hk]⟩
        | succ g =>
          have hgs : (g : Int) < (s.size : Int) := by omega
          have hgn : g < s.size := by omega
          obtain ⟨x, hx⟩ : ∃ x : UInt8, s[g]'hgn = x := ⟨_, rfl⟩
          have hat : at0 s.data.toList g = x.toNat := by rw [at0_get s g hgn, hx]
          have HS := Lib.hid (isAlnum_any x.toNat w)
          obtain ⟨bl, hbl⟩ : ∃ bl, isAlnumB x.toNat = bl := ⟨_, rfl⟩
          rw [hbl] at HS
          have h2 := HI.out
          cases bl with
          | true =>
            rw [back_step _ _ g (by rw [hat]; exact hbl)] at h2
            have HI2 := Lib.hid h2
            clear h2 HI hat hbl
            go_wp2_with (go_at_call 23; refine HS.out.mono ?_; rintro e1 w1 ⟨rfl, rfl⟩)
            go_roundg g
            case measure => omega
            case rel => exact ⟨rfl, rfl, by omega, HI2⟩
          | false =>
            have hk : f = g + 1 := by rw [← h2]; exact back_here _ _ (g + 1) (fun _ => by rw [Nat.add_sub_cancel, hat]; exact hbl)
            clear h2 HI hat hbl
            go_wp2_with (go_at_call 23; refine HS.out.mono ?_; rintro e1 w1 ⟨rfl, rfl⟩)
            go_meet
            exact ⟨rfl, by rw [hk]; rfl⟩
    case rest =>
      obtain ⟨rfl, rfl⟩ := hcut
      go_upto_block 4 with fail
      go_cut [6] from 34 to 44 (fun sx wx => w = wx ∧ sx = .int .i64 b)
      case first =>
        go_wp2_with fail
        go_loopg [6] f (fun g sx wx => w = wx ∧ sx = .int .i64 g ∧ g ≤ f ∧ Hid (back blankJ s.data.toList g = b))
        case atStart => exact ⟨rfl, rfl, Nat.le_refl _, Hb⟩
        case round =>
          obtain ⟨rfl, rfl, hg, HI⟩ := hrel
          cases gk with
          | zero =>
            have hk : b = 0 := HI.out.symm
            go_wp2_with fail
            go_meet
            exact ⟨rfl, by rw [hk]⟩
          | succ g =>
            have hgs : (g : Int) < (s.size : Int) := by omega
            have hgn : g < s.size := by omega
            obtain ⟨x, hx⟩ : ∃ x : UInt8, s[g]'hgn = x := ⟨_, rfl⟩
            have hat : at0 s.data.toList g = x.toNat := by rw [at0_get s g hgn, hx]
            have HS := Lib.hid (blankJS_any x.toNat x.toNat_lt w)
            obtain ⟨bl, hbl⟩ : ∃ bl, blankJ x.toNat = bl := ⟨_, rfl⟩
            rw [hbl] at HS
            have h2 := HI.out
            cases bl with
            | true =>
              rw [back_step _ _ g (by rw [hat]; exact hbl)] at h2
              have HI2 := Lib.hid h2
              clear h2 HI hat hbl
              go_wp2_with (go_at_call 22; refine HS.out.mono ?_; rintro e1 w1 ⟨rfl, rfl⟩)
              go_roundg g
              case measure => omega
              case rel => exact ⟨rfl, rfl, by omega, HI2⟩
            | false =>
              have hk : b = g + 1 := by rw [← h2]; exact back_here _ _ (g + 1) (fun _ => by rw [Nat.add_sub_cancel, hat]; exact hbl)
              clear h2 HI hat hbl
              go_wp2_with (go_at_call 22; refine HS.out.mono ?_; rintro e1 w1 ⟨rfl, rfl⟩)
              go_meet
              exact ⟨rfl, by rw [hk]; rfl⟩
      case rest =>
        obtain ⟨rfl, rfl⟩ := hcut
        have hes2 : (e : Int) ≤ s.size := by omega
        have hfe2 : (f : Int) ≤ e := by omega
        have hpt : (s.extract f e).data.toList = part s.data.toList f e := by
          rw [extract_mid]
          unfold part
          rw [List.drop_take]
        obtain ⟨WD, hWD⟩ : ∃ WD, s.extract f e = WD := ⟨_, rfl⟩
        rw [hWD] at hpt
        obtain ⟨pw, hpw⟩ : ∃ pw, part s.data.toList f e = pw := ⟨_, rfl⟩
        rw [hpw] at hpt
        have HIS : Hid (∀ W, W = w.alloc (.cells ([yieldW, awaitW].map (fun l => Value.string ⟨l.toArray⟩)).toArray 9) → Calls Tryd.prog 24 #[.string WD, .slice (some ⟨w.heap.size, 0, none⟩) 2 2] W fun e w' => e = .returned (.bool (yieldW == pw || awaitW == pw)) ∧ W = w') :=
          Lib.hid fun W hW => by
            have := is_any WD [yieldW, awaitW] w.heap.size 2 2 rfl (by decide) W (hW ▸ strs_new w [yieldW, awaitW] 9)
            rw [hpt] at this
            simpa using this
        have HKW := Lib.hid (fun w => keyword_any WD w)
        rw [hpt] at HKW
        have HBO : Hid (∀ o, Below w.heap.size w (w.alloc o)) := Lib.hid fun o => (Below.refl _ _).alloc (Nat.le_refl _) _
        obtain ⟨k0, hk0⟩ : ∃ k0, (yieldW == pw || awaitW == pw) = k0 := ⟨_, rfl⟩
        rw [hk0] at HIS
        obtain ⟨k1, hk1⟩ : ∃ k1, (decide (e = 0) || (decide (f < e) && decide (0 < b) && at0 s.data.toList (b - 1) == 46) || k0) = k1 := ⟨_, rfl⟩
        have HK0 := Lib.hid hk0
        have HK1 := Lib.hid hk1
        have HPW := Lib.hid hpw
        clear hk0 hk1 hpw hpt
        go_upto_region 10 with fail
        go_cut [45] from 46 to 71 (fun s45 wx => Below w.heap.size w wx ∧ s45 = .bool k1)
        case first =>
          by_cases h0 : e = 0
          · have hk : k1 = true := by rw [← HK1.out, h0]; rfl
            obtain rfl : f = 0 := by omega
            obtain rfl : b = 0 := by omega
            subst h0
            go_wp2_with fail
            go_meet
            exact ⟨Below.refl _ _, by rw [hk]⟩
          · have h0z : ((e : Int) == 0) = false := beq_eq_false_iff_ne.2 (by omega)
            have e1 : decide (e = 0) = false := decide_eq_false h0
            by_cases hfl : f < e
            · have hflz : (f : Int) < e := by omega
              by_cases hb0 : 0 < b
              · obtain ⟨bp, rfl⟩ : ∃ bp, b = bp + 1 := ⟨b - 1, by omega⟩
                have hbz : (0 : Int) < ((bp + 1 : Nat) : Int) := by omega
                have hbs : bp < s.size := by omega
                obtain ⟨x, hx⟩ : ∃ x : UInt8, s[bp]'hbs = x := ⟨_, rfl⟩
                have hat : at0 s.data.toList bp = x.toNat := by rw [at0_get s bp hbs, hx]
                have hk := HK1.out
                rw [e1, decide_eq_true hfl, decide_eq_true hb0, Nat.add_sub_cancel, hat] at hk
                by_cases hd : x.toNat = 46
                · have hdz : ((x.toNat : Int) == 46) = true := beq_iff_eq.2 (by omega)
                  have hk2 : k1 = true := by rw [← hk, hd]; rfl
                  clear hk hat
                  go_wp2_with fail
                  go_meet
                  exact ⟨Below.refl _ _, by rw [hk2]⟩
                · have hdz : ((x.toNat : Int) == 46) = false := beq_eq_false_iff_ne.2 (by omega)
                  have hk2 : k1 = k0 := by rw [← hk, beq_eq_false_iff_ne.2 hd]; rfl
                  clear hk hat
                  go_wp2_with (go_at_call 24; refine (HIS.out _ rfl).mono ?_; rintro e2 w2 ⟨rfl, rfl⟩)
                  go_meet
                  exact ⟨HBO.out _, by rw [hk2]⟩
              · obtain rfl : b = 0 := by omega
                have hk2 : k1 = k0 := by rw [← HK1.out, e1, decide_eq_true hfl]; rfl
                go_wp2_with (go_at_call 24; refine (HIS.out _ rfl).mono ?_; rintro e2 w2 ⟨rfl, rfl⟩)
                go_meet
                exact ⟨HBO.out _, by rw [hk2]⟩
            · have hflz : ¬ ((f : Int) < e) := by omega
              have hk2 : k1 = k0 := by rw [← HK1.out, e1, decide_eq_false hfl]; rfl
              go_wp2_with (go_at_call 24; refine (HIS.out _ rfl).mono ?_; rintro e2 w2 ⟨rfl, rfl⟩)
              go_meet
              exact ⟨HBO.out _, by rw [hk2]⟩
        case rest =>
          obtain ⟨hbw1, rfl⟩ := hcut
          have hiff : k1 = true ↔ (e = 0 ∨ (f < e ∧ 0 < b ∧ at0 s.data.toList (b - 1) = 46) ∨ yieldW = part s.data.toList f e ∨ awaitW = part s.data.toList f e) := by
            rw [← HK1.out, ← HK0.out, HPW.out]
            simp only [Bool.or_eq_true, Bool.and_eq_true, decide_eq_true_eq, beq_iff_eq]
            constructor
            · rintro ((h | ⟨⟨h1, h2⟩, h3⟩) | h)
              · exact .inl h
              · exact .inr (.inl ⟨h1, h2, h3⟩)
              · exact .inr (.inr h)
            · rintro (h | ⟨h1, h2, h3⟩ | h)
              · exact .inl (.inl h)
              · exact .inl (.inr ⟨⟨h1, h2⟩, h3⟩)
              · exact .inr h
          have hR2 := HR.out
          unfold divE at hR2
          cases k1 with
          | true =>
            rw [if_pos (hiff.1 rfl)] at hR2
            have HRR := Lib.hid (Prod.mk.inj hR2)
            clear hR2 hiff
            go_wp2_with fail
            go_ret2
            exact ⟨by rw [← HRR.out.1, ← HRR.out.2]; rfl, hbw1⟩
          | false =>
            have hn1 : ¬ _ := fun h => absurd (hiff.2 h) (by decide)
            rw [if_neg hn1] at hR2
            have he0 : e ≠ 0 := fun h => hn1 (.inl h)
            obtain ⟨k2, hk2⟩ : ∃ k2, (decide (f < e) && (decide (f = 0) || (!hasB memSet (at0 s.data.toList (f - 1)) && decide (at0 s.data.toList (f - 1) < 128)))) = k2 := ⟨_, rfl⟩
            have hiff2 : k2 = true ↔ (f < e ∧ (f = 0 ∨ (hasB memSet (at0 s.data.toList (f - 1)) = false ∧ at0 s.data.toList (f - 1) < 128))) := by
              rw [← hk2]
              simp only [Bool.or_eq_true, Bool.and_eq_true, decide_eq_true_eq, Bool.not_eq_true']
            have HK2 := Lib.hid hk2
            have HR2 := Lib.hid hR2
            have HIFF2 := Lib.hid hiff2
            clear hR2 hiff2 hk2 hiff hn1
            go_upto_region 12 with fail
            go_cut [72] from 73 to 94 (fun s72 wx => Below w.heap.size w wx ∧ s72 = .bool k2)
            case first =>
              have hkk := HK2.out
              by_cases hfl : f < e
              · have hflz : (f : Int) < e := by omega
                rw [decide_eq_true hfl] at hkk
                by_cases hf0 : f = 0
                · have hk : k2 = true := by rw [← hkk, decide_eq_true hf0]; rfl
                  subst hf0
                  go_wp2_with fail
                  go_meet
                  exact ⟨hbw1, by rw [hk]⟩
                · obtain ⟨fp, rfl⟩ : ∃ fp, f = fp + 1 := ⟨f - 1, by omega⟩
                  have hfs : fp < s.size := by omega
                  have hfz : (((fp : Int) + 1) == 0) = false := beq_eq_false_iff_ne.2 (by omega)
                  obtain ⟨x, hx⟩ : ∃ x : UInt8, s[fp]'hfs = x := ⟨_, rfl⟩
                  have hat : at0 s.data.toList fp = x.toNat := by rw [at0_get s fp hfs, hx]
                  rw [decide_eq_false hf0, Nat.add_sub_cancel, hat] at hkk
                  have HH := Lib.hid (fun w => has_any ⟨#[36, 95, 92, 46]⟩ x.toNat w (by decide))
                  obtain ⟨hm, hhm⟩ : ∃ hm, hasB memSet x.toNat = hm := ⟨_, rfl⟩
                  have HH2 : Hid (∀ w, Calls Tryd.prog 9 #[.string ⟨#[36, 95, 92, 46]⟩, .int .u8 x.toNat] w fun e w' => e = .returned (.bool hm) ∧ w = w') := Lib.hid fun w => by rw [← hhm]; exact HH.out w
                  rw [hhm] at hkk
                  clear HH hat hhm
                  cases hm with
                  | true =>
                    have hk : k2 = false := by rw [← hkk]; rfl
                    clear hkk
                    go_wp2_with (go_at_call 9; refine (HH2.out _).mono ?_; rintro e2 w2 ⟨rfl, rfl⟩)
                    go_meet
                    exact ⟨hbw1, by rw [hk]⟩
                  | false =>
                    by_cases h128 : x.toNat < 128
                    · have hz128 : (x.toNat : Int) < 128 := by omega
                      have hk : k2 = true := by rw [← hkk, decide_eq_true h128]; rfl
                      clear hkk
                      go_wp2_with (go_at_call 9; refine (HH2.out _).mono ?_; rintro e2 w2 ⟨rfl, rfl⟩)
                      go_meet
                      exact ⟨hbw1, by rw [hk]⟩
                    · have hz128 : ¬ ((x.toNat : Int) < 128) := by omega
                      have hk : k2 = false := by rw [← hkk, decide_eq_false h128]; rfl
                      clear hkk
                      go_wp2_with (go_at_call 9; refine (HH2.out _).mono ?_; rintro e2 w2 ⟨rfl, rfl⟩)
                      go_meet
                      exact ⟨hbw1, by rw [hk, Value.bool.injEq]; first | rfl | (rw [decide_eq_false_iff_not]; omega)⟩
              · have hflz : ¬ ((f : Int) < e) := by omega
                have hk : k2 = false := by rw [← hkk, decide_eq_false hfl]; rfl
                clear hkk
                go_wp2_with fail
                go_meet
                exact ⟨hbw1, by rw [hk]⟩
            case rest =>
              obtain ⟨hbw2, rfl⟩ := hcut
              have hR3 := HR2.out
              cases k2 with
              | true =>
                rw [if_pos (HIFF2.out.1 rfl), HPW.out] at hR3
                obtain ⟨ik, hik⟩ : ∃ ik, isKey pw = ik := ⟨_, rfl⟩
                rw [hik] at HKW hR3
                have HRR := Lib.hid (Prod.mk.inj hR3)
                clear hR3 hik
                cases ik
                all_goals
                  go_wp2_with (go_at_call 25; refine (HKW.out _).mono ?_; rintro e2 w2 ⟨rfl, hb2⟩)
                  go_ret2
                  exact ⟨by rw [← HRR.out.1, ← HRR.out.2]; rfl, hbw2.trans (hb2.mono hbw2.size)⟩
              | false =>
                rw [if_neg (fun h => absurd (HIFF2.out.2 h) (by decide))] at hR3
                by_cases hfl : f < e
                · have hflz : (f : Int) < e := by omega
                  rw [if_pos hfl] at hR3
                  have HRR := Lib.hid (Prod.mk.inj hR3)
                  clear hR3
                  go_wp2_with fail
                  go_ret2
                  exact ⟨by rw [← HRR.out.1, ← HRR.out.2]; rfl, hbw2⟩
                · have hflz : ¬ ((f : Int) < e) := by omega
                  rw [if_neg hfl] at hR3
                  obtain ⟨ep, rfl⟩ : ∃ ep, e = ep + 1 := ⟨e - 1, by omega⟩
                  have hes3 : ep < s.size := by omega
                  obtain ⟨x, hx⟩ : ∃ x : UInt8, s[ep]'hes3 = x := ⟨_, rfl⟩
                  have hat : at0 s.data.toList ep = x.toNat := by rw [at0_get s ep hes3, hx]
                  rw [Nat.add_sub_cancel, hat] at hR3
                  by_cases h93 : x.toNat = 93
                  · have hz93 : ((x.toNat : Int) == 93) = true := beq_iff_eq.2 (by omega)
                    rw [if_pos h93] at hR3
                    have HRR := Lib.hid (Prod.mk.inj hR3)
                    clear hR3 hat
                    go_wp2_with fail
                    go_ret2
                    exact ⟨by rw [← HRR.out.1, ← HRR.out.2]; rfl, hbw2⟩
                  · have hz93 : ((x.toNat : Int) == 93) = false := beq_eq_false_iff_ne.2 (by omega)
                    rw [if_neg h93] at hR3
                    have HO := Lib.hid (fun w => has_any ⟨#[61, 44, 59, 58, 33, 126, 38, 124, 94, 63, 40, 91, 123, 60, 62, 42, 37]⟩ x.toNat w (by decide))
                    obtain ⟨ho, hho⟩ : ∃ ho, hasB opSet x.toNat = ho := ⟨_, rfl⟩
                    have HO2 : Hid (∀ w, Calls Tryd.prog 9 #[.string ⟨#[61, 44, 59, 58, 33, 126, 38, 124, 94, 63, 40, 91, 123, 60, 62, 42, 37]⟩, .int .u8 x.toNat] w fun e w' => e = .returned (.bool ho) ∧ w = w') := Lib.hid fun w => by rw [← hho]; exact HO.out w
                    have HN1 : Hid True := Lib.hid trivial
                    rw [hho] at hR3
                    clear HO hho
                    cases ho with
                    | true =>
                      rw [if_pos rfl] at hR3
                      have HRR := Lib.hid (Prod.mk.inj hR3)
                      clear hR3 hat
                      go_wp2_with (go_at_call 9; refine (HO2.out _).mono ?_; rintro e2 w2 ⟨rfl, rfl⟩)
                      go_ret2
                      exact ⟨by rw [← HRR.out.1, ← HRR.out.2]; rfl, hbw2⟩
                    | false =>
                      rw [if_neg (by decide)] at hR3
                      have HP := Lib.hid (fun w => has_any ⟨#[43, 45]⟩ x.toNat w (by decide))
                      by_cases hpm : x.toNat = 43 ∨ x.toNat = 45
                      · have hb45 : hasB (⟨#[43, 45]⟩ : ByteArray).data.toList x.toNat = true := by
                          rcases hpm with h | h <;> rw [h] <;> rfl
                        rw [hb45] at HP
                        rw [if_pos hpm] at hR3
                        obtain ⟨q, hq⟩ : ∃ q, back (fun y => y == x.toNat) s.data.toList (ep + 1) = q := ⟨_, rfl⟩
                        rw [hq] at hR3
                        have HQ := Lib.hid hq
                        have HR4 := Lib.hid hR3
                        clear hR3 hat hq
                        go_wp2_with (first
                          | (clear HN1; go_at_call 9; refine (HO2.out _).mono ?_; rintro e2 w2 ⟨rfl, rfl⟩)
                          | (go_at_call 9; refine (HP.out _).mono ?_; rintro e2 w3 ⟨rfl, rfl⟩))
                        go_loopg [7] (ep + 1) (fun g s7 wx => Below w.heap.size w wx ∧ ∃ n : Nat, s7 = .int .i64 n ∧ n + g = ep + 1 ∧ Hid (back (fun y => y == x.toNat) s.data.toList (ep + 1 - n) = q))
                        case atStart => exact ⟨hbw2, 0, rfl, by omega, HQ⟩
                        case round =>
                          obtain ⟨hbw3, n, rfl, hng, HI⟩ := hrel
                          cases gk with
                          | zero =>
                            have hn : ¬ ((n : Int) < (ep : Int) + 1) := by omega
                            have hnb : decide ((n : Int) < (ep : Int) + 1) = false := decide_eq_false hn
                            have hnb2 : decide ((n : Int) < ((ep + 1 : Nat) : Int)) = false := decide_eq_false (by omega)
                            have hq0 : q = 0 := by rw [← HI.out, show ep + 1 - n = 0 by omega]; rfl
                            have hne : ep + 1 - q = n := by omega
                            have hR5 := HR4.out
                            clear hq0
                            rw [hne] at hR5
                            by_cases hn1 : n = 1
                            · have hnz : ((n : Int) == 1) = true := beq_iff_eq.2 (by omega)
                              rw [if_pos hn1] at hR5
                              have HRR := Lib.hid (Prod.mk.inj hR5)
                              clear hR5 hne HI hn1
                              go_wp2_with fail
                              go_quiet (fail)
                              go_wp2_with fail
                              go_ret2
                              exact ⟨by rw [← HRR.out.1, ← HRR.out.2]; rfl, hbw3.trans ((below_drew _ _).mono hbw3.size)⟩
                            · have hnz : ((n : Int) == 1) = false := beq_eq_false_iff_ne.2 (by omega)
                              rw [if_neg hn1] at hR5
                              have HRR := Lib.hid (Prod.mk.inj hR5)
                              have h2e : ((n : Int) == 2) = decide (n = 2) := by rw [Bool.eq_iff_iff, beq_iff_eq, decide_eq_true_eq]; omega
                              have H2E := Lib.hid h2e
                              clear hR5 hne HI h2e hn1
                              go_wp2_with fail
                              go_quiet (fail)
                              go_wp2_with fail
                              go_ret2
                              exact ⟨by rw [← HRR.out.1, ← HRR.out.2, ← H2E.out]; rfl, hbw3.trans ((below_drew _ _).mono hbw3.size)⟩
                          | succ g =>
                            obtain rfl : ep = n + g := by omega
                            have hnb : decide ((n : Int) < ((n + g : Nat) : Int) + 1) = true := decide_eq_true (by omega)
                            have hnb3 : decide ((n : Int) < (n : Int) + (g : Int) + 1) = true := decide_eq_true (by omega)
                            have hnb2 : decide ((n : Int) < ((n + g + 1 : Nat) : Int)) = true := decide_eq_true (by omega)
                            have hgs : g < s.size := by omega
                            have w1 : IntKind.i64.wrap ((n : Int) + (g : Int) + 1 - 1) = (n : Int) + g := by rw [IntKind.wrap_i64]; omega
                            have w2 : IntKind.i64.wrap ((n : Int) + (g : Int)) = (n : Int) + g := by rw [IntKind.wrap_i64]; omega
                            have w3 : IntKind.i64.wrap ((n : Int) + (g : Int) - n) = (g : Int) := by rw [IntKind.wrap_i64]; omega
                            have w4 : IntKind.i64.wrap (g : Int) = (g : Int) := by rw [IntKind.wrap_i64]; omega
                            have j2 : (0 : Int) ≤ (n : Int) + g := by omega
                            have j3 : ((n : Int) + g).toNat = n + g := by omega
                            have j4 : (n : Int) + g < s.size := by omega
                            have j5 : (g : Int) < s.size := by omega
                            obtain ⟨y, hy⟩ : ∃ y : UInt8, s[g]'hgs = y := ⟨_, rfl⟩
                            have hay : at0 s.data.toList g = y.toNat := by rw [at0_get s g hgs, hy]
                            have hHI := HI.out
                            rw [show n + g + 1 - n = g + 1 by omega] at hHI
                            by_cases hyx : y.toNat = x.toNat
                            · have hyz : ((y.toNat : Int) == (x.toNat : Int)) = true := beq_iff_eq.2 (by omega)
                              rw [back_step _ _ g (by rw [hay, hyx]; exact beq_self_eq_true _)] at hHI
                              have HI2 : Hid (back (fun y => y == x.toNat) s.data.toList (n + g + 1 - (n + 1)) = q) := Lib.hid (by rw [show n + g + 1 - (n + 1) = g by omega]; exact hHI)
                              clear hHI HI hay hyx
                              go_wp2_with fail
                              go_quiet (fail)
                              go_wp2_with fail
                              go_roundg g
                              case measure => omega
                              case rel => exact ⟨hbw3.trans ((below_drew _ _).mono hbw3.size), n + 1, by first | rfl | simp, by omega, HI2⟩
                            · have hyz : ((y.toNat : Int) == (x.toNat : Int)) = false := beq_eq_false_iff_ne.2 (by omega)
                              have hq1 : q = g + 1 := by rw [← hHI]; exact back_here _ _ (g + 1) (fun _ => by rw [Nat.add_sub_cancel, hay]; exact beq_eq_false_iff_ne.2 hyx)
                              have hne : n + g + 1 - q = n := by omega
                              have hR5 := HR4.out
                              clear hq1 hHI hay hyx
                              rw [hne] at hR5
                              by_cases hn1 : n = 1
                              · have hnz : ((n : Int) == 1) = true := beq_iff_eq.2 (by omega)
                                rw [if_pos hn1] at hR5
                                have HRR := Lib.hid (Prod.mk.inj hR5)
                                clear hR5 hne HI hn1
                                go_wp2_with fail
                                go_quiet (fail)
                                go_wp2_with fail
                                go_ret2
                                exact ⟨by rw [← HRR.out.1, ← HRR.out.2]; rfl, hbw3.trans ((below_drew _ _).mono hbw3.size)⟩
                              · have hnz : ((n : Int) == 1) = false := beq_eq_false_iff_ne.2 (by omega)
                                rw [if_neg hn1] at hR5
                                have HRR := Lib.hid (Prod.mk.inj hR5)
                                have h2e : ((n : Int) == 2) = decide (n = 2) := by rw [Bool.eq_iff_iff, beq_iff_eq, decide_eq_true_eq]; omega
                                have H2E := Lib.hid h2e
                                clear hR5 hne HI h2e hn1
                                go_wp2_with fail
                                go_quiet (fail)
                                go_wp2_with fail
                                go_ret2
                                exact ⟨by rw [← HRR.out.1, ← HRR.out.2, ← H2E.out]; rfl, hbw3.trans ((below_drew _ _).mono hbw3.size)⟩
                      · have hb45 : hasB (⟨#[43, 45]⟩ : ByteArray).data.toList x.toNat = false := by
                          show ((43 == x.toNat) || ((45 == x.toNat) || false)) = false
                          rw [beq_eq_false_iff_ne.2 (fun h => hpm (.inl h.symm)), beq_eq_false_iff_ne.2 (fun h => hpm (.inr h.symm))]
                          rfl
                        rw [hb45] at HP
                        rw [if_neg hpm] at hR3
                        have HRR := Lib.hid (Prod.mk.inj hR3)
                        clear hR3 hat
                        go_wp2_with (first
                          | (clear HN1; go_at_call 9; refine (HO2.out _).mono ?_; rintro e2 w2 ⟨rfl, rfl⟩)
                          | (go_at_call 9; refine (HP.out _).mono ?_; rintro e2 w2 ⟨rfl, rfl⟩))
                        go_ret2
                        exact ⟨by rw [← HRR.out.1, ← HRR.out.2]; rfl, hbw2⟩
end Go.Proofs.YtolamblmfejhoaaDoor
