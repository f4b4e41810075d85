/-
  A value of CSS that the package lets through is the value itself, without marks, or the failsafe; a word is let through unless it has one of two words in it: the law FnStyleValue returns true at every text, whatever memory holds besides.
  Conditions: those of the given row (package-level tables of Go's library read as laid), which the card ties to the program's text; none of our own.
-/
import Derived.Test.YtigobehhmodoiaaDoorRowKit
import Derived.Test.YtigobehhmodoiaaDoorValC
import Derived.Test.YtigobehhmodoiaaDoorFind
import Derived.Test.YtigobehhmodoiaaDoorNmF
import Derived.Test.YtigobehhmodoiaaDoorPlnQ
import Derived.Test.YtigobehhmodoiaaDoorHtmlB
import Derived.Test.YtigobehhmodoiaaDoorSpN
import Derived.Test.YtigobehhmodoiaaDoorRowL
namespace Go.Proofs.YtigobehhmodoiaaDoor.fnStyleValue
open Go.ChangeShapes Go.WideShapes Go.ChangeAt Go.RowKit
open Go.ChangeMaps (open_string shut_string)
set_option linter.unusedVariables false
set_option linter.unusedSimpArgs false

def hsW : ByteArray := ⟨#[34, 39, 40, 41, 47, 59, 64, 91, 92, 93, 96, 123, 125, 60, 62]⟩
theorem marks_no (s : ByteArray) (h : ∀ b ∈ s.data.toList, badB b.toNat = false) : hasAnyB s.data.toList hsW.data.toList = false := by
  unfold hasAnyB
  rw [List.any_eq_false]
  intro b hb
  have h1 := h b hb
  unfold hasB
  rw [Bool.not_eq_true, List.any_eq_false]
  intro x hx
  have h2 : ∀ x ∈ hsW.data.toList, badB x.toNat = true := by decide
  have h3 := h2 x hx
  simp only [beq_iff_eq]
  intro h4
  rw [h4, h1] at h3; cases h3
set_option maxRecDepth 100000 in
set_option maxHeartbeats 1600000 in
theorem walk (s : ByteArray) (w : World) (hs : s.size ≤ maxLen) (hT : Tabs w) :
    Calls Tryd.prog 6 #[.string s] w fun e w' => e = .returned (.bool true) ∧ Below w.heap.size w w' := by
  have hs0 := hs
  unfold maxLen at hs
  by_cases hm : (2147483647 : Int) < s.size
  · go_enter Tryd.func6, Tryd.ntmps6
    go_wp2
    go_ret
    exact ⟨rfl, Below.refl _ _⟩
  have hm' : decide ((2147483647 : Int) < s.size) = false := by rw [decide_eq_false_iff_not]; exact hm
  have HH := Lib.hid (fun w => has_any s 92 w hs0)
  have HP := Lib.hid (fun w => plain_any s w (by omega))
  have HW := Lib.hid (fun w => wordq_any s w hs0)
  have HLO := Lib.hid (fun w => lowerq_any s w (by omega))
  have hz : (s.size : Int) ≤ 2147483647 := by omega
  have hlen : (Lib.toLowerA s.data.toList).length = s.size := by simp [Lib.toLowerA]
  have hctn : ∀ (m v : ByteArray) (w : World), 0 < m.size → (m.size : Int) ≤ 100 → v.data.toList = Lib.toLowerA s.data.toList → Calls Tryd.prog 26 #[.string v, .string m] w fun e w' => e = .returned (.bool (idxL m.data.toList (Lib.toLowerA s.data.toList)).isSome) ∧ w = w' := by
    intro m v w h0 h1 hv
    have hvz : v.size = s.size := by rw [← hlen, ← hv]; simp
    have := contains_any v m w (by omega) (by omega) h0
    rw [hv] at this; exact this
  have HCE := Lib.hid (fun v w hv => hctn ⟨#[101, 120, 112, 114, 101, 115, 115, 105, 111, 110]⟩ v w (by decide) (by decide) hv)
  have HCM := Lib.hid (fun v w hv => hctn ⟨#[109, 111, 122, 98, 105, 110, 100, 105, 110, 103]⟩ v w (by decide) (by decide) hv)
  obtain ⟨eb, heb⟩ : ∃ eb, eb = (idxL (⟨#[101, 120, 112, 114, 101, 115, 115, 105, 111, 110]⟩ : ByteArray).data.toList (Lib.toLowerA s.data.toList)).isSome := ⟨_, rfl⟩
  obtain ⟨mb, hmb⟩ : ∃ mb, mb = (idxL (⟨#[109, 111, 122, 98, 105, 110, 100, 105, 110, 103]⟩ : ByteArray).data.toList (Lib.toLowerA s.data.toList)).isSome := ⟨_, rfl⟩
  rw [← heb] at HCE
  rw [← hmb] at HCM
  cases hh : hasB s.data.toList 92
  · rw [hh] at HH
    have hno : ∀ x ∈ s.data.toList, x ≠ 92 := by
      intro x hx e
      unfold hasB at hh
      rw [List.any_eq_false] at hh
      have := hh x hx
      rw [e] at this
      exact this rfl
    cases hp : plainL s.data.toList
    · rw [hp] at HP
      clear hm hs hs0 hh hp hctn hno heb hmb
      go_enter Tryd.func6, Tryd.ntmps6
      go_wp2_with (first
        | (go_at_call 16; refine (HH.out _).mono ?_; rintro e w1 ⟨rfl, rfl⟩)
        | (go_at_call 23; refine (HP.out _).mono ?_; rintro e w1 ⟨rfl, rfl⟩)
        | (go_at_call 25; refine (HW.out _).mono ?_; rintro e w1 ⟨rfl, rfl⟩)
        | (go_at_call 27; refine (HLO.out _).mono ?_; rintro e w4 ⟨⟨v, rfl, hv⟩, hb4⟩; have hT1 := hT1.keep hb4 (Nat.le_refl _); have hb1 := hb1.trans (hb4.mono hb1.size); have HV := Lib.hid hv; clear hv hb4)
        | (go_at_call 26; refine (HCE.out _ _ HV.out).mono ?_; rintro e w5 ⟨rfl, rfl⟩; clear HCE HV)
        | (go_at_call 26; refine (HCM.out _ _ HV.out).mono ?_; rintro e w6 ⟨rfl, rfl⟩; clear HCM HV)
        | (go_at_call 20; refine (HHA.out _).mono ?_; rintro e w7 ⟨rfl, rfl⟩))
      go_ret
      exact ⟨rfl, Below.refl _ _⟩
    · rw [hp] at HP
      have HV0 : Hid (∀ w, Calls Tryd.prog 24 #[.string s] w fun e w' => ((e = .returned (.string s) ∧ hasAnyB s.data.toList hsW.data.toList = false) ∨ (e = .returned (.string ⟨#[90, 103, 111, 116, 109, 112, 108, 90]⟩) ∧ s.data.toList ≠ [90, 103, 111, 116, 109, 112, 108, 90] ∧ (allN s.data.toList → badLow s.data.toList = true))) ∧ Below w.heap.size w w') := Lib.hid fun w => by
        refine (cssValue_any s w hz hno).mono ?_
        rintro e w' ⟨⟨rfl, h⟩ | ⟨rfl, h⟩, hb⟩
        · exact ⟨.inl ⟨rfl, marks_no s h⟩, hb⟩
        · by_cases hsf : s.data.toList = [90, 103, 111, 116, 109, 112, 108, 90]
          · have : failW = s := ba_ext hsf.symm
            rw [this]
            refine ⟨.inl ⟨rfl, ?_⟩, hb⟩
            rw [hsf]; decide
          · exact ⟨.inr ⟨rfl, hsf, h⟩, hb⟩
      have hbl : allN s.data.toList → badLow s.data.toList = true → (eb || mb) = true := fun _ h => by rw [heb, hmb]; exact h
      have hwd := word_all s.data.toList
      obtain ⟨wb, hwb⟩ : ∃ b, wordB s.data.toList = b := ⟨_, rfl⟩
      rw [hwb] at HW hwd
      have HBL : Hid ((allN s.data.toList → badLow s.data.toList = true) → wb = true → (eb || mb) = true) := Lib.hid fun h1 h2 => hbl (hwd h2) (h1 (hwd h2))
      have hsz0 := hs0
      clear hm hs hh hp hctn hno heb hmb hbl hwd hwb
      have HA0 := Lib.hid (fun w => hasAny_any s hsW w hs0 (by decide))
      have HAF := Lib.hid (fun w => hasAny_any failW hsW w (by decide) (by decide))
      clear hs0 hsz0
      go_enter Tryd.func6, Tryd.ntmps6
      go_wp2_with (first
        | (go_at_call 16; refine (HH.out _).mono ?_; rintro e w1 ⟨rfl, rfl⟩)
        | (go_at_call 23; refine (HP.out _).mono ?_; rintro e w1 ⟨rfl, rfl⟩))
      refine (HV0.out _).mono ?_
      rintro e w1 ⟨⟨rfl, h⟩ | ⟨rfl, hsf, h⟩, hb1⟩
      · have HHA : Hid (∀ w, Calls Tryd.prog 20 #[.string s, .string hsW] w fun e w' => e = .returned (.bool false) ∧ w = w') := Lib.hid fun w => by
          have := HA0.out w; rw [h] at this; exact this
        have hT1 := hT.keep hb1 (Nat.le_refl _)
        clear HA0 HAF HBL h
        cases wb
        all_goals
          go_wp2_with (first
            | (go_at_call 16; refine (HH.out _).mono ?_; rintro e w1 ⟨rfl, rfl⟩)
            | (go_at_call 23; refine (HP.out _).mono ?_; rintro e w1 ⟨rfl, rfl⟩)
            | (go_at_call 25; refine (HW.out _).mono ?_; rintro e w1 ⟨rfl, rfl⟩)
            | (go_at_call 27; refine (HLO.out _).mono ?_; rintro e w4 ⟨⟨v, rfl, hv⟩, hb4⟩; have hT1 := hT1.keep hb4 (Nat.le_refl _); have hb1 := hb1.trans (hb4.mono hb1.size); have HV := Lib.hid hv; clear hv hb4)
            | (go_at_call 26; refine (HCE.out _ _ HV.out).mono ?_; rintro e w5 ⟨rfl, rfl⟩; clear HCE HV)
            | (go_at_call 26; refine (HCM.out _ _ HV.out).mono ?_; rintro e w6 ⟨rfl, rfl⟩; clear HCM HV)
            | (go_at_call 20; refine (HHA.out _).mono ?_; rintro e w7 ⟨rfl, rfl⟩)
            | (go_at_call 19; refine (works_any _ hT1).mono ?_; rintro e w3 ⟨rfl, hb3⟩))
          all_goals
            go_ret
            exact ⟨rfl, hb1.trans (hb3.mono hb1.size)⟩
      · have HHA : Hid (∀ w, Calls Tryd.prog 20 #[.string ⟨#[90, 103, 111, 116, 109, 112, 108, 90]⟩, .string hsW] w fun e w' => e = .returned (.bool false) ∧ w = w') := Lib.hid fun w => HAF.out w
        have hT1 := hT.keep hb1 (Nat.le_refl _)
        have HOR := Lib.hid (HBL.out h)
        have hsf1 : s.toList ≠ [90, 103, 111, 116, 109, 112, 108, 90] := by rw [Lib.toList_data]; exact hsf
        have q1 : (s.toList = [90, 103, 111, 116, 109, 112, 108, 90]) = False := eq_false hsf1
        have q2 : ([90, 103, 111, 116, 109, 112, 108, 90] = s.toList) = False := eq_false (fun h => hsf1 h.symm)
        have q3 : (s.toList == [90, 103, 111, 116, 109, 112, 108, 90]) = false := by rw [beq_eq_false_iff_ne]; exact hsf1
        have q4 : ([90, 103, 111, 116, 109, 112, 108, 90] == s.toList) = false := by rw [beq_eq_false_iff_ne]; exact fun h => hsf1 h.symm
        clear HA0 HAF HBL h hsf hsf1
        cases wb
        · clear HOR
          go_wp2_with (first
            | (go_at_call 16; refine (HH.out _).mono ?_; rintro e w1 ⟨rfl, rfl⟩)
            | (go_at_call 23; refine (HP.out _).mono ?_; rintro e w1 ⟨rfl, rfl⟩)
            | (go_at_call 25; refine (HW.out _).mono ?_; rintro e w1 ⟨rfl, rfl⟩)
            | (go_at_call 27; refine (HLO.out _).mono ?_; rintro e w4 ⟨⟨v, rfl, hv⟩, hb4⟩; have hT1 := hT1.keep hb4 (Nat.le_refl _); have hb1 := hb1.trans (hb4.mono hb1.size); have HV := Lib.hid hv; clear hv hb4)
            | (go_at_call 26; refine (HCE.out _ _ HV.out).mono ?_; rintro e w5 ⟨rfl, rfl⟩; clear HCE HV)
            | (go_at_call 26; refine (HCM.out _ _ HV.out).mono ?_; rintro e w6 ⟨rfl, rfl⟩; clear HCM HV)
            | (go_at_call 20; refine (HHA.out _).mono ?_; rintro e w7 ⟨rfl, rfl⟩)
            | (go_at_call 19; refine (works_any _ hT1).mono ?_; rintro e w3 ⟨rfl, hb3⟩))
          all_goals
            go_ret
            exact ⟨rfl, hb1.trans (hb3.mono hb1.size)⟩
        · cases eb
          · cases mb
            · exact absurd (HOR.out rfl) (by decide)
            · clear HOR
              go_wp2_with (first
                | (go_at_call 16; refine (HH.out _).mono ?_; rintro e w1 ⟨rfl, rfl⟩)
                | (go_at_call 23; refine (HP.out _).mono ?_; rintro e w1 ⟨rfl, rfl⟩)
                | (go_at_call 25; refine (HW.out _).mono ?_; rintro e w1 ⟨rfl, rfl⟩)
                | (go_at_call 27; refine (HLO.out _).mono ?_; rintro e w4 ⟨⟨v, rfl, hv⟩, hb4⟩; have hT1 := hT1.keep hb4 (Nat.le_refl _); have hb1 := hb1.trans (hb4.mono hb1.size); have HV := Lib.hid hv; clear hv hb4)
                | (go_at_call 26; refine (HCE.out _ _ HV.out).mono ?_; rintro e w5 ⟨rfl, rfl⟩; clear HCE HV)
                | (go_at_call 26; refine (HCM.out _ _ HV.out).mono ?_; rintro e w6 ⟨rfl, rfl⟩; clear HCM HV)
                | (go_at_call 20; refine (HHA.out _).mono ?_; rintro e w7 ⟨rfl, rfl⟩)
                | (go_at_call 19; refine (works_any _ hT1).mono ?_; rintro e w3 ⟨rfl, hb3⟩))
              all_goals
                go_ret
                exact ⟨rfl, hb1.trans (hb3.mono hb1.size)⟩
          · clear HOR HCM
            go_wp2_with (first
              | (go_at_call 16; refine (HH.out _).mono ?_; rintro e w1 ⟨rfl, rfl⟩)
              | (go_at_call 23; refine (HP.out _).mono ?_; rintro e w1 ⟨rfl, rfl⟩)
              | (go_at_call 25; refine (HW.out _).mono ?_; rintro e w1 ⟨rfl, rfl⟩)
              | (go_at_call 27; refine (HLO.out _).mono ?_; rintro e w4 ⟨⟨v, rfl, hv⟩, hb4⟩; have hT1 := hT1.keep hb4 (Nat.le_refl _); have hb1 := hb1.trans (hb4.mono hb1.size); have HV := Lib.hid hv; clear hv hb4)
              | (go_at_call 26; refine (HCE.out _ _ HV.out).mono ?_; rintro e w5 ⟨rfl, rfl⟩; clear HCE HV)
              | (go_at_call 26; refine (HCM.out _ _ HV.out).mono ?_; rintro e w6 ⟨rfl, rfl⟩; clear HCM HV)
              | (go_at_call 20; refine (HHA.out _).mono ?_; rintro e w7 ⟨rfl, rfl⟩)
              | (go_at_call 19; refine (works_any _ hT1).mono ?_; rintro e w3 ⟨rfl, hb3⟩))
            all_goals
              go_ret
              exact ⟨rfl, hb1.trans (hb3.mono hb1.size)⟩
  · rw [hh] at HH
    clear hm hs hs0 hh hctn heb hmb
    go_enter Tryd.func6, Tryd.ntmps6
    go_wp2_with (first
      | (go_at_call 16; refine (HH.out _).mono ?_; rintro e w1 ⟨rfl, rfl⟩)
      | (go_at_call 23; refine (HP.out _).mono ?_; rintro e w1 ⟨rfl, rfl⟩)
      | (go_at_call 25; refine (HW.out _).mono ?_; rintro e w1 ⟨rfl, rfl⟩)
      | (go_at_call 27; refine (HLO.out _).mono ?_; rintro e w4 ⟨⟨v, rfl, hv⟩, hb4⟩; have hT1 := hT1.keep hb4 (Nat.le_refl _); have hb1 := hb1.trans (hb4.mono hb1.size); have HV := Lib.hid hv; clear hv hb4)
      | (go_at_call 26; refine (HCE.out _ _ HV.out).mono ?_; rintro e w5 ⟨rfl, rfl⟩; clear HCE HV)
      | (go_at_call 26; refine (HCM.out _ _ HV.out).mono ?_; rintro e w6 ⟨rfl, rfl⟩; clear HCM HV)
      | (go_at_call 20; refine (HHA.out _).mono ?_; rintro e w7 ⟨rfl, rfl⟩))
    go_ret
    exact ⟨rfl, Below.refl _ _⟩

/-! ### the row -/
theorem tabs {W : World} (hL : laidMetH Tryd.prog Rows.fnStyleValueRow.laid W) : Tabs W := tabs_of hL (by kernel_rfl) (List.mem_of_getElem? (i := 5) (by kernel_rfl)) (List.mem_of_getElem? (i := 3) (by kernel_rfl))

set_option maxRecDepth 100000 in
theorem contract (H : Type) (enc : TypeId × Value → H) (W : World) (base : Nat) (args : Array Value) (ds gs : List (DataW H)) (before : List MemPlace)
    (hval : ∀ (j : Nat) t v, Tryd.f6.params[j]? = some t → args[j]? = some v → Value.okWide Tryd.prog W .any base t v)
    (hW : DataW.Whole enc Tryd.prog Tryd.f6.params.toList Rows.fnStyleValueSpec.vars false W args.toList ds gs before) (hL : laidMetH Tryd.prog Rows.fnStyleValueRow.laid W) :
    Calls Tryd.prog 6 args W fun e W' => ∃ v, e = .returned v ∧ Rows.fnStyleValueSpec.post enc Tryd.prog Tryd.f6 false true false false W args v W' := by
  have hW' := hW
  obtain ⟨p, q, hA0, hV, rfl, hfz, hnd⟩ := hW
  have hA : DataW.TrodAll enc Tryd.prog W 0 (fun _ => true) true Tryd.f6.params.toList args.toList ds p := hA0
  rw [Tryd.params6] at hA hval
  obtain ⟨v0, vs0, d0, ds0, p0, q0, hargs, rfl, rfl, h0, r0⟩ := trodAll_cons hA
  obtain ⟨rfl, rfl, rfl⟩ := trodAll_nil r0
  obtain rfl : args = #[v0] := by cases args; simp_all
  obtain ⟨rfl, rfl⟩ := trodVars_none hV
  obtain ⟨a0, rfl, rfl, rfl, w0⟩ := open_string Tryd.underlying9 (hval 0 9 v0 rfl rfl) h0
  clear hA0
  simp only [List.append_nil] at hW'
  refine (walk a0 W w0 (tabs hL)).mono fun e W' ⟨he, bel⟩ => ?_
  subst he
  exact ⟨_, rfl, _, _, _, [], [], [], hW', trodAll_mk1 (shut_bool Tryd.underlying4 _), trodAll_cons_mk (shut_string Tryd.underlying9 w0) trodAll_mk0, rfl, bel.frame _, fun h => by cases h⟩

noncomputable def laidWorld (os : Os) : World :=
  { World.holding Tryd.prog os ⟨#[], #[], []⟩ with heap := layOne (layCase 116 (layOne (layOne (layOne (layOne ((World.holding Tryd.prog os ⟨#[], #[], []⟩).heap) 8 Rows.laid_math_bits_deBruijn32tab) 9 Rows.laid_math_bits_deBruijn64tab) 7 Rows.laid_internal_strconv_uint64pow10) 2 Rows.laid_unicode_utf8_acceptRanges) 4) 1 Rows.laid_unicode_utf8_first }
theorem laid_met (os : Os) : laidMet Tryd.prog Rows.fnStyleValueRow.laid ((laidWorld os).forCall (fun _ _ => 0) ⟨#[], #[Value.string ByteArray.empty], []⟩).memory := by
  have h := laidMet_with_case (ρ := Tryd.lays262_ren) { Tryd.lays262 with } Tryd.lays262.t206 ⟨by kernel_rfl, by kernel_rfl, by kernel_rfl, by kernel_rfl, by kernel_rfl, by kernel_rfl⟩
    (w := ((laidWorld os).forCall (fun _ _ => 0) ⟨#[], #[Value.string ByteArray.empty], []⟩).memory) (l := [("math/bits.deBruijn32tab", Rows.laid_math_bits_deBruijn32tab), ("math/bits.deBruijn64tab", Rows.laid_math_bits_deBruijn64tab), ("internal/strconv.uint64pow10", Rows.laid_internal_strconv_uint64pow10), ("unicode/utf8.acceptRanges", Rows.laid_unicode_utf8_acceptRanges)] ++ [("unicode/utf8.first", Rows.laid_unicode_utf8_first)])
    10 (by kernel_rfl) (by kernel_rfl) (by kernel_rfl) ((World.settled Tryd.prog default).heap.size + 0) 116 (of_decide_eq_true (by kernel_rfl)) (by kernel_rfl) (by kernel_rfl) (by kernel_rfl)
  have h2 := laid_swap h
  rw [← case_eq] at h2
  exact h2
theorem reads (os : Os) {H : Type} (enc : TypeId × Value → H) : ∃ places, DataW.whole enc Tryd.prog ((laidWorld os).forCall (fun _ _ => 0) ⟨#[], #[Value.string ByteArray.empty], []⟩).memory Tryd.f6.params.toList Rows.fnStyleValueSpec.vars false (#[Value.string ByteArray.empty] : Array Value).toList 8 = some ([.lit (.string [])], [], places) :=
  ⟨[], by kernel_rfl⟩

set_option maxRecDepth 100000 in
theorem lifted (os : Os) (started : os.Started) (H : Type) (enc : TypeId × Value → H) (F : Stop.Interp) :
    ReturnsInHanded {} Tryd.checked os 6 .any ((OpenSpec.ofChange Rows.fnStyleValueSpec).preRow enc Tryd.prog Tryd.f6 Rows.fnStyleValueRow.domain false Rows.fnStyleValueRow.laid) (((OpenSpec.ofChange Rows.fnStyleValueSpec).at F).post enc Tryd.prog Tryd.f6 false true false false) := by
  obtain ⟨places, hx⟩ := reads os enc
  refine returnsInHanded_of_row (C := Tryd.checked) (s := OpenSpec.ofChange Rows.fnStyleValueSpec) own started (by kernel_rfl) Tryd.func6
    (witness_row_atRef (enc := enc) (C := Tryd.checked) false (laidWorld os) #[Value.string ByteArray.empty] rfl (by kernel_rfl) (by kernel_rfl) (by kernel_rfl)
      (OpenSpec.preRow_of_cond 8 hx (by kernel_rfl) (fun k hk => by cases hk) (by kernel_rfl) (laid_met os))) ?_
  intro W base args ds gs before hval hW _ _ _ hL _ _
  exact contract H enc W base args ds gs before hval hW hL

theorem said : Rows.FnStyleValueSaid :=
  OpenClaim.holds_of_cond 6 Tryd.f6 rfl rfl rfl rfl rfl rfl rfl ⟨rfl, rfl, rfl, rfl, rfl⟩ rfl rfl rfl rfl rfl (by kernel_rfl) Tryd.func6 (by kernel_rfl)
    (of_decide_eq_true (by kernel_rfl)) (by unfold Func.isWrapper; first | (rw [if_pos (by decide +kernel)]; kernel_rfl) | (rw [if_neg (by decide +kernel)]; exact ⟨rfl, rfl⟩))
    (fun os started H enc _ F => by rw [OpenClaim.pre_eq_preRow]; exact lifted os started H enc F)

theorem plain (f : FuncId) (fn : Func) (hf : Tryd.pinned.checked.prog.funcNamed "htmlescapers/laws.FnStyleValue" = some f) (hfn : Tryd.pinned.checked.prog.funcs[f]? = some fn) :
    false = Tryd.pinned.checked.prog.looks [] ∧ ∀ (j : Nat) t, fn.params[j]? = some t → Tryd.pinned.checked.prog.wantsStandIn t = false := by
  obtain rfl : f = 6 := Option.some.inj ((show Tryd.prog.funcNamed "htmlescapers/laws.FnStyleValue" = some 6 by kernel_rfl).symm.trans hf) |>.symm
  obtain rfl : fn = Tryd.f6 := (Option.some.inj (Tryd.func6.symm.trans hfn)).symm
  refine ⟨by kernel_rfl, fun j t ht => ?_⟩
  rw [Tryd.params6] at ht
  obtain rfl : t = 9 := by simpa using Array.mem_of_getElem? ht
  exact (show Tryd.prog.wantsStandIn 9 = false by kernel_rfl)

theorem card : Rows.FnStyleValueCardSaid :=
  Claim7.holds_tied_plain_at .later [] _ _ _ _ said (fun _ h => by cases h) (by kernel_rfl) (fun _ h => by cases h) fnStyleValue_row_tie rfl ⟨rfl, rfl⟩ (by kernel_rfl) rfl plain (by kernel_rfl)
end Go.Proofs.YtigobehhmodoiaaDoor.fnStyleValue
namespace Go.Proofs.YtigobehhmodoiaaDoor
theorem fnStyleValue_card : Rows.FnStyleValueCardSaid := fnStyleValue.card
end Go.Proofs.YtigobehhmodoiaaDoor
