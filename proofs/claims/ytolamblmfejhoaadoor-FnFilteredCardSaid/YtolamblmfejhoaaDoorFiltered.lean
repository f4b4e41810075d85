/-
  A URL is let through as it is, or replaced by a mark; with one of three schemes, or without a colon, it is let through; with another scheme it is replaced: the law FnFiltered returns true at every text, whatever memory holds besides.
  Conditions: those of the given row (package-level tables of Go's library read as laid), which the card ties to the program's text; none of our own.
-/
import Derived.Test.YtolamblmfejhoaaDoorRowKit
import Derived.Test.YtolamblmfejhoaaDoorFlt
import Derived.Test.YtolamblmfejhoaaDoorSch
import Derived.Test.YtolamblmfejhoaaDoorHtmlB
import Derived.Test.YtolamblmfejhoaaDoorRowL
import Derived.Test.YtolamblmfejhoaaDoorFdo
namespace Go.Proofs.YtolamblmfejhoaaDoor.fnFiltered
open Go.ChangeShapes Go.WideShapes Go.ChangeAt Go.RowKit
open Go.ChangeMaps (open_string shut_string)
set_option linter.unusedVariables false
set_option linter.unusedSimpArgs false

def markW : ByteArray := ⟨#[35, 90, 103, 111, 116, 109, 112, 108, 90]⟩
theorem ne_forms (s : ByteArray) (l : Bytes) (h : s.data.toList ≠ l) : ((s.toList = l) = False) ∧ ((l = s.toList) = False) ∧ ((s.toList == l) = false) ∧ ((l == s.toList) = false) := by
  rw [Lib.toList_data]
  exact ⟨eq_false h, eq_false (fun e => h e.symm), by rw [beq_eq_false_iff_ne]; exact h, by rw [beq_eq_false_iff_ne]; exact fun e => h e.symm⟩
set_option maxRecDepth 100000 in
set_option maxHeartbeats 1600000 in
theorem walk (s : ByteArray) (w : World) (hs : s.size ≤ maxLen) (hT : Tabs w) (hF : FoldOk w) :
    Calls Tryd.prog 3 #[.string s] w fun e w' => e = .returned (.bool true) ∧ Below w.heap.size w w' := by
  have hs0 := hs
  unfold maxLen at hs
  by_cases hm : (2147483647 : Int) < s.size
  · go_enter Tryd.func3, Tryd.ntmps3
    go_wp2
    go_ret
    exact ⟨rfl, Below.refl _ _⟩
  have hm' : decide ((2147483647 : Int) < s.size) = false := by rw [decide_eq_false_iff_not]; exact hm
  have HX := Lib.hid (filtered_any s w (by omega) hF)
  have HH := Lib.hid (fun w => has_any s 58 w hs0)
  have HSC := Lib.hid (fun w => scheme_any s w (by omega))
  have hnone := filter_none s.data.toList
  have hsch := filter_scheme s.data.toList
  obtain ⟨b, hb⟩ : ∃ b, safeL s.data.toList = b := ⟨_, rfl⟩
  obtain ⟨o, ho⟩ : ∃ o, schemeL s.data.toList = o := ⟨_, rfl⟩
  obtain ⟨c, hc⟩ : ∃ c, hasB s.data.toList 58 = c := ⟨_, rfl⟩
  rw [hb] at HX
  rw [ho] at HSC
  rw [hc] at HH
  have hmk : b = false → s.data.toList ≠ [35, 90, 103, 111, 116, 109, 112, 108, 90] := by
    rintro rfl e
    rw [e] at hb
    exact absurd hb (by decide)
  rw [hc, hb] at hnone
  rw [hb] at hsch
  cases b
  · obtain ⟨q1, q2, q3, q4⟩ := ne_forms s _ (hmk rfl)
    have hc1 : c = true := by cases c; exact absurd (hnone rfl) (by decide); rfl
    subst hc1
    cases o with
    | none =>
      have HT := Lib.hid hT
      clear hs hs0 hm hT hF hnone hsch hb ho hc hmk
      go_enter Tryd.func3, Tryd.ntmps3
      go_wp2_with (first
        | (go_at_call 6; refine HX.out.mono ?_; rintro e w1 ⟨rfl, hb1⟩; have hT1 := HT.out.keep hb1 (Nat.le_refl _))
        | (go_at_call 7; refine (HSC.out _).mono ?_; rintro e w2 ⟨rfl, hb2⟩; have hT2 := hT1.keep hb2 (Nat.le_refl _))
        | (go_at_call 8; refine (works_any _ hT2).mono ?_; rintro e w3 ⟨rfl, hb3⟩)
        | (go_at_call 9; refine (HH.out _).mono ?_; rintro e w4 ⟨rfl, rfl⟩))
      all_goals
        go_ret
        exact ⟨rfl, (hb1.trans (hb2.mono hb1.size)).trans (hb3.mono (by have := hb1.size; have := hb2.size; omega))⟩
    | some i =>
      have HS3 := Lib.hid (hsch i ho)
      have HV3 : Hid (∀ v : ByteArray, v.data.toList = Lib.toLowerA (s.data.toList.take i) → v.data.toList ≠ httpW ∧ v.data.toList ≠ httpsW ∧ v.data.toList ≠ mailtoW) := Lib.hid fun v hv => by
        have h := HS3.out
        rw [← hv] at h
        refine ⟨fun e => ?_, fun e => ?_, fun e => ?_⟩ <;> (rw [e] at h; revert h; decide)
      have HT := Lib.hid hT
      clear hs hs0 hm hT hF hnone hsch hb ho hc hmk
      go_enter Tryd.func3, Tryd.ntmps3
      go_wp2_with (first
        | (go_at_call 6; refine HX.out.mono ?_; rintro e w1 ⟨rfl, hb1⟩; have hT1 := HT.out.keep hb1 (Nat.le_refl _))
        | (go_at_call 7; refine (HSC.out _).mono ?_; rintro e w2 ⟨⟨v, rfl, hv⟩, hb2⟩; have hT2 := hT1.keep hb2 (Nat.le_refl _); obtain ⟨n1, n2, n3⟩ := HV3.out v hv; obtain ⟨x1, x2, x3, x4⟩ := ne_forms v _ n1; obtain ⟨y1, y2, y3, y4⟩ := ne_forms v _ n2; obtain ⟨z1, z2, z3, z4⟩ := ne_forms v _ n3; unfold httpW at x1 x2 x3 x4; unfold httpsW at y1 y2 y3 y4; unfold mailtoW at z1 z2 z3 z4; clear n1 n2 n3; clear hv)
        | (go_at_call 8; refine (works_any _ hT2).mono ?_; rintro e w3 ⟨rfl, hb3⟩)
        | (go_at_call 9; refine (HH.out _).mono ?_; rintro e w4 ⟨rfl, rfl⟩))
      all_goals
        go_ret
        exact ⟨rfl, (hb1.trans (hb2.mono hb1.size)).trans (hb3.mono (by have := hb1.size; have := hb2.size; omega))⟩
  · cases o with
    | none =>
      cases c
      all_goals
        have HT := Lib.hid hT
        clear hs hs0 hm hT hF hnone hsch hb ho hc hmk
        go_enter Tryd.func3, Tryd.ntmps3
        go_wp2_with (first
          | (go_at_call 6; refine HX.out.mono ?_; rintro e w1 ⟨rfl, hb1⟩; have hT1 := HT.out.keep hb1 (Nat.le_refl _))
          | (go_at_call 7; refine (HSC.out _).mono ?_; rintro e w2 ⟨rfl, hb2⟩; have hT2 := hT1.keep hb2 (Nat.le_refl _))
          | (go_at_call 8; refine (works_any _ hT2).mono ?_; rintro e w3 ⟨rfl, hb3⟩)
          | (go_at_call 9; refine (HH.out _).mono ?_; rintro e w4 ⟨rfl, rfl⟩))
        all_goals
          go_ret
          exact ⟨rfl, (hb1.trans (hb2.mono hb1.size)).trans (hb3.mono (by have := hb1.size; have := hb2.size; omega))⟩
    | some i =>
      have h3 := hsch i ho
      have hor : Lib.toLowerA (s.data.toList.take i) = httpW ∨ Lib.toLowerA (s.data.toList.take i) = httpsW ∨ Lib.toLowerA (s.data.toList.take i) = mailtoW := by
        have := h3.symm
        simp only [Bool.or_eq_true, beq_iff_eq] at this
        rcases this with (h | h) | h
        · exact .inl h
        · exact .inr (.inl h)
        · exact .inr (.inr h)
      clear h3
      rcases hor with hv0 | hv0 | hv0
      · have HV3 : Hid (∀ v : ByteArray, v.data.toList = Lib.toLowerA (s.data.toList.take i) → v = ⟨#[104, 116, 116, 112]⟩) := Lib.hid fun v hv => ba_ext (by rw [hv, hv0]; rfl)
        clear hv0
        cases c
        all_goals
          have HT := Lib.hid hT
          clear hs hs0 hm hT hF hnone hsch hb ho hc hmk
          go_enter Tryd.func3, Tryd.ntmps3
          go_wp2_with (first
            | (go_at_call 6; refine HX.out.mono ?_; rintro e w1 ⟨rfl, hb1⟩; have hT1 := HT.out.keep hb1 (Nat.le_refl _))
            | (go_at_call 7; refine (HSC.out _).mono ?_; rintro e w2 ⟨⟨v, rfl, hv⟩, hb2⟩; have hT2 := hT1.keep hb2 (Nat.le_refl _); obtain rfl := HV3.out v hv; clear hv)
            | (go_at_call 8; refine (works_any _ hT2).mono ?_; rintro e w3 ⟨rfl, hb3⟩)
            | (go_at_call 9; refine (HH.out _).mono ?_; rintro e w4 ⟨rfl, rfl⟩))
          all_goals
            go_ret
            exact ⟨rfl, (hb1.trans (hb2.mono hb1.size)).trans (hb3.mono (by have := hb1.size; have := hb2.size; omega))⟩
      · have HV3 : Hid (∀ v : ByteArray, v.data.toList = Lib.toLowerA (s.data.toList.take i) → v = ⟨#[104, 116, 116, 112, 115]⟩) := Lib.hid fun v hv => ba_ext (by rw [hv, hv0]; rfl)
        clear hv0
        cases c
        all_goals
          have HT := Lib.hid hT
          clear hs hs0 hm hT hF hnone hsch hb ho hc hmk
          go_enter Tryd.func3, Tryd.ntmps3
          go_wp2_with (first
            | (go_at_call 6; refine HX.out.mono ?_; rintro e w1 ⟨rfl, hb1⟩; have hT1 := HT.out.keep hb1 (Nat.le_refl _))
            | (go_at_call 7; refine (HSC.out _).mono ?_; rintro e w2 ⟨⟨v, rfl, hv⟩, hb2⟩; have hT2 := hT1.keep hb2 (Nat.le_refl _); obtain rfl := HV3.out v hv; clear hv)
            | (go_at_call 8; refine (works_any _ hT2).mono ?_; rintro e w3 ⟨rfl, hb3⟩)
            | (go_at_call 9; refine (HH.out _).mono ?_; rintro e w4 ⟨rfl, rfl⟩))
          all_goals
            go_ret
            exact ⟨rfl, (hb1.trans (hb2.mono hb1.size)).trans (hb3.mono (by have := hb1.size; have := hb2.size; omega))⟩
      · have HV3 : Hid (∀ v : ByteArray, v.data.toList = Lib.toLowerA (s.data.toList.take i) → v = ⟨#[109, 97, 105, 108, 116, 111]⟩) := Lib.hid fun v hv => ba_ext (by rw [hv, hv0]; rfl)
        clear hv0
        cases c
        all_goals
          have HT := Lib.hid hT
          clear hs hs0 hm hT hF hnone hsch hb ho hc hmk
          go_enter Tryd.func3, Tryd.ntmps3
          go_wp2_with (first
            | (go_at_call 6; refine HX.out.mono ?_; rintro e w1 ⟨rfl, hb1⟩; have hT1 := HT.out.keep hb1 (Nat.le_refl _))
            | (go_at_call 7; refine (HSC.out _).mono ?_; rintro e w2 ⟨⟨v, rfl, hv⟩, hb2⟩; have hT2 := hT1.keep hb2 (Nat.le_refl _); obtain rfl := HV3.out v hv; clear hv)
            | (go_at_call 8; refine (works_any _ hT2).mono ?_; rintro e w3 ⟨rfl, hb3⟩)
            | (go_at_call 9; refine (HH.out _).mono ?_; rintro e w4 ⟨rfl, rfl⟩))
          all_goals
            go_ret
            exact ⟨rfl, (hb1.trans (hb2.mono hb1.size)).trans (hb3.mono (by have := hb1.size; have := hb2.size; omega))⟩

/-! ### the row -/
theorem tabs {W : World} (hL : laidMetH Tryd.prog Rows.fnFilteredRow.laid W) : Tabs W := tabs_of hL (by kernel_rfl) (List.mem_of_getElem? (i := 7) (by kernel_rfl)) (List.mem_of_getElem? (i := 3) (by kernel_rfl))
theorem foldOk {W : World} (hL : laidMetH Tryd.prog Rows.fnFilteredRow.laid W) : FoldOk W := foldOk_of (foldtab_of hL (by kernel_rfl) (List.mem_of_getElem? (i := 4) (by kernel_rfl)) (List.mem_of_getElem? (i := 5) (by kernel_rfl)))

set_option maxRecDepth 100000 in
theorem contract (H : Type) (enc : TypeId × Value → H) (W : World) (base : Nat) (args : Array Value) (ds gs : List (DataW H)) (before : List MemPlace)
    (hval : ∀ (j : Nat) t v, Tryd.f3.params[j]? = some t → args[j]? = some v → Value.okWide Tryd.prog W .any base t v)
    (hW : DataW.Whole enc Tryd.prog Tryd.f3.params.toList Rows.fnFilteredSpec.vars false W args.toList ds gs before) (hL : laidMetH Tryd.prog Rows.fnFilteredRow.laid W) :
    Calls Tryd.prog 3 args W fun e W' => ∃ v, e = .returned v ∧ Rows.fnFilteredSpec.post enc Tryd.prog Tryd.f3 false true false false W args v W' := by
  have hW' := hW
  obtain ⟨p, q, hA0, hV, rfl, hfz, hnd⟩ := hW
  have hA : DataW.TrodAll enc Tryd.prog W 0 (fun _ => true) true Tryd.f3.params.toList args.toList ds p := hA0
  rw [Tryd.params3] at hA hval
  obtain ⟨v0, vs0, d0, ds0, p0, q0, hargs, rfl, rfl, h0, r0⟩ := trodAll_cons hA
  obtain ⟨rfl, rfl, rfl⟩ := trodAll_nil r0
  obtain rfl : args = #[v0] := by cases args; simp_all
  obtain ⟨rfl, rfl⟩ := trodVars_none hV
  obtain ⟨a0, rfl, rfl, rfl, w0⟩ := open_string Tryd.underlying9 (hval 0 9 v0 rfl rfl) h0
  clear hA0
  simp only [List.append_nil] at hW'
  refine (walk a0 W w0 (tabs hL) (foldOk hL)).mono fun e W' ⟨he, bel⟩ => ?_
  subst he
  exact ⟨_, rfl, _, _, _, [], [], [], hW', trodAll_mk1 (shut_bool Tryd.underlying4 _), trodAll_cons_mk (shut_string Tryd.underlying9 w0) trodAll_mk0, rfl, bel.frame _, fun h => by cases h⟩

noncomputable def laidWorld (os : Os) : World :=
  { World.holding Tryd.prog os ⟨#[], #[], []⟩ with heap := layOne (layCase 101 (laySlice 86 (layOne (layOne (layOne (layOne (layOne ((World.holding Tryd.prog os ⟨#[], #[], []⟩).heap) 7 Rows.laid_math_bits_deBruijn32tab) 8 Rows.laid_math_bits_deBruijn64tab) 6 Rows.laid_internal_strconv_uint64pow10) 4 Rows.laid_unicode_utf8_acceptRanges) 0 Rows.laid_unicode_asciiFold) 1 Rows.laid_unicode_caseOrbit) 2) 3 Rows.laid_unicode_utf8_first }
theorem laid_met (os : Os) : laidMet Tryd.prog Rows.fnFilteredRow.laid ((laidWorld os).forCall (fun _ _ => 0) ⟨#[], #[Value.string ByteArray.empty], []⟩).memory := by
  have h := laidMet_with_case (ρ := ren274) rlays274 case206 ⟨by kernel_rfl, by kernel_rfl, by kernel_rfl, by kernel_rfl, by kernel_rfl, by kernel_rfl⟩
    (w := ((laidWorld os).forCall (fun _ _ => 0) ⟨#[], #[Value.string ByteArray.empty], []⟩).memory) (l := [("math/bits.deBruijn32tab", Rows.laid_math_bits_deBruijn32tab), ("math/bits.deBruijn64tab", Rows.laid_math_bits_deBruijn64tab), ("internal/strconv.uint64pow10", Rows.laid_internal_strconv_uint64pow10), ("unicode/utf8.acceptRanges", Rows.laid_unicode_utf8_acceptRanges), ("unicode.asciiFold", Rows.laid_unicode_asciiFold), ("unicode.caseOrbit", Rows.laid_unicode_caseOrbit)] ++ [("unicode/utf8.first", Rows.laid_unicode_utf8_first)])
    10 (by kernel_rfl) (by kernel_rfl) (by kernel_rfl) ((World.settled Tryd.prog default).heap.size + 1) 101 (of_decide_eq_true (by kernel_rfl)) (by kernel_rfl) (by kernel_rfl) (by kernel_rfl)
  have h2 := laid_swap h
  rw [← case_eq] at h2
  exact h2
theorem reads (os : Os) {H : Type} (enc : TypeId × Value → H) : ∃ places, DataW.whole enc Tryd.prog ((laidWorld os).forCall (fun _ _ => 0) ⟨#[], #[Value.string ByteArray.empty], []⟩).memory Tryd.f3.params.toList Rows.fnFilteredSpec.vars false (#[Value.string ByteArray.empty] : Array Value).toList 8 = some ([.lit (.string [])], [], places) :=
  ⟨[], by kernel_rfl⟩

set_option maxRecDepth 100000 in
theorem lifted (os : Os) (started : os.Started) (H : Type) (enc : TypeId × Value → H) (F : Stop.Interp) :
    ReturnsInHanded {} Tryd.checked os 3 .any ((OpenSpec.ofChange Rows.fnFilteredSpec).preRow enc Tryd.prog Tryd.f3 Rows.fnFilteredRow.domain false Rows.fnFilteredRow.laid) (((OpenSpec.ofChange Rows.fnFilteredSpec).at F).post enc Tryd.prog Tryd.f3 false true false false) := by
  obtain ⟨places, hx⟩ := reads os enc
  refine returnsInHanded_of_row (C := Tryd.checked) (s := OpenSpec.ofChange Rows.fnFilteredSpec) own started (by kernel_rfl) Tryd.func3
    (witness_row_atRef (enc := enc) (C := Tryd.checked) false (laidWorld os) #[Value.string ByteArray.empty] rfl (by kernel_rfl) (by kernel_rfl) (by kernel_rfl)
      (OpenSpec.preRow_of_cond 8 hx (by kernel_rfl) (fun k hk => by cases hk) (by kernel_rfl) (laid_met os))) ?_
  intro W base args ds gs before hval hW _ _ _ hL _ _
  exact contract H enc W base args ds gs before hval hW hL

theorem said : Rows.FnFilteredSaid :=
  OpenClaim.holds_of_cond 3 Tryd.f3 rfl rfl rfl rfl rfl rfl rfl ⟨rfl, rfl, rfl, rfl, rfl⟩ rfl rfl rfl rfl rfl (by kernel_rfl) Tryd.func3 (by kernel_rfl)
    (of_decide_eq_true (by kernel_rfl)) (by unfold Func.isWrapper; first | (rw [if_pos (by decide +kernel)]; kernel_rfl) | (rw [if_neg (by decide +kernel)]; exact ⟨rfl, rfl⟩))
    (fun os started H enc _ F => by rw [OpenClaim.pre_eq_preRow]; exact lifted os started H enc F)

theorem plain (f : FuncId) (fn : Func) (hf : Tryd.pinned.checked.prog.funcNamed "htmlescapers/laws.FnFiltered" = some f) (hfn : Tryd.pinned.checked.prog.funcs[f]? = some fn) :
    false = Tryd.pinned.checked.prog.looks [] ∧ ∀ (j : Nat) t, fn.params[j]? = some t → Tryd.pinned.checked.prog.wantsStandIn t = false := by
  obtain rfl : f = 3 := Option.some.inj ((show Tryd.prog.funcNamed "htmlescapers/laws.FnFiltered" = some 3 by kernel_rfl).symm.trans hf) |>.symm
  obtain rfl : fn = Tryd.f3 := (Option.some.inj (Tryd.func3.symm.trans hfn)).symm
  refine ⟨by kernel_rfl, fun j t ht => ?_⟩
  rw [Tryd.params3] at ht
  obtain rfl : t = 9 := by simpa using Array.mem_of_getElem? ht
  exact (show Tryd.prog.wantsStandIn 9 = false by kernel_rfl)

theorem card : Rows.FnFilteredCardSaid :=
  Claim7.holds_tied_plain_at .later [] _ _ _ _ said (fun _ h => by cases h) (by kernel_rfl) (fun _ h => by cases h) fnFiltered_row_tie rfl ⟨rfl, rfl⟩ (by kernel_rfl) rfl plain (by kernel_rfl)
end Go.Proofs.YtolamblmfejhoaaDoor.fnFiltered
namespace Go.Proofs.YtolamblmfejhoaaDoor
theorem fnFiltered_card : Rows.FnFilteredCardSaid := fnFiltered.card
end Go.Proofs.YtolamblmfejhoaaDoor
