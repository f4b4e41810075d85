/-
  A text ends with a word of CSS exactly if its last identifier, in small letters, is this word: the law FnEndsWithWord returns true at every two texts, whatever memory holds besides.
  Conditions: those of the given row (package-level tables of Go's library read as laid), which the card ties to the program's text; none of our own.
-/
import Derived.Test.YtigobehhmodoiaaDoorRowKit
import Derived.Test.YtigobehhmodoiaaDoorEndA
import Derived.Test.YtigobehhmodoiaaDoorFind
import Derived.Test.YtigobehhmodoiaaDoorNmF
import Derived.Test.YtigobehhmodoiaaDoorHtmlB
import Derived.Test.YtigobehhmodoiaaDoorSpN
import Derived.Test.YtigobehhmodoiaaDoorRowL
import Derived.Test.YtigobehhmodoiaaDoorRowEw
namespace Go.Proofs.YtigobehhmodoiaaDoor.fnEndsWithWord
open Go.ChangeShapes Go.WideShapes Go.ChangeAt Go.RowKit
open Go.ChangeMaps (open_string shut_string)
set_option linter.unusedVariables false
set_option linter.unusedSimpArgs false

theorem both (v kw : ByteArray) (h : (v.toList == kw.toList) = false) : ((v.toList = kw.toList) = False) ∧ ((kw.toList = v.toList) = False) ∧ (kw.toList == v.toList) = false := by
  rw [beq_eq_false_iff_ne] at h
  exact ⟨eq_false h, eq_false (fun e => h e.symm), by rw [beq_eq_false_iff_ne]; exact fun e => h e.symm⟩
set_option maxRecDepth 100000 in
set_option maxHeartbeats 4000000 in
theorem walk (s kw : ByteArray) (w : World) (hs : s.size ≤ maxLen) (hk : kw.size ≤ maxLen) (hT : Tabs w) (hV : CaseTab4 w) :
    Calls Tryd.prog 7 #[.string s, .string kw] w fun e w' => e = .returned (.bool true) ∧ Below w.heap.size w w' := by
  unfold maxLen at hs hk
  by_cases hm : (2147483647 : Int) < s.size
  · go_enter Tryd.func7, Tryd.ntmps7
    go_wp2
    go_ret
    exact ⟨rfl, Below.refl _ _⟩
  by_cases hn : (2147483647 : Int) < kw.size
  · go_enter Tryd.func7, Tryd.ntmps7
    go_wp2
    go_ret
    exact ⟨rfl, Below.refl _ _⟩
  have hm' : decide ((2147483647 : Int) < s.size) = false := by rw [decide_eq_false_iff_not]; exact hm
  have hn' : decide ((2147483647 : Int) < kw.size) = false := by rw [decide_eq_false_iff_not]; exact hn
  have HW := Lib.hid (fun w => wordq_any kw w (by unfold maxLen; omega))
  have HLK := Lib.hid (fun w => lowerq_any kw w (by omega))
  have HC1 := Lib.hid (fun w => contains_any s ⟨#[239, 191, 190]⟩ w (by omega) (by decide) (by decide))
  have HC2 := Lib.hid (fun w => contains_any s ⟨#[239, 191, 191]⟩ w (by omega) (by decide) (by decide))
  have HID := Lib.hid (fun w => lastId_any s w (by omega))
  have HLU : Hid (∀ (u : ByteArray) k w, u.data.toList = s.data.toList.drop k → Calls Tryd.prog 27 #[.string u] w fun e w' => RetStr (Lib.toLowerA (s.data.toList.drop k)) e ∧ Below w.heap.size w w') := Lib.hid <| by
    intro u k w hu
    have h1 : u.data.toList.length = u.size := by simp
    have h2 : s.data.toList.length = s.size := by simp
    have := lowerq_any u w (by rw [hu, List.length_drop] at h1; omega)
    rw [hu] at this; exact this
  obtain ⟨wb, hwb⟩ : ∃ b, wordB kw.data.toList = b := ⟨_, rfl⟩
  obtain ⟨c1, hc1⟩ : ∃ b, (idxL (⟨#[239, 191, 190]⟩ : ByteArray).data.toList s.data.toList).isSome = b := ⟨_, rfl⟩
  obtain ⟨c2, hc2⟩ : ∃ b, (idxL (⟨#[239, 191, 191]⟩ : ByteArray).data.toList s.data.toList).isSome = b := ⟨_, rfl⟩
  obtain ⟨lb, hlb⟩ : ∃ b, (Lib.toLowerA kw.data.toList == kw.data.toList) = b := ⟨_, rfl⟩
  have HQ : Hid (∀ v : ByteArray, v.data.toList = Lib.toLowerA kw.data.toList → (v.toList == kw.toList) = lb) := Lib.hid fun v hv => by rw [Lib.toList_data, Lib.toList_data, hv]; exact hlb
  rw [hwb] at HW
  rw [hc1] at HC1
  rw [hc2] at HC2
  cases wb
  · clear hs hk hm hn hwb hc1 hc2 hlb hT hV
    go_enter Tryd.func7, Tryd.ntmps7
    go_wp2_with (go_at_call 25; refine (HW.out _).mono ?_; rintro e w1 ⟨rfl, rfl⟩)
    go_ret
    exact ⟨rfl, Below.refl _ _⟩
  cases lb
  · clear hs hk hm hn hwb hc1 hc2 hlb hT hV
    go_enter Tryd.func7, Tryd.ntmps7
    go_wp2_with (first
      | (go_at_call 25; refine (HW.out _).mono ?_; rintro e w1 ⟨rfl, rfl⟩)
      | (go_at_call 27; refine (HLK.out _).mono ?_; rintro e w1 ⟨⟨v, rfl, hv⟩, hb1⟩; have q0 := HQ.out v hv; obtain ⟨q1, q2, q3⟩ := both v kw q0; clear hv))
    go_ret
    exact ⟨rfl, hb1⟩
  have hall := word_all _ hwb
  have hne := word_ne _ hwb
  have hk0 : 0 < kw.size := by
    rcases Nat.eq_zero_or_pos kw.size with h | h
    · exfalso
      apply hne
      exact List.eq_nil_of_length_eq_zero (by simpa using h)
    · exact h
  have hlow : Lib.toLowerA kw.data.toList = kw.data.toList := by simpa using hlb
  have HQ2 : Hid (∀ v : ByteArray, v.data.toList = Lib.toLowerA kw.data.toList → v = kw) := Lib.hid fun v hv => ba_ext (by rw [hv, hlow])
  have HE0 : Hid (∀ w, Tabs w → CaseTab4 w → Calls Tryd.prog 28 #[.string (s ++ ⟨#[32]⟩ ++ kw), .string kw] w fun e w' => e = .returned (.bool true) ∧ Below w.heap.size w w') := Lib.hid fun w hT hV => by
    have h1 : (s ++ ⟨#[32]⟩ ++ kw).data.toList = s.data.toList ++ [32] ++ kw.data.toList := by simp
    have h2 : (s ++ ⟨#[32]⟩ ++ kw).size = s.size + 1 + kw.size := by
      have e3 : ∀ u : ByteArray, u.data.toList.length = u.size := fun u => by simp
      rw [← e3, h1, List.length_append, List.length_append, e3, e3]
      rfl
    have := endsWord_any (s ++ ⟨#[32]⟩ ++ kw) kw w (by rw [h2]; omega) (by omega) hk0 hT hV
    rw [h1, ends_word _ _ hall hlow] at this
    exact this
  have HE1 : Hid (∀ w, Tabs w → CaseTab4 w → Calls Tryd.prog 28 #[.string s, .string kw] w fun e w' => e = .returned (.bool (endsL s.data.toList kw.data.toList)) ∧ Below w.heap.size w w') := Lib.hid fun w hT hV => endsWord_any s kw w (by omega) (by omega) hk0 hT hV
  cases c1
  · cases c2
    · obtain ⟨eb, heb⟩ : ∃ b, endsL s.data.toList kw.data.toList = b := ⟨_, rfl⟩
      have HLAW : Hid (∀ k (t : ByteArray), IsLast s.data.toList k → t.data.toList = Lib.toLowerA (s.data.toList.drop k) → (t.toList == kw.toList) = eb) := Lib.hid fun k t h ht => by
        rw [Lib.toList_data, Lib.toList_data, ht, ← ends_law s.data.toList kw.data.toList k h hall hc1 hc2, heb]
      rw [heb] at HE1
      have z1 : (9223372036854775807 < s.size + 1) = False := eq_false (by omega)
      have z2 : (9223372036854775807 < s.size + 1 + kw.size) = False := eq_false (by omega)
      have HT := Lib.hid hT
      have HV := Lib.hid hV
      clear hs hk hm hn hwb hc1 hc2 hlb hT hV hall hne hk0 hlow heb
      cases eb
      all_goals
        go_enter Tryd.func7, Tryd.ntmps7
        go_wp2_with (first
          | (go_at_call 25; refine (HW.out _).mono ?_; rintro e w1 ⟨rfl, rfl⟩)
          | (go_at_call 27; refine (HLK.out _).mono ?_; rintro e w1 ⟨⟨v, rfl, hv⟩, hb1⟩; obtain rfl := HQ2.out v hv; have hT1 := HT.out.keep hb1 (Nat.le_refl _); have hV1 := Lib.CaseVar_below HV.out hb1; clear hv HLK)
          | (go_at_call 26; refine (HC1.out _).mono ?_; rintro e w2 ⟨rfl, rfl⟩; clear HC1)
          | (go_at_call 26; refine (HC2.out _).mono ?_; rintro e w2 ⟨rfl, rfl⟩)
          | (go_at_call 19; refine (works_any _ hT1).mono ?_; rintro e w3 ⟨rfl, hb3⟩; have hT3 := hT1.keep hb3 (Nat.le_refl _); have hV3 := Lib.CaseVar_below hV1 hb3)
          | (go_at_call 28; refine (HE0.out _ hT3 hV3).mono ?_; rintro e w4 ⟨rfl, hb4⟩; clear HE0; have hT4 := hT3.keep hb4 (Nat.le_refl _); have hV4 := Lib.CaseVar_below hV3 hb4)
          | (go_at_call 28; refine (HE1.out _ hT4 hV4).mono ?_; rintro e w5 ⟨rfl, hb5⟩)
          | (go_at_call 29; refine (HID.out _).mono ?_; rintro e w6 ⟨⟨u, k, rfl, hu, hlast⟩, rfl⟩; have HU := Lib.hid hu; have HLA := Lib.hid hlast; clear hu hlast)
          | (go_at_call 27; refine (HLU.out _ _ _ HU.out).mono ?_; rintro e w7 ⟨⟨t, rfl, ht⟩, hb7⟩; have q0 := HLAW.out _ t HLA.out ht; clear ht))
        go_ret
        have s1 := hb1.size
        have s3 := hb3.size
        have s4 := hb4.size
        have s5 := hb5.size
        exact ⟨rfl, (((hb1.trans (hb3.mono s1)).trans (hb4.mono (by omega))).trans (hb5.mono (by omega))).trans (hb7.mono (by omega))⟩
    · clear hs hk hm hn hwb hc1 hc2 hlb hT hV hall hne hk0 hlow
      go_enter Tryd.func7, Tryd.ntmps7
      go_wp2_with (first
        | (go_at_call 25; refine (HW.out _).mono ?_; rintro e w1 ⟨rfl, rfl⟩)
        | (go_at_call 27; refine (HLK.out _).mono ?_; rintro e w1 ⟨⟨v, rfl, hv⟩, hb1⟩; obtain rfl := HQ2.out v hv; clear hv)
        | (go_at_call 26; refine (HC1.out _).mono ?_; rintro e w2 ⟨rfl, rfl⟩; clear HC1)
        | (go_at_call 26; refine (HC2.out _).mono ?_; rintro e w2 ⟨rfl, rfl⟩))
      go_ret
      exact ⟨rfl, hb1⟩
  · clear hs hk hm hn hwb hc1 hc2 hlb hT hV hall hne hk0 hlow
    go_enter Tryd.func7, Tryd.ntmps7
    go_wp2_with (first
      | (go_at_call 25; refine (HW.out _).mono ?_; rintro e w1 ⟨rfl, rfl⟩)
      | (go_at_call 27; refine (HLK.out _).mono ?_; rintro e w1 ⟨⟨v, rfl, hv⟩, hb1⟩; obtain rfl := HQ2.out v hv; clear hv)
      | (go_at_call 26; refine (HC1.out _).mono ?_; rintro e w2 ⟨rfl, rfl⟩; clear HC1)
      | (go_at_call 26; refine (HC2.out _).mono ?_; rintro e w2 ⟨rfl, rfl⟩))
    go_ret
    exact ⟨rfl, hb1⟩

/-! ### the row -/
theorem tabs {W : World} (hL : laidMetH Tryd.prog Rows.fnEndsWithWordRow.laid W) : Tabs W := tabs_of hL (by kernel_rfl) (List.mem_of_getElem? (i := 5) (by kernel_rfl)) (List.mem_of_getElem? (i := 3) (by kernel_rfl))
theorem ctab {W : World} (hL : laidMetH Tryd.prog Rows.fnEndsWithWordRow.laid W) : CaseTab4 W := casetab_of hL (by kernel_rfl) (List.mem_of_getElem? (i := 4) (by kernel_rfl))

set_option maxRecDepth 100000 in
theorem contract (H : Type) (enc : TypeId × Value → H) (W : World) (base : Nat) (args : Array Value) (ds gs : List (DataW H)) (before : List MemPlace)
    (hval : ∀ (j : Nat) t v, Tryd.f7.params[j]? = some t → args[j]? = some v → Value.okWide Tryd.prog W .any base t v)
    (hW : DataW.Whole enc Tryd.prog Tryd.f7.params.toList Rows.fnEndsWithWordSpec.vars false W args.toList ds gs before) (hL : laidMetH Tryd.prog Rows.fnEndsWithWordRow.laid W) :
    Calls Tryd.prog 7 args W fun e W' => ∃ v, e = .returned v ∧ Rows.fnEndsWithWordSpec.post enc Tryd.prog Tryd.f7 false true false false W args v W' := by
  have hW' := hW
  obtain ⟨p, q, hA0, hV, rfl, hfz, hnd⟩ := hW
  have hA : DataW.TrodAll enc Tryd.prog W 0 (fun _ => true) true Tryd.f7.params.toList args.toList ds p := hA0
  rw [Tryd.params7] at hA hval
  obtain ⟨v0, vs0, d0, ds0, p0, q0, hargs, rfl, rfl, h0, r0⟩ := trodAll_cons hA
  obtain ⟨v1, vs1, d1, ds1, p1, q1, rfl, rfl, rfl, h1, r1⟩ := trodAll_cons r0
  obtain ⟨rfl, rfl, rfl⟩ := trodAll_nil r1
  obtain rfl : args = #[v0, v1] := by cases args; simp_all
  obtain ⟨rfl, rfl⟩ := trodVars_none hV
  obtain ⟨a0, rfl, rfl, rfl, w0⟩ := open_string Tryd.underlying9 (hval 0 9 v0 rfl rfl) h0
  obtain ⟨a1, rfl, rfl, rfl, w1⟩ := open_string Tryd.underlying9 (hval 1 9 v1 rfl rfl) h1
  clear hA0
  simp only [List.append_nil] at hW'
  refine (walk a0 a1 W w0 w1 (tabs hL) (ctab hL)).mono fun e W' ⟨he, bel⟩ => ?_
  subst he
  exact ⟨_, rfl, _, _, _, [], [], [], hW', trodAll_mk1 (shut_bool Tryd.underlying4 _), trodAll_cons_mk (shut_string Tryd.underlying9 w0) (trodAll_cons_mk (shut_string Tryd.underlying9 w1) trodAll_mk0), rfl, bel.frame _, fun h => by cases h⟩

noncomputable def laidWorld (os : Os) : World :=
  { World.holding Tryd.prog os ⟨#[], #[], []⟩ with heap := layOne (layCase 116 (layOne (layOne (layOne (layOne ((World.holding Tryd.prog os ⟨#[], #[], []⟩).heap) 8 Rows.laid_math_bits_deBruijn32tab) 9 Rows.laid_math_bits_deBruijn64tab) 7 Rows.laid_internal_strconv_uint64pow10) 2 Rows.laid_unicode_utf8_acceptRanges) 4) 1 Rows.laid_unicode_utf8_first }
theorem laid_met (os : Os) : laidMet Tryd.prog Rows.fnEndsWithWordRow.laid ((laidWorld os).forCall (fun _ _ => 0) ⟨#[], #[Value.string ByteArray.empty, Value.string ByteArray.empty], []⟩).memory := by
  have h := laidMet_with_case (ρ := Tryd.lays262_ren) { Tryd.lays262 with } Tryd.lays262.t206 ⟨by kernel_rfl, by kernel_rfl, by kernel_rfl, by kernel_rfl, by kernel_rfl, by kernel_rfl⟩
    (w := ((laidWorld os).forCall (fun _ _ => 0) ⟨#[], #[Value.string ByteArray.empty, Value.string ByteArray.empty], []⟩).memory) (l := [("math/bits.deBruijn32tab", Rows.laid_math_bits_deBruijn32tab), ("math/bits.deBruijn64tab", Rows.laid_math_bits_deBruijn64tab), ("internal/strconv.uint64pow10", Rows.laid_internal_strconv_uint64pow10), ("unicode/utf8.acceptRanges", Rows.laid_unicode_utf8_acceptRanges)] ++ [("unicode/utf8.first", Rows.laid_unicode_utf8_first)])
    10 (by kernel_rfl) (by kernel_rfl) (by kernel_rfl) ((World.settled Tryd.prog default).heap.size + 0) 116 (of_decide_eq_true (by kernel_rfl)) (by kernel_rfl) (by kernel_rfl) (by kernel_rfl)
  have h2 := laid_swap h
  rw [← case_eq] at h2
  exact h2
theorem reads (os : Os) {H : Type} (enc : TypeId × Value → H) : ∃ places, DataW.whole enc Tryd.prog ((laidWorld os).forCall (fun _ _ => 0) ⟨#[], #[Value.string ByteArray.empty, Value.string ByteArray.empty], []⟩).memory Tryd.f7.params.toList Rows.fnEndsWithWordSpec.vars false (#[Value.string ByteArray.empty, Value.string ByteArray.empty] : Array Value).toList 8 = some ([.lit (.string []), .lit (.string [])], [], places) :=
  ⟨[], by kernel_rfl⟩

set_option maxRecDepth 100000 in
theorem lifted (os : Os) (started : os.Started) (H : Type) (enc : TypeId × Value → H) (F : Stop.Interp) :
    ReturnsInHanded {} Tryd.checked os 7 .any ((OpenSpec.ofChange Rows.fnEndsWithWordSpec).preRow enc Tryd.prog Tryd.f7 Rows.fnEndsWithWordRow.domain false Rows.fnEndsWithWordRow.laid) (((OpenSpec.ofChange Rows.fnEndsWithWordSpec).at F).post enc Tryd.prog Tryd.f7 false true false false) := by
  obtain ⟨places, hx⟩ := reads os enc
  refine returnsInHanded_of_row (C := Tryd.checked) (s := OpenSpec.ofChange Rows.fnEndsWithWordSpec) own started (by kernel_rfl) Tryd.func7
    (witness_row_atRef (enc := enc) (C := Tryd.checked) false (laidWorld os) #[Value.string ByteArray.empty, Value.string ByteArray.empty] rfl (by kernel_rfl) (by kernel_rfl) (by kernel_rfl)
      (OpenSpec.preRow_of_cond 8 hx (by kernel_rfl) (fun k hk => by cases hk) (by kernel_rfl) (laid_met os))) ?_
  intro W base args ds gs before hval hW _ _ _ hL _ _
  exact contract H enc W base args ds gs before hval hW hL

theorem said : Rows.FnEndsWithWordSaid :=
  OpenClaim.holds_of_cond 7 Tryd.f7 rfl rfl rfl rfl rfl rfl rfl ⟨rfl, rfl, rfl, rfl, rfl⟩ rfl rfl rfl rfl rfl (by kernel_rfl) Tryd.func7 (by kernel_rfl)
    (of_decide_eq_true (by kernel_rfl)) (by unfold Func.isWrapper; first | (rw [if_pos (by decide +kernel)]; kernel_rfl) | (rw [if_neg (by decide +kernel)]; exact ⟨rfl, rfl⟩))
    (fun os started H enc _ F => by rw [OpenClaim.pre_eq_preRow]; exact lifted os started H enc F)

theorem plain (f : FuncId) (fn : Func) (hf : Tryd.pinned.checked.prog.funcNamed "htmlescapers/laws.FnEndsWithWord" = some f) (hfn : Tryd.pinned.checked.prog.funcs[f]? = some fn) :
    false = Tryd.pinned.checked.prog.looks [] ∧ ∀ (j : Nat) t, fn.params[j]? = some t → Tryd.pinned.checked.prog.wantsStandIn t = false := by
  obtain rfl : f = 7 := Option.some.inj ((show Tryd.prog.funcNamed "htmlescapers/laws.FnEndsWithWord" = some 7 by kernel_rfl).symm.trans hf) |>.symm
  obtain rfl : fn = Tryd.f7 := (Option.some.inj (Tryd.func7.symm.trans hfn)).symm
  refine ⟨by kernel_rfl, fun j t ht => ?_⟩
  rw [Tryd.params7] at ht
  obtain rfl : t = 9 := by simpa using Array.mem_of_getElem? ht
  exact (show Tryd.prog.wantsStandIn 9 = false by kernel_rfl)

theorem card : Rows.FnEndsWithWordCardSaid :=
  Claim7.holds_tied_plain_at .later [] _ _ _ _ said (fun _ h => by cases h) (by kernel_rfl) (fun _ h => by cases h) fnEndsWithWord_row_tie rfl ⟨rfl, rfl⟩ (by kernel_rfl) rfl plain (by kernel_rfl)
end Go.Proofs.YtigobehhmodoiaaDoor.fnEndsWithWord
namespace Go.Proofs.YtigobehhmodoiaaDoor
theorem fnEndsWithWord_card : Rows.FnEndsWithWordCardSaid := fnEndsWithWord.card
end Go.Proofs.YtigobehhmodoiaaDoor
