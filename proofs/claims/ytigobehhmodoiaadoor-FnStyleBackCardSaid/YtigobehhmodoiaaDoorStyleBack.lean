/-
  A value in a string of CSS is decoded by the package to this value: the law FnStyleBack returns true at every text, whatever memory holds besides.
  Conditions: those of the given row (package-level tables of the package and of Go's library read as laid), which the card ties to the program's text; none of our own.
-/
import Derived.Test.YtigobehhmodoiaaDoorRowKit
import Derived.Test.YtigobehhmodoiaaDoorDecD
import Derived.Test.YtigobehhmodoiaaDoorCssE
import Derived.Test.YtigobehhmodoiaaDoorHtmlB
import Derived.Test.YtigobehhmodoiaaDoorRowS
import Derived.Test.YtigobehhmodoiaaDoorLawS
namespace Go.Proofs.YtigobehhmodoiaaDoor.fnStyleBack
open Go.ChangeShapes Go.WideShapes Go.ChangeAt Go.RowKit
open Go.ChangeMaps (open_string shut_string)
set_option linter.unusedVariables false
set_option linter.unusedSimpArgs false

theorem size_le (s v : ByteArray) (hv : v.data.toList = cssL s.data.toList) (hs : (s.size : Int) ≤ 2147483647) : (v.size : Int) ≤ 17179869184 := by
  have h1 := cssL_le s.data.toList
  have h2 := congrArg List.length hv
  simp at h1 h2
  omega
theorem back (s v : ByteArray) (w : World) (hv : v.data.toList = cssL s.data.toList) (hs : (s.size : Int) ≤ 2147483647) (hp : validL s.data.toList = true) (h0 : hasB s.data.toList 0 = false) (hT : Tabs w) :
    Calls Tryd.prog 22 #[.string v] w fun e w' => e = .returned (.string s) ∧ Below w.heap.size w w' := by
  obtain ⟨g1, g2, g3⟩ := css_reads s.data.toList hp h0
  rw [← hv] at g1
  refine (decodeCSS_any v s.data.toList w hT (size_le s v hv hs) g1).mono ?_
  rintro e w2 ⟨⟨x, rfl, hx⟩, hb2⟩
  have hxs : x = s := ba_ext hx
  rw [hxs]
  exact ⟨rfl, hb2⟩
set_option maxRecDepth 100000 in
set_option maxHeartbeats 4000000 in
theorem walk (s : ByteArray) (w : World) (hs : s.size ≤ maxLen) (hT : Tabs w) (hC : CssTab w) :
    Calls Tryd.prog 5 #[.string s] w fun e w' => e = .returned (.bool true) ∧ Below w.heap.size w w' := by
  have hs0 := hs
  unfold maxLen at hs
  by_cases hm : (2147483647 : Int) < s.size
  · go_enter Tryd.func5, Tryd.ntmps5
    go_wp2
    go_ret
    exact ⟨rfl, Below.refl _ _⟩
  · have hm' : decide ((2147483647 : Int) < s.size) = false := by rw [decide_eq_false_iff_not]; exact hm
    have HP := Lib.hid (valid_any s w hs0)
    have HH0 := Lib.hid (has_any s 0 w hs0)
    have HX := Lib.hid (fun w hT hC => cssString_any s w (by omega) hT hC)
    have HZ : Hid ((s.size : Int) ≤ 2147483647) := Lib.hid (by omega)
    clear hm hs hs0
    cases hp : validL s.data.toList
    · rw [hp] at HP
      clear hp
      go_enter Tryd.func5, Tryd.ntmps5
      go_wp2_with (go_at_call 15; refine HP.out.mono ?_; rintro e w1 ⟨rfl, rfl⟩)
      go_ret
      exact ⟨rfl, Below.refl _ _⟩
    · rw [hp] at HP
      cases h0 : hasB s.data.toList 0
      · rw [h0] at HH0
        have HB := Lib.hid (fun v w hv => back s v w hv HZ.out hp h0)
        clear hp h0
        go_enter Tryd.func5, Tryd.ntmps5
        go_wp2_with (first
          | (go_at_call 15; refine HP.out.mono ?_; rintro e w1 ⟨rfl, rfl⟩)
          | (go_at_call 16; refine HH0.out.mono ?_; rintro e w1 ⟨rfl, rfl⟩)
          | (go_at_call 19; refine (works_any _ hT).mono ?_; rintro e w5 ⟨rfl, hb5⟩; have hT5 := hT.keep hb5 (Nat.le_refl _); have hC5 := hC.keep hb5 (Nat.le_refl _))
          | (go_at_call 17; refine (HX.out _ hT5 hC5).mono ?_; rintro e w6 ⟨⟨v, rfl, hv⟩, hb6⟩; have HV := Lib.hid hv; clear hv; have hT6 := hT5.keep hb6 (Nat.le_refl _))
          | (go_at_call 22; refine (HB.out _ _ HV.out hT6).mono ?_; rintro e w7 ⟨rfl, hb7⟩))
        go_ret
        have s1 := hb5.size
        have s2 := hb6.size
        exact ⟨rfl, (hb5.trans (hb6.mono s1)).trans (hb7.mono (by omega))⟩
      · rw [h0] at HH0
        clear hp h0
        go_enter Tryd.func5, Tryd.ntmps5
        go_wp2_with (first
          | (go_at_call 15; refine HP.out.mono ?_; rintro e w1 ⟨rfl, rfl⟩)
          | (go_at_call 16; refine HH0.out.mono ?_; rintro e w1 ⟨rfl, rfl⟩))
        go_ret
        exact ⟨rfl, Below.refl _ _⟩

/-! ### the row -/
theorem tabs {W : World} (hL : laidMetH Tryd.prog Rows.fnStyleBackRow.laid W) : Tabs W := tabs_of hL (by kernel_rfl) (List.mem_of_getElem? (i := 5) (by kernel_rfl)) (List.mem_of_getElem? (i := 3) (by kernel_rfl))
theorem ctab {W : World} (hL : laidMetH Tryd.prog Rows.fnStyleBackRow.laid W) : CssTab W := csstab_of hL (by kernel_rfl) (List.mem_of_getElem? (i := 4) (by kernel_rfl))

set_option maxRecDepth 100000 in
theorem contract (H : Type) (enc : TypeId × Value → H) (W : World) (base : Nat) (args : Array Value) (ds gs : List (DataW H)) (before : List MemPlace)
    (hval : ∀ (j : Nat) t v, Tryd.f5.params[j]? = some t → args[j]? = some v → Value.okWide Tryd.prog W .any base t v)
    (hW : DataW.Whole enc Tryd.prog Tryd.f5.params.toList Rows.fnStyleBackSpec.vars false W args.toList ds gs before) (hL : laidMetH Tryd.prog Rows.fnStyleBackRow.laid W) :
    Calls Tryd.prog 5 args W fun e W' => ∃ v, e = .returned v ∧ Rows.fnStyleBackSpec.post enc Tryd.prog Tryd.f5 false true false false W args v W' := by
  have hW' := hW
  obtain ⟨p, q, hA0, hV, rfl, hfz, hnd⟩ := hW
  have hA : DataW.TrodAll enc Tryd.prog W 0 (fun _ => true) true Tryd.f5.params.toList args.toList ds p := hA0
  rw [Tryd.params5] at hA hval
  obtain ⟨v0, vs0, d0, ds0, p0, q0, hargs, rfl, rfl, h0, r0⟩ := trodAll_cons hA
  obtain ⟨rfl, rfl, rfl⟩ := trodAll_nil r0
  obtain rfl : args = #[v0] := by cases args; simp_all
  obtain ⟨rfl, rfl⟩ := trodVars_none hV
  obtain ⟨a0, rfl, rfl, rfl, w0⟩ := open_string Tryd.underlying9 (hval 0 9 v0 rfl rfl) h0
  clear hA0
  simp only [List.append_nil] at hW'
  refine (walk a0 W w0 (tabs hL) (ctab hL)).mono fun e W' ⟨he, bel⟩ => ?_
  subst he
  exact ⟨_, rfl, _, _, _, [], [], [], hW', trodAll_mk1 (shut_bool Tryd.underlying4 _), trodAll_cons_mk (shut_string Tryd.underlying9 w0) trodAll_mk0, rfl, bel.frame _, fun h => by cases h⟩

noncomputable def laidWorld (os : Os) : World :=
  { World.holding Tryd.prog os ⟨#[], #[], []⟩ with heap := layOne (layOne (layOne (layOne (layOne (layOne ((World.holding Tryd.prog os ⟨#[], #[], []⟩).heap) 8 Rows.laid_math_bits_deBruijn32tab) 9 Rows.laid_math_bits_deBruijn64tab) 7 Rows.laid_internal_strconv_uint64pow10) 2 Rows.laid_unicode_utf8_acceptRanges) 0 Rows.laid_htmlescapers_pub_htmltemplate_cssReplacementTable) 1 Rows.laid_unicode_utf8_first }
theorem laid_met (os : Os) : laidMet Tryd.prog Rows.fnStyleBackRow.laid ((laidWorld os).forCall (fun _ _ => 0) ⟨#[], #[Value.string ByteArray.empty], []⟩).memory :=
  laidMet_of_run' 8 (by kernel_rfl) (by kernel_rfl)
theorem reads (os : Os) {H : Type} (enc : TypeId × Value → H) : ∃ places, DataW.whole enc Tryd.prog ((laidWorld os).forCall (fun _ _ => 0) ⟨#[], #[Value.string ByteArray.empty], []⟩).memory Tryd.f5.params.toList Rows.fnStyleBackSpec.vars false (#[Value.string ByteArray.empty] : Array Value).toList 8 = some ([.lit (.string [])], [], places) :=
  ⟨[], by kernel_rfl⟩

set_option maxRecDepth 100000 in
theorem lifted (os : Os) (started : os.Started) (H : Type) (enc : TypeId × Value → H) (F : Stop.Interp) :
    ReturnsInHanded {} Tryd.checked os 5 .any ((OpenSpec.ofChange Rows.fnStyleBackSpec).preRow enc Tryd.prog Tryd.f5 Rows.fnStyleBackRow.domain false Rows.fnStyleBackRow.laid) (((OpenSpec.ofChange Rows.fnStyleBackSpec).at F).post enc Tryd.prog Tryd.f5 false true false false) := by
  obtain ⟨places, hx⟩ := reads os enc
  refine returnsInHanded_of_row (C := Tryd.checked) (s := OpenSpec.ofChange Rows.fnStyleBackSpec) own started (by kernel_rfl) Tryd.func5
    (witness_row_at (enc := enc) (C := Tryd.checked) false (laidWorld os) #[Value.string ByteArray.empty] rfl (by kernel_rfl) (by kernel_rfl) (by kernel_rfl)
      (OpenSpec.preRow_of_cond 8 hx (by kernel_rfl) (fun k hk => by cases hk) (by kernel_rfl) (laid_met os))) ?_
  intro W base args ds gs before hval hW _ _ _ hL _ _
  exact contract H enc W base args ds gs before hval hW hL

theorem said : Rows.FnStyleBackSaid :=
  OpenClaim.holds_of_cond 5 Tryd.f5 rfl rfl rfl rfl rfl rfl rfl ⟨rfl, rfl, rfl, rfl, rfl⟩ rfl rfl rfl rfl rfl (by kernel_rfl) Tryd.func5 (by kernel_rfl)
    (of_decide_eq_true (by kernel_rfl)) (by unfold Func.isWrapper; first | (rw [if_pos (by decide +kernel)]; kernel_rfl) | (rw [if_neg (by decide +kernel)]; exact ⟨rfl, rfl⟩))
    (fun os started H enc _ F => by rw [OpenClaim.pre_eq_preRow]; exact lifted os started H enc F)

theorem plain (f : FuncId) (fn : Func) (hf : Tryd.pinned.checked.prog.funcNamed "htmlescapers/laws.FnStyleBack" = some f) (hfn : Tryd.pinned.checked.prog.funcs[f]? = some fn) :
    false = Tryd.pinned.checked.prog.looks [] ∧ ∀ (j : Nat) t, fn.params[j]? = some t → Tryd.pinned.checked.prog.wantsStandIn t = false := by
  obtain rfl : f = 5 := Option.some.inj ((show Tryd.prog.funcNamed "htmlescapers/laws.FnStyleBack" = some 5 by kernel_rfl).symm.trans hf) |>.symm
  obtain rfl : fn = Tryd.f5 := (Option.some.inj (Tryd.func5.symm.trans hfn)).symm
  refine ⟨by kernel_rfl, fun j t ht => ?_⟩
  rw [Tryd.params5] at ht
  obtain rfl : t = 9 := by simpa using Array.mem_of_getElem? ht
  exact (show Tryd.prog.wantsStandIn 9 = false by kernel_rfl)

theorem card : Rows.FnStyleBackCardSaid :=
  Claim7.holds_tied_plain_at .later [] _ _ _ _ said (fun _ h => by cases h) (by kernel_rfl) (fun _ h => by cases h) fnStyleBack_row_tie rfl ⟨rfl, rfl⟩ (by kernel_rfl) rfl plain (by kernel_rfl)
end Go.Proofs.YtigobehhmodoiaaDoor.fnStyleBack
namespace Go.Proofs.YtigobehhmodoiaaDoor
theorem fnStyleBack_card : Rows.FnStyleBackCardSaid := fnStyleBack.card
end Go.Proofs.YtigobehhmodoiaaDoor
