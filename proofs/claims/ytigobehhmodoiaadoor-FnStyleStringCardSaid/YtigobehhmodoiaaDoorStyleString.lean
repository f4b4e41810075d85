/-
  A value in a string of CSS is read by the reference as this value again, with either kind of quotes, and it has no marks of HTML and no brackets: the law FnStyleString returns true at every text, whatever memory holds besides.
  Conditions: those of the given row (package-level tables of the package and of Go's library read as laid), which the card ties to the program's text; none of our own.
-/
import Derived.Test.YtigobehhmodoiaaDoorRowKit
import Derived.Test.YtigobehhmodoiaaDoorRowS
import Derived.Test.YtigobehhmodoiaaDoorCssE
namespace Go.Proofs.YtigobehhmodoiaaDoor.fnStyleString
open Go.ChangeShapes Go.WideShapes Go.ChangeAt Go.RowKit
open Go.ChangeMaps (open_string shut_string)
set_option linter.unusedVariables false
set_option linter.unusedSimpArgs false

theorem size_le (s v : ByteArray) (hv : v.data.toList = cssL s.data.toList) (hs : (s.size : Int) ≤ 2147483647) : (v.size : Int) ≤ 17179869184 := by
  have h1 := cssL_le s.data.toList
  have h2 := congrArg List.length hv
  simp at h1 h2
  omega
theorem all_not (e m : Bytes) (F : Nat → Bool) (h : e.all (fun b => F b.toNat) = true) (hm : ∀ x ∈ m, F x.toNat = false) : hasAnyB e m = false := by
  unfold hasAnyB
  rw [List.any_eq_false]
  intro b hb
  rw [List.all_eq_true] at h
  have h1 := h b hb
  unfold hasB
  rw [Bool.not_eq_true, List.any_eq_false]
  intro x hx
  have h2 := hm x hx
  simp only [beq_iff_eq]
  intro h3
  rw [h3] at h2
  rw [h2] at h1; cases h1
theorem read_back (s v : ByteArray) (q : Nat) (hq : q = 34 ∨ q = 39) (w : World) (hv : v.data.toList = cssL s.data.toList) (hs : (s.size : Int) ≤ 2147483647) (hp : validL s.data.toList = true) (h0 : hasB s.data.toList 0 = false) :
    Calls Tryd.prog 18 #[.string v, .int .u8 q] w fun e w' => e = .returned (.tuple #[.string s, .bool true]) ∧ Below w.heap.size w w' := by
  obtain ⟨g1, g2, g3⟩ := css_reads s.data.toList hp h0
  rw [← hv] at g1 g2 g3
  refine (readStyle_ok v q s.data.toList (fun k hk => ?_) g2 g1 w (size_le s v hv hs)).mono ?_
  · rw [List.all_eq_true] at g3
    have := g3 v[k] (mem_get v k hk)
    unfold cssBytes at this
    simp at this
    omega
  · rintro e w2 ⟨⟨x, rfl, hx⟩, hb2⟩
    have hxs : x = s := ba_ext hx
    rw [hxs]
    exact ⟨rfl, hb2⟩
theorem has_no (s v : ByteArray) (w : World) (hv : v.data.toList = cssL s.data.toList) (hs : (s.size : Int) ≤ 2147483647) (hp : validL s.data.toList = true) (h0 : hasB s.data.toList 0 = false) :
    Calls Tryd.prog 20 #[.string v, .string ⟨#[60, 62, 38, 34, 39, 40, 41, 123, 125]⟩] w fun e w' => e = .returned (.bool false) ∧ w = w' := by
  obtain ⟨g1, g2, g3⟩ := css_reads s.data.toList hp h0
  rw [← hv] at g3
  have h := hasAny_any v ⟨#[60, 62, 38, 34, 39, 40, 41, 123, 125]⟩ w (maxLen_of (size_le s v hv hs)) (by decide)
  rw [show hasAnyB v.data.toList (⟨#[60, 62, 38, 34, 39, 40, 41, 123, 125]⟩ : ByteArray).data.toList = false from all_not _ _ cssBytes g3 (by decide)] at h
  exact h
set_option maxRecDepth 100000 in
set_option maxHeartbeats 4000000 in
theorem walk (s : ByteArray) (w : World) (hs : s.size ≤ maxLen) (hT : Tabs w) (hC : CssTab w) :
    Calls Tryd.prog 3 #[.string s] w fun e w' => e = .returned (.bool true) ∧ Below w.heap.size w w' := by
  have hs0 := hs
  unfold maxLen at hs
  by_cases hm : (2147483647 : Int) < s.size
  · go_enter Tryd.func3, Tryd.ntmps3
    go_wp2
    go_ret
    exact ⟨rfl, Below.refl _ _⟩
  · have hm' : decide ((2147483647 : Int) < s.size) = false := by rw [decide_eq_false_iff_not]; exact hm
    have HP := Lib.hid (valid_any s w hs0)
    have HH0 := Lib.hid (has_any s 0 w hs0)
    have HX := Lib.hid (cssString_any s w (by omega) hT hC)
    have HZ : Hid ((s.size : Int) ≤ 2147483647) := Lib.hid (by omega)
    clear hm hs hs0
    cases hp : validL s.data.toList
    · rw [hp] at HP
      clear hp
      go_enter Tryd.func3, Tryd.ntmps3
      go_wp2_with (go_at_call 15; refine HP.out.mono ?_; rintro e w1 ⟨rfl, rfl⟩)
      go_ret
      exact ⟨rfl, Below.refl _ _⟩
    · rw [hp] at HP
      cases h0 : hasB s.data.toList 0
      · rw [h0] at HH0
        have H34 := Lib.hid (fun v w hv => read_back s v 34 (.inl rfl) w hv HZ.out hp h0)
        have H39 := Lib.hid (fun v w hv => read_back s v 39 (.inr rfl) w hv HZ.out hp h0)
        have HH := Lib.hid (fun v w hv => has_no s v w hv HZ.out hp h0)
        have HN : Hid True := Lib.hid trivial
        clear hp h0
        go_enter Tryd.func3, Tryd.ntmps3
        go_wp2_with (first
          | (go_at_call 15; refine HP.out.mono ?_; rintro e w1 ⟨rfl, rfl⟩)
          | (go_at_call 16; refine HH0.out.mono ?_; rintro e w1 ⟨rfl, rfl⟩)
          | (go_at_call 17; refine HX.out.mono ?_; rintro e w1 ⟨⟨v, rfl, hv⟩, hb1⟩; have HV := Lib.hid hv; clear hv; have hT1 := hT.keep hb1 (Nat.le_refl _))
          | (clear HN; go_at_call 18; refine (H34.out v _ HV.out).mono ?_; rintro e w2 ⟨rfl, hb2⟩; have hT2 := hT1.keep hb2 (Nat.le_refl _))
          | (go_at_call 18; refine (H39.out v _ HV.out).mono ?_; rintro e w3 ⟨rfl, hb3⟩; have hT3 := hT2.keep hb3 (Nat.le_refl _))
          | (go_at_call 19; refine (works_any _ hT3).mono ?_; rintro e w5 ⟨rfl, hb5⟩)
          | (go_at_call 20; refine (HH.out v _ HV.out).mono ?_; rintro e w6 ⟨rfl, rfl⟩))
        go_ret
        have s1 := hb1.size
        have s2 := hb2.size
        have s3 := hb3.size
        exact ⟨rfl, ((hb1.trans (hb2.mono s1)).trans (hb3.mono (by omega))).trans (hb5.mono (by omega))⟩
      · rw [h0] at HH0
        clear hp h0
        go_enter Tryd.func3, Tryd.ntmps3
        go_wp2_with (first
          | (go_at_call 15; refine HP.out.mono ?_; rintro e w1 ⟨rfl, rfl⟩)
          | (go_at_call 16; refine HH0.out.mono ?_; rintro e w1 ⟨rfl, rfl⟩))
        go_ret
        exact ⟨rfl, Below.refl _ _⟩

/-! ### the row -/
theorem tabs {W : World} (hL : laidMetH Tryd.prog Rows.fnStyleStringRow.laid W) : Tabs W := tabs_of hL (by kernel_rfl) (List.mem_of_getElem? (i := 5) (by kernel_rfl)) (List.mem_of_getElem? (i := 3) (by kernel_rfl))
theorem ctab {W : World} (hL : laidMetH Tryd.prog Rows.fnStyleStringRow.laid W) : CssTab W := csstab_of hL (by kernel_rfl) (List.mem_of_getElem? (i := 4) (by kernel_rfl))

set_option maxRecDepth 100000 in
theorem contract (H : Type) (enc : TypeId × Value → H) (W : World) (base : Nat) (args : Array Value) (ds gs : List (DataW H)) (before : List MemPlace)
    (hval : ∀ (j : Nat) t v, Tryd.f3.params[j]? = some t → args[j]? = some v → Value.okWide Tryd.prog W .any base t v)
    (hW : DataW.Whole enc Tryd.prog Tryd.f3.params.toList Rows.fnStyleStringSpec.vars false W args.toList ds gs before) (hL : laidMetH Tryd.prog Rows.fnStyleStringRow.laid W) :
    Calls Tryd.prog 3 args W fun e W' => ∃ v, e = .returned v ∧ Rows.fnStyleStringSpec.post enc Tryd.prog Tryd.f3 false true false false W args v W' := by
  have hW' := hW
  obtain ⟨p, q, hA0, hV, rfl, hfz, hnd⟩ := hW
  have hA : DataW.TrodAll enc Tryd.prog W 0 (fun _ => true) true Tryd.f3.params.toList args.toList ds p := hA0
  rw [Tryd.params3] at hA hval
  obtain ⟨v0, vs0, d0, ds0, p0, q0, hargs, rfl, rfl, h0, r0⟩ := trodAll_cons hA
  obtain ⟨rfl, rfl, rfl⟩ := trodAll_nil r0
  obtain rfl : args = #[v0] := by cases args; simp_all
  obtain ⟨rfl, rfl⟩ := trodVars_none hV
  obtain ⟨a0, rfl, rfl, rfl, w0⟩ := open_string Tryd.underlying9 (hval 0 9 v0 rfl rfl) h0
  clear hA0
  simp only [List.append_nil] at hW'
  refine (walk a0 W w0 (tabs hL) (ctab hL)).mono fun e W' ⟨he, bel⟩ => ?_
  subst he
  exact ⟨_, rfl, _, _, _, [], [], [], hW', trodAll_mk1 (shut_bool Tryd.underlying4 _), trodAll_cons_mk (shut_string Tryd.underlying9 w0) trodAll_mk0, rfl, bel.frame _, fun h => by cases h⟩

noncomputable def laidWorld (os : Os) : World :=
  { World.holding Tryd.prog os ⟨#[], #[], []⟩ with heap := layOne (layOne (layOne (layOne (layOne (layOne ((World.holding Tryd.prog os ⟨#[], #[], []⟩).heap) 8 Rows.laid_math_bits_deBruijn32tab) 9 Rows.laid_math_bits_deBruijn64tab) 7 Rows.laid_internal_strconv_uint64pow10) 2 Rows.laid_unicode_utf8_acceptRanges) 0 Rows.laid_htmlescapers_pub_htmltemplate_cssReplacementTable) 1 Rows.laid_unicode_utf8_first }
theorem laid_met (os : Os) : laidMet Tryd.prog Rows.fnStyleStringRow.laid ((laidWorld os).forCall (fun _ _ => 0) ⟨#[], #[Value.string ByteArray.empty], []⟩).memory :=
  laidMet_of_run' 8 (by kernel_rfl) (by kernel_rfl)
theorem reads (os : Os) {H : Type} (enc : TypeId × Value → H) : ∃ places, DataW.whole enc Tryd.prog ((laidWorld os).forCall (fun _ _ => 0) ⟨#[], #[Value.string ByteArray.empty], []⟩).memory Tryd.f3.params.toList Rows.fnStyleStringSpec.vars false (#[Value.string ByteArray.empty] : Array Value).toList 8 = some ([.lit (.string [])], [], places) :=
  ⟨[], by kernel_rfl⟩

set_option maxRecDepth 100000 in
theorem lifted (os : Os) (started : os.Started) (H : Type) (enc : TypeId × Value → H) (F : Stop.Interp) :
    ReturnsInHanded {} Tryd.checked os 3 .any ((OpenSpec.ofChange Rows.fnStyleStringSpec).preRow enc Tryd.prog Tryd.f3 Rows.fnStyleStringRow.domain false Rows.fnStyleStringRow.laid) (((OpenSpec.ofChange Rows.fnStyleStringSpec).at F).post enc Tryd.prog Tryd.f3 false true false false) := by
  obtain ⟨places, hx⟩ := reads os enc
  refine returnsInHanded_of_row (C := Tryd.checked) (s := OpenSpec.ofChange Rows.fnStyleStringSpec) own started (by kernel_rfl) Tryd.func3
    (witness_row_at (enc := enc) (C := Tryd.checked) false (laidWorld os) #[Value.string ByteArray.empty] rfl (by kernel_rfl) (by kernel_rfl) (by kernel_rfl)
      (OpenSpec.preRow_of_cond 8 hx (by kernel_rfl) (fun k hk => by cases hk) (by kernel_rfl) (laid_met os))) ?_
  intro W base args ds gs before hval hW _ _ _ hL _ _
  exact contract H enc W base args ds gs before hval hW hL

theorem said : Rows.FnStyleStringSaid :=
  OpenClaim.holds_of_cond 3 Tryd.f3 rfl rfl rfl rfl rfl rfl rfl ⟨rfl, rfl, rfl, rfl, rfl⟩ rfl rfl rfl rfl rfl (by kernel_rfl) Tryd.func3 (by kernel_rfl)
    (of_decide_eq_true (by kernel_rfl)) (by unfold Func.isWrapper; first | (rw [if_pos (by decide +kernel)]; kernel_rfl) | (rw [if_neg (by decide +kernel)]; exact ⟨rfl, rfl⟩))
    (fun os started H enc _ F => by rw [OpenClaim.pre_eq_preRow]; exact lifted os started H enc F)

theorem plain (f : FuncId) (fn : Func) (hf : Tryd.pinned.checked.prog.funcNamed "htmlescapers/laws.FnStyleString" = some f) (hfn : Tryd.pinned.checked.prog.funcs[f]? = some fn) :
    false = Tryd.pinned.checked.prog.looks [] ∧ ∀ (j : Nat) t, fn.params[j]? = some t → Tryd.pinned.checked.prog.wantsStandIn t = false := by
  obtain rfl : f = 3 := Option.some.inj ((show Tryd.prog.funcNamed "htmlescapers/laws.FnStyleString" = some 3 by kernel_rfl).symm.trans hf) |>.symm
  obtain rfl : fn = Tryd.f3 := (Option.some.inj (Tryd.func3.symm.trans hfn)).symm
  refine ⟨by kernel_rfl, fun j t ht => ?_⟩
  rw [Tryd.params3] at ht
  obtain rfl : t = 9 := by simpa using Array.mem_of_getElem? ht
  exact (show Tryd.prog.wantsStandIn 9 = false by kernel_rfl)

theorem card : Rows.FnStyleStringCardSaid :=
  Claim7.holds_tied_plain_at .later [] _ _ _ _ said (fun _ h => by cases h) (by kernel_rfl) (fun _ h => by cases h) fnStyleString_row_tie rfl ⟨rfl, rfl⟩ (by kernel_rfl) rfl plain (by kernel_rfl)
end Go.Proofs.YtigobehhmodoiaaDoor.fnStyleString
namespace Go.Proofs.YtigobehhmodoiaaDoor
theorem fnStyleString_card : Rows.FnStyleStringCardSaid := fnStyleString.card
end Go.Proofs.YtigobehhmodoiaaDoor
