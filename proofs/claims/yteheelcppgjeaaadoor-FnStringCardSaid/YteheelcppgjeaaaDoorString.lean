/-
  A value in a string literal of ECMAScript is read by the reference as this value again, with either kind of quotes, and it is itself in an attribute value: the law FnString returns true at every text, whatever memory holds besides.
  Conditions: those of the given row (package-level tables of the package and of Go's library read as laid), which the card ties to the program's text; none of our own.
-/
import Derived.Test.YteheelcppgjeaaaDoorRowKit
import Derived.Test.YteheelcppgjeaaaDoorRowC
import Derived.Test.YteheelcppgjeaaaDoorJsC
import Derived.Test.YteheelcppgjeaaaDoorJsE
namespace Go.Proofs.YteheelcppgjeaaaDoor.fnString
open Go.ChangeShapes Go.WideShapes Go.ChangeAt Go.RowKit
open Go.ChangeMaps (open_string shut_string)
set_option linter.unusedVariables false
set_option linter.unusedSimpArgs false

theorem size_le (s v : ByteArray) (hv : v.data.toList = jsL strTab s.data.toList) (hs : (s.size : Int) ≤ 2147483647) : (v.size : Int) ≤ 17179869184 := by
  have h1 := jsL_le strTab strTab_le s.data.toList
  have h2 := congrArg List.length hv
  simp at h1 h2
  omega
theorem read_str (s v : ByteArray) (q : Nat) (hq : q = 34 ∨ q = 39) (w : World) (hv : v.data.toList = jsL strTab s.data.toList) (hs : (s.size : Int) ≤ 2147483647) (hp : validL s.data.toList = true) :
    Calls Tryd.prog 30 #[.string v, .int .u8 q] w fun e w' => e = .returned (.tuple #[.string s, .bool true]) ∧ Below w.heap.size w w' := by
  obtain ⟨g1, g2, g3⟩ := (good_str q hq).reads s.data.toList hp
  rw [← hv] at g1 g2
  refine (readString_ok v q s.data.toList g1 g2 w (size_le s v hv hs)).mono ?_
  rintro e w2 ⟨⟨x, rfl, hx⟩, hb2⟩
  have hxs : x = s := ba_ext hx
  rw [hxs]
  exact ⟨rfl, hb2⟩
theorem read_quo (s v : ByteArray) (w : World) (hv : v.data.toList = jsL strTab s.data.toList) (hs : (s.size : Int) ≤ 2147483647) (hp : validL s.data.toList = true) :
    Calls Tryd.prog 20 #[.string v, .int .u8 34] w fun e w' => e = .returned (.tuple #[.string v, .bool true]) ∧ Below w.heap.size w w' := by
  obtain ⟨g1, g2, g3⟩ := (good_str 34 (.inl rfl)).reads s.data.toList hp
  rw [← hv] at g2 g3
  refine (readQuoted_any v 34 w (size_le s v hv hs)).mono ?_
  rintro e w2 ⟨hv2, hb2⟩
  rw [str_quoted v.data.toList g2 g3] at hv2
  obtain ⟨x, rfl, hx⟩ := hv2
  have hxs : x = v := ba_ext hx
  rw [hxs]
  exact ⟨rfl, hb2⟩
theorem has_no (s v : ByteArray) (w : World) (hv : v.data.toList = jsL strTab s.data.toList) (hs : (s.size : Int) ≤ 2147483647) (hp : validL s.data.toList = true) :
    Calls Tryd.prog 26 #[.string v, .string ⟨#[60, 62, 38]⟩] w fun e w' => e = .returned (.bool false) ∧ w = w' := by
  obtain ⟨g1, g2, g3⟩ := (good_str 34 (.inl rfl)).reads s.data.toList hp
  rw [← hv] at g3
  have h := hasAny_any v ⟨#[60, 62, 38]⟩ w (maxLen_of (size_le s v hv hs)) (by decide)
  rw [show hasAnyB v.data.toList (⟨#[60, 62, 38]⟩ : ByteArray).data.toList = false from all_not _ _ noStr g3 (by decide)] at h
  exact h
set_option maxRecDepth 100000 in
set_option maxHeartbeats 4000000 in
theorem walk (s : ByteArray) (w : World) (hs : s.size ≤ maxLen) (hT : Tabs w) (hL : Lows w) :
    Calls Tryd.prog 10 #[.string s] w fun e w' => e = .returned (.bool true) ∧ Below w.heap.size w w' := by
  have hs0 := hs
  unfold maxLen at hs
  by_cases hm : (2147483647 : Int) < s.size
  · go_enter Tryd.func10, Tryd.ntmps10
    go_wp2
    go_ret
    exact ⟨rfl, Below.refl _ _⟩
  · have hm' : decide ((2147483647 : Int) < s.size) = false := by rw [decide_eq_false_iff_not]; exact hm
    have HP := Lib.hid (valid_any s w hs0)
    have HX := Lib.hid (jsString_any s w (by omega) hT hL)
    have HZ : Hid ((s.size : Int) ≤ 2147483647) := Lib.hid (by omega)
    clear hm hs hs0
    cases hp : validL s.data.toList
    · rw [hp] at HP
      clear hp
      go_enter Tryd.func10, Tryd.ntmps10
      go_wp2_with (go_at_call 23; refine HP.out.mono ?_; rintro e w1 ⟨rfl, rfl⟩)
      go_ret
      exact ⟨rfl, Below.refl _ _⟩
    · rw [hp] at HP
      have H34 := Lib.hid (fun v w hv => read_str s v 34 (.inl rfl) w hv HZ.out hp)
      have H39 := Lib.hid (fun v w hv => read_str s v 39 (.inr rfl) w hv HZ.out hp)
      have HQ := Lib.hid (fun v w hv => read_quo s v w hv HZ.out hp)
      have HH := Lib.hid (fun v w hv => has_no s v w hv HZ.out hp)
      have HN : Hid True := Lib.hid trivial
      clear hp
      go_enter Tryd.func10, Tryd.ntmps10
      go_wp2_with (first
        | (go_at_call 23; refine HP.out.mono ?_; rintro e w1 ⟨rfl, rfl⟩)
        | (go_at_call 29; refine HX.out.mono ?_; rintro e w1 ⟨⟨v, rfl, hv⟩, hb1⟩; have HV := Lib.hid hv; clear hv; have hT1 := hT.keep hb1 (Nat.le_refl _))
        | (clear HN; go_at_call 30; refine (H34.out v _ HV.out).mono ?_; rintro e w2 ⟨rfl, hb2⟩; have hT2 := hT1.keep hb2 (Nat.le_refl _))
        | (go_at_call 30; refine (H39.out v _ HV.out).mono ?_; rintro e w3 ⟨rfl, hb3⟩; have hT3 := hT2.keep hb3 (Nat.le_refl _))
        | (go_at_call 20; refine (HQ.out v _ HV.out).mono ?_; rintro e w4 ⟨rfl, hb4⟩; have hT4 := hT3.keep hb4 (Nat.le_refl _))
        | (go_at_call 18; refine (works_any _ hT4).mono ?_; rintro e w5 ⟨rfl, hb5⟩)
        | (go_at_call 26; refine (HH.out v _ HV.out).mono ?_; rintro e w6 ⟨rfl, rfl⟩))
      go_ret
      have s1 := hb1.size
      have s2 := hb2.size
      have s3 := hb3.size
      have s4 := hb4.size
      exact ⟨rfl, (((hb1.trans (hb2.mono s1)).trans (hb3.mono (by omega))).trans (hb4.mono (by omega))).trans (hb5.mono (by omega))⟩

/-! ### the row -/
theorem tabs {W : World} (hL : laidMetH Tryd.prog Rows.fnStringRow.laid W) : Tabs W := tabs_of hL (by kernel_rfl) (List.mem_of_getElem? (i := 5) (by kernel_rfl)) (List.mem_of_getElem? (i := 3) (by kernel_rfl))
theorem lows {W : World} (hL : laidMetH Tryd.prog Rows.fnStringRow.laid W) : Lows W := lows_of hL (by kernel_rfl) (List.mem_of_getElem? (i := 4) (by kernel_rfl))

set_option maxRecDepth 100000 in
theorem contract (H : Type) (enc : TypeId × Value → H) (W : World) (base : Nat) (args : Array Value) (ds gs : List (DataW H)) (before : List MemPlace)
    (hval : ∀ (j : Nat) t v, Tryd.f10.params[j]? = some t → args[j]? = some v → Value.okWide Tryd.prog W .any base t v)
    (hW : DataW.Whole enc Tryd.prog Tryd.f10.params.toList Rows.fnStringSpec.vars false W args.toList ds gs before) (hL : laidMetH Tryd.prog Rows.fnStringRow.laid W) :
    Calls Tryd.prog 10 args W fun e W' => ∃ v, e = .returned v ∧ Rows.fnStringSpec.post enc Tryd.prog Tryd.f10 false true false false W args v W' := by
  have hW' := hW
  obtain ⟨p, q, hA0, hV, rfl, hfz, hnd⟩ := hW
  have hA : DataW.TrodAll enc Tryd.prog W 0 (fun _ => true) true Tryd.f10.params.toList args.toList ds p := hA0
  rw [Tryd.params10] at hA hval
  obtain ⟨v0, vs0, d0, ds0, p0, q0, hargs, rfl, rfl, h0, r0⟩ := trodAll_cons hA
  obtain ⟨rfl, rfl, rfl⟩ := trodAll_nil r0
  obtain rfl : args = #[v0] := by cases args; simp_all
  obtain ⟨rfl, rfl⟩ := trodVars_none hV
  obtain ⟨a0, rfl, rfl, rfl, w0⟩ := open_string Tryd.underlying9 (hval 0 9 v0 rfl rfl) h0
  clear hA0
  simp only [List.append_nil] at hW'
  refine (walk a0 W w0 (tabs hL) (lows hL)).mono fun e W' ⟨he, bel⟩ => ?_
  subst he
  exact ⟨_, rfl, _, _, _, [], [], [], hW', trodAll_mk1 (shut_bool Tryd.underlying4 _), trodAll_cons_mk (shut_string Tryd.underlying9 w0) trodAll_mk0, rfl, bel.frame _, fun h => by cases h⟩

noncomputable def laidWorld (os : Os) : World :=
  { World.holding Tryd.prog os ⟨#[], #[], []⟩ with heap := layOne (layOne (layOne (layOne (layOne (layOne ((World.holding Tryd.prog os ⟨#[], #[], []⟩).heap) 8 Rows.laid_math_bits_deBruijn32tab) 9 Rows.laid_math_bits_deBruijn64tab) 7 Rows.laid_internal_strconv_uint64pow10) 3 Rows.laid_unicode_utf8_acceptRanges) 0 Rows.laid_htmlescapers_pub_htmltemplate_lowUnicodeReplacementTable) 2 Rows.laid_unicode_utf8_first }
theorem laid_met (os : Os) : laidMet Tryd.prog Rows.fnStringRow.laid ((laidWorld os).forCall (fun _ _ => 0) ⟨#[], #[Value.string ByteArray.empty], []⟩).memory :=
  laidMet_of_run' 8 (by kernel_rfl) (by kernel_rfl)
theorem reads (os : Os) {H : Type} (enc : TypeId × Value → H) : ∃ places, DataW.whole enc Tryd.prog ((laidWorld os).forCall (fun _ _ => 0) ⟨#[], #[Value.string ByteArray.empty], []⟩).memory Tryd.f10.params.toList Rows.fnStringSpec.vars false (#[Value.string ByteArray.empty] : Array Value).toList 8 = some ([.lit (.string [])], [], places) :=
  ⟨[], by kernel_rfl⟩

set_option maxRecDepth 100000 in
theorem lifted (os : Os) (started : os.Started) (H : Type) (enc : TypeId × Value → H) (F : Stop.Interp) :
    ReturnsInHanded {} Tryd.checked os 10 .any ((OpenSpec.ofChange Rows.fnStringSpec).preRow enc Tryd.prog Tryd.f10 Rows.fnStringRow.domain false Rows.fnStringRow.laid) (((OpenSpec.ofChange Rows.fnStringSpec).at F).post enc Tryd.prog Tryd.f10 false true false false) := by
  obtain ⟨places, hx⟩ := reads os enc
  refine returnsInHanded_of_row (C := Tryd.checked) (s := OpenSpec.ofChange Rows.fnStringSpec) own started (by kernel_rfl) Tryd.func10
    (witness_row_at (enc := enc) (C := Tryd.checked) false (laidWorld os) #[Value.string ByteArray.empty] rfl (by kernel_rfl) (by kernel_rfl) (by kernel_rfl)
      (OpenSpec.preRow_of_cond 8 hx (by kernel_rfl) (fun k hk => by cases hk) (by kernel_rfl) (laid_met os))) ?_
  intro W base args ds gs before hval hW _ _ _ hL _ _
  exact contract H enc W base args ds gs before hval hW hL

theorem said : Rows.FnStringSaid :=
  OpenClaim.holds_of_cond 10 Tryd.f10 rfl rfl rfl rfl rfl rfl rfl ⟨rfl, rfl, rfl, rfl, rfl⟩ rfl rfl rfl rfl rfl (by kernel_rfl) Tryd.func10 (by kernel_rfl)
    (of_decide_eq_true (by kernel_rfl)) (by unfold Func.isWrapper; first | (rw [if_pos (by decide +kernel)]; kernel_rfl) | (rw [if_neg (by decide +kernel)]; exact ⟨rfl, rfl⟩))
    (fun os started H enc _ F => by rw [OpenClaim.pre_eq_preRow]; exact lifted os started H enc F)

theorem plain (f : FuncId) (fn : Func) (hf : Tryd.pinned.checked.prog.funcNamed "htmlescapers/laws.FnString" = some f) (hfn : Tryd.pinned.checked.prog.funcs[f]? = some fn) :
    false = Tryd.pinned.checked.prog.looks [] ∧ ∀ (j : Nat) t, fn.params[j]? = some t → Tryd.pinned.checked.prog.wantsStandIn t = false := by
  obtain rfl : f = 10 := Option.some.inj ((show Tryd.prog.funcNamed "htmlescapers/laws.FnString" = some 10 by kernel_rfl).symm.trans hf) |>.symm
  obtain rfl : fn = Tryd.f10 := (Option.some.inj (Tryd.func10.symm.trans hfn)).symm
  refine ⟨by kernel_rfl, fun j t ht => ?_⟩
  rw [Tryd.params10] at ht
  obtain rfl : t = 9 := by simpa using Array.mem_of_getElem? ht
  exact (show Tryd.prog.wantsStandIn 9 = false by kernel_rfl)

theorem card : Rows.FnStringCardSaid :=
  Claim7.holds_tied_plain_at .later [] _ _ _ _ said (fun _ h => by cases h) (by kernel_rfl) (fun _ h => by cases h) fnString_row_tie rfl ⟨rfl, rfl⟩ (by kernel_rfl) rfl plain (by kernel_rfl)
end Go.Proofs.YteheelcppgjeaaaDoor.fnString
namespace Go.Proofs.YteheelcppgjeaaaDoor
theorem fnString_card : Rows.FnStringCardSaid := fnString.card
end Go.Proofs.YteheelcppgjeaaaDoor
