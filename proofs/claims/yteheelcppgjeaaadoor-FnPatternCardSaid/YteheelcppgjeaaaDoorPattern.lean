/-
  A value in a regular expression literal of ECMAScript is matched by this value alone, by the reference: the law FnPattern returns true at every text, whatever memory holds besides.
  Conditions: those of the given row (package-level tables of the package and of Go's library read as laid), which the card ties to the program's text; none of our own.
-/
import Derived.Test.YteheelcppgjeaaaDoorRowKit
import Derived.Test.YteheelcppgjeaaaDoorRowC
import Derived.Test.YteheelcppgjeaaaDoorJsC
import Derived.Test.YteheelcppgjeaaaDoorJsE
namespace Go.Proofs.YteheelcppgjeaaaDoor.fnPattern
open Go.ChangeShapes Go.WideShapes Go.ChangeAt Go.RowKit
open Go.ChangeMaps (open_string shut_string)
set_option linter.unusedVariables false
set_option linter.unusedSimpArgs false

theorem size_le (s v : ByteArray) (hv : v.data.toList = rxL s.data.toList) (hs : (s.size : Int) ≤ 2147483647) : (v.size : Int) ≤ 17179869184 := by
  have h1 := jsL_le rxTab rxTab_le s.data.toList
  have h2 := congrArg List.length hv
  unfold rxL at h2
  split at h2
  · simp at h2
    omega
  · simp at h1 h2
    omega
theorem rx_nil (s : ByteArray) (hp : validL s.data.toList = true) (h : jsL rxTab s.data.toList = []) : s = ⟨#[]⟩ := by
  obtain ⟨g1, g2, g3⟩ := good_pat.reads s.data.toList hp
  rw [h] at g1
  exact ba_ext g1.nilo
theorem read_empty (w : World) : Calls Tryd.prog 28 #[.string ⟨#[40, 63, 58, 41]⟩] w fun e w' => e = .returned (.tuple #[.string ⟨#[]⟩, .bool true]) ∧ w = w' := by
  go_enter Tryd.func28, Tryd.ntmps28
  go_wp2_with fail
  go_ret2
  exact ⟨rfl, rfl⟩
theorem read_back (s v : ByteArray) (w : World) (hv : v.data.toList = rxL s.data.toList) (hs : (s.size : Int) ≤ 2147483647) (hp : validL s.data.toList = true) :
    Calls Tryd.prog 28 #[.string v] w fun e w' => e = .returned (.tuple #[.string s, .bool true]) ∧ Below w.heap.size w w' := by
  have hsz := size_le s v hv hs
  by_cases hn : jsL rxTab s.data.toList = []
  · have hse := rx_nil s hp hn
    have hve : v = ⟨#[40, 63, 58, 41]⟩ := ba_ext (by rw [hv]; unfold rxL; rw [if_pos hn])
    rw [hve, hse]
    exact (read_empty w).mono fun e w' h => ⟨h.1, h.2 ▸ Below.refl _ _⟩
  · obtain ⟨g1, g2, g3⟩ := good_pat.reads s.data.toList hp
    have hv' : v.data.toList = jsL rxTab s.data.toList := by rw [hv]; unfold rxL; rw [if_neg hn]
    rw [← hv'] at g1 g2
    refine (readPattern_ok v s.data.toList g1 g2 w hsz).mono ?_
    rintro e w2 ⟨⟨x, rfl, hx⟩, hb2⟩
    have hxs : x = s := ba_ext hx
    rw [hxs]
    exact ⟨rfl, hb2⟩
theorem has_no (s v : ByteArray) (w : World) (hv : v.data.toList = rxL s.data.toList) (hs : (s.size : Int) ≤ 2147483647) (hp : validL s.data.toList = true) :
    Calls Tryd.prog 26 #[.string v, .string ⟨#[60, 62, 38, 34, 39]⟩] w fun e w' => e = .returned (.bool false) ∧ w = w' := by
  obtain ⟨g1, g2, g3⟩ := good_pat.reads s.data.toList hp
  have g4 : v.data.toList.all (fun b => noHtmlQ b.toNat) = true := by
    rw [hv]
    unfold rxL
    split
    · decide
    · exact g3
  have h := hasAny_any v ⟨#[60, 62, 38, 34, 39]⟩ w (maxLen_of (size_le s v hv hs)) (by decide)
  rw [show hasAnyB v.data.toList (⟨#[60, 62, 38, 34, 39]⟩ : ByteArray).data.toList = false from all_not _ _ noHtmlQ g4 (by decide)] at h
  exact h
set_option maxRecDepth 100000 in
set_option maxHeartbeats 4000000 in
theorem walk (s : ByteArray) (w : World) (hs : s.size ≤ maxLen) (hT : Tabs w) (hL : Lows w) :
    Calls Tryd.prog 9 #[.string s] w fun e w' => e = .returned (.bool true) ∧ Below w.heap.size w w' := by
  have hs0 := hs
  unfold maxLen at hs
  by_cases hm : (2147483647 : Int) < s.size
  · go_enter Tryd.func9, Tryd.ntmps9
    go_wp2
    go_ret
    exact ⟨rfl, Below.refl _ _⟩
  · have hm' : decide ((2147483647 : Int) < s.size) = false := by rw [decide_eq_false_iff_not]; exact hm
    have HP := Lib.hid (valid_any s w hs0)
    have HX := Lib.hid (jsRx_any s w (by omega) hT hL)
    have HZ : Hid ((s.size : Int) ≤ 2147483647) := Lib.hid (by omega)
    clear hm hs hs0
    cases hp : validL s.data.toList
    · rw [hp] at HP
      clear hp
      go_enter Tryd.func9, Tryd.ntmps9
      go_wp2_with (go_at_call 23; refine HP.out.mono ?_; rintro e w1 ⟨rfl, rfl⟩)
      go_ret
      exact ⟨rfl, Below.refl _ _⟩
    · rw [hp] at HP
      have HR := Lib.hid (fun v w hv => read_back s v w hv HZ.out hp)
      have HH := Lib.hid (fun v w hv => has_no s v w hv HZ.out hp)
      clear hp
      go_enter Tryd.func9, Tryd.ntmps9
      go_wp2_with (first
        | (go_at_call 23; refine HP.out.mono ?_; rintro e w1 ⟨rfl, rfl⟩)
        | (go_at_call 27; refine HX.out.mono ?_; rintro e w1 ⟨⟨v, rfl, hv⟩, hb1⟩; have HV := Lib.hid hv; clear hv; have hT1 := hT.keep hb1 (Nat.le_refl _))
        | (go_at_call 28; refine (HR.out v _ HV.out).mono ?_; rintro e w2 ⟨rfl, hb2⟩; have hT2 := hT1.keep hb2 (Nat.le_refl _))
        | (go_at_call 18; refine (works_any _ hT2).mono ?_; rintro e w5 ⟨rfl, hb5⟩)
        | (go_at_call 26; refine (HH.out v _ HV.out).mono ?_; rintro e w6 ⟨rfl, rfl⟩))
      go_ret
      have s1 := hb1.size
      have s2 := hb2.size
      exact ⟨rfl, (hb1.trans (hb2.mono s1)).trans (hb5.mono (by omega))⟩

/-! ### the row -/
theorem tabs {W : World} (hL : laidMetH Tryd.prog Rows.fnPatternRow.laid W) : Tabs W := tabs_of hL (by kernel_rfl) (List.mem_of_getElem? (i := 5) (by kernel_rfl)) (List.mem_of_getElem? (i := 3) (by kernel_rfl))
theorem lows {W : World} (hL : laidMetH Tryd.prog Rows.fnPatternRow.laid W) : Lows W := lows_of hL (by kernel_rfl) (List.mem_of_getElem? (i := 4) (by kernel_rfl))

set_option maxRecDepth 100000 in
theorem contract (H : Type) (enc : TypeId × Value → H) (W : World) (base : Nat) (args : Array Value) (ds gs : List (DataW H)) (before : List MemPlace)
    (hval : ∀ (j : Nat) t v, Tryd.f9.params[j]? = some t → args[j]? = some v → Value.okWide Tryd.prog W .any base t v)
    (hW : DataW.Whole enc Tryd.prog Tryd.f9.params.toList Rows.fnPatternSpec.vars false W args.toList ds gs before) (hL : laidMetH Tryd.prog Rows.fnPatternRow.laid W) :
    Calls Tryd.prog 9 args W fun e W' => ∃ v, e = .returned v ∧ Rows.fnPatternSpec.post enc Tryd.prog Tryd.f9 false true false false W args v W' := by
  have hW' := hW
  obtain ⟨p, q, hA0, hV, rfl, hfz, hnd⟩ := hW
  have hA : DataW.TrodAll enc Tryd.prog W 0 (fun _ => true) true Tryd.f9.params.toList args.toList ds p := hA0
  rw [Tryd.params9] at hA hval
  obtain ⟨v0, vs0, d0, ds0, p0, q0, hargs, rfl, rfl, h0, r0⟩ := trodAll_cons hA
  obtain ⟨rfl, rfl, rfl⟩ := trodAll_nil r0
  obtain rfl : args = #[v0] := by cases args; simp_all
  obtain ⟨rfl, rfl⟩ := trodVars_none hV
  obtain ⟨a0, rfl, rfl, rfl, w0⟩ := open_string Tryd.underlying9 (hval 0 9 v0 rfl rfl) h0
  clear hA0
  simp only [List.append_nil] at hW'
  refine (walk a0 W w0 (tabs hL) (lows hL)).mono fun e W' ⟨he, bel⟩ => ?_
  subst he
  exact ⟨_, rfl, _, _, _, [], [], [], hW', trodAll_mk1 (shut_bool Tryd.underlying4 _), trodAll_cons_mk (shut_string Tryd.underlying9 w0) trodAll_mk0, rfl, bel.frame _, fun h => by cases h⟩

noncomputable def laidWorld (os : Os) : World :=
  { World.holding Tryd.prog os ⟨#[], #[], []⟩ with heap := layOne (layOne (layOne (layOne (layOne (layOne ((World.holding Tryd.prog os ⟨#[], #[], []⟩).heap) 8 Rows.laid_math_bits_deBruijn32tab) 9 Rows.laid_math_bits_deBruijn64tab) 7 Rows.laid_internal_strconv_uint64pow10) 3 Rows.laid_unicode_utf8_acceptRanges) 0 Rows.laid_htmlescapers_pub_htmltemplate_lowUnicodeReplacementTable) 2 Rows.laid_unicode_utf8_first }
theorem laid_met (os : Os) : laidMet Tryd.prog Rows.fnPatternRow.laid ((laidWorld os).forCall (fun _ _ => 0) ⟨#[], #[Value.string ByteArray.empty], []⟩).memory :=
  laidMet_of_run' 8 (by kernel_rfl) (by kernel_rfl)
theorem reads (os : Os) {H : Type} (enc : TypeId × Value → H) : ∃ places, DataW.whole enc Tryd.prog ((laidWorld os).forCall (fun _ _ => 0) ⟨#[], #[Value.string ByteArray.empty], []⟩).memory Tryd.f9.params.toList Rows.fnPatternSpec.vars false (#[Value.string ByteArray.empty] : Array Value).toList 8 = some ([.lit (.string [])], [], places) :=
  ⟨[], by kernel_rfl⟩

set_option maxRecDepth 100000 in
theorem lifted (os : Os) (started : os.Started) (H : Type) (enc : TypeId × Value → H) (F : Stop.Interp) :
    ReturnsInHanded {} Tryd.checked os 9 .any ((OpenSpec.ofChange Rows.fnPatternSpec).preRow enc Tryd.prog Tryd.f9 Rows.fnPatternRow.domain false Rows.fnPatternRow.laid) (((OpenSpec.ofChange Rows.fnPatternSpec).at F).post enc Tryd.prog Tryd.f9 false true false false) := by
  obtain ⟨places, hx⟩ := reads os enc
  refine returnsInHanded_of_row (C := Tryd.checked) (s := OpenSpec.ofChange Rows.fnPatternSpec) own started (by kernel_rfl) Tryd.func9
    (witness_row_at (enc := enc) (C := Tryd.checked) false (laidWorld os) #[Value.string ByteArray.empty] rfl (by kernel_rfl) (by kernel_rfl) (by kernel_rfl)
      (OpenSpec.preRow_of_cond 8 hx (by kernel_rfl) (fun k hk => by cases hk) (by kernel_rfl) (laid_met os))) ?_
  intro W base args ds gs before hval hW _ _ _ hL _ _
  exact contract H enc W base args ds gs before hval hW hL

theorem said : Rows.FnPatternSaid :=
  OpenClaim.holds_of_cond 9 Tryd.f9 rfl rfl rfl rfl rfl rfl rfl ⟨rfl, rfl, rfl, rfl, rfl⟩ rfl rfl rfl rfl rfl (by kernel_rfl) Tryd.func9 (by kernel_rfl)
    (of_decide_eq_true (by kernel_rfl)) (by unfold Func.isWrapper; first | (rw [if_pos (by decide +kernel)]; kernel_rfl) | (rw [if_neg (by decide +kernel)]; exact ⟨rfl, rfl⟩))
    (fun os started H enc _ F => by rw [OpenClaim.pre_eq_preRow]; exact lifted os started H enc F)

theorem plain (f : FuncId) (fn : Func) (hf : Tryd.pinned.checked.prog.funcNamed "htmlescapers/laws.FnPattern" = some f) (hfn : Tryd.pinned.checked.prog.funcs[f]? = some fn) :
    false = Tryd.pinned.checked.prog.looks [] ∧ ∀ (j : Nat) t, fn.params[j]? = some t → Tryd.pinned.checked.prog.wantsStandIn t = false := by
  obtain rfl : f = 9 := Option.some.inj ((show Tryd.prog.funcNamed "htmlescapers/laws.FnPattern" = some 9 by kernel_rfl).symm.trans hf) |>.symm
  obtain rfl : fn = Tryd.f9 := (Option.some.inj (Tryd.func9.symm.trans hfn)).symm
  refine ⟨by kernel_rfl, fun j t ht => ?_⟩
  rw [Tryd.params9] at ht
  obtain rfl : t = 9 := by simpa using Array.mem_of_getElem? ht
  exact (show Tryd.prog.wantsStandIn 9 = false by kernel_rfl)

theorem card : Rows.FnPatternCardSaid :=
  Claim7.holds_tied_plain_at .later [] _ _ _ _ said (fun _ h => by cases h) (by kernel_rfl) (fun _ h => by cases h) fnPattern_row_tie rfl ⟨rfl, rfl⟩ (by kernel_rfl) rfl plain (by kernel_rfl)
end Go.Proofs.YteheelcppgjeaaaDoor.fnPattern
namespace Go.Proofs.YteheelcppgjeaaaDoor
theorem fnPattern_card : Rows.FnPatternCardSaid := fnPattern.card
end Go.Proofs.YteheelcppgjeaaaDoor
