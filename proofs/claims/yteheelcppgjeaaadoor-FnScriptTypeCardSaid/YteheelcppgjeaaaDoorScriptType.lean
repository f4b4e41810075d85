/-
  The JavaScript MIME types of the standards are those of scripts, in any case of letters and with parameters; those of templates and texts are not: the law FnScriptType returns true at every text, whatever memory holds besides.
  Conditions: those of the given row (package-level tables of Go's library read as laid), which the card ties to the program's text; none of our own.
-/
import Derived.Test.YteheelcppgjeaaaDoorRowKit
import Derived.Test.YteheelcppgjeaaaDoorMime
import Derived.Test.YteheelcppgjeaaaDoorRowL
namespace Go.Proofs.YteheelcppgjeaaaDoor.fnScriptType
open Go.ChangeShapes Go.WideShapes Go.ChangeAt Go.RowKit
open Go.ChangeMaps (open_string shut_string)
set_option linter.unusedVariables false
set_option linter.unusedSimpArgs false

theorem spaces_of {l : List (String × DataW Unit)} {W : World} (h : laidMetH Tryd.prog l W) (hn : (l.all fun x => x.2.handleName?.isNone) = true)
    (hm : ("strings.asciiSpace", Rows.laid_strings_asciiSpace) ∈ l) : Spaces W := by
  have h' : laidMet Tryd.prog l W := Go.MakeChecks.laidMetH_plain Tryd.prog l W hn ▸ h
  have hr := Lib.laidMet.reads h' hm
  have e : (Rows.laid_strings_asciiSpace : DataW Unit) = Lib.tabData .u8 Lib.asciiSpaceTab := by kernel_rfl
  rw [e] at hr
  obtain ⟨g', t', cs, fuel, p, hg', ht', hvar, hd⟩ := hr
  have hg : Tryd.prog.globalNamed "strings.asciiSpace" = some 1 := by kernel_rfl
  obtain rfl := Option.some.inj (hg.symm.trans hg')
  have hty : (Tryd.prog.globals[1]?).map (·.type) = some 96 := by kernel_rfl
  obtain rfl := Option.some.inj (hty.symm.trans ht')
  have hcs := Lib.cells_of_tab (n := 256) (e := 5) (by kernel_rfl) (by kernel_rfl) (by kernel_rfl) (by kernel_rfl) hd
  unfold Spaces Lib.TabIs
  rw [hvar, ← hcs]
set_option maxRecDepth 100000 in
set_option maxHeartbeats 4000000 in
theorem walk (s : ByteArray) (w : World) (hs : s.size ≤ maxLen) (hT : Tabs w) (hP : Spaces w) :
    Calls Tryd.prog 12 #[.string s] w fun e w' => e = .returned (.bool true) ∧ Below w.heap.size w w' := by
  unfold maxLen at hs
  by_cases hm : (2147483647 : Int) < s.size
  · go_enter Tryd.func12, Tryd.ntmps12
    go_wp2
    go_ret
    exact ⟨rfl, Below.refl _ _⟩
  have hm' : decide ((2147483647 : Int) < s.size) = false := by rw [decide_eq_false_iff_not]; exact hm
  have HJ := Lib.hid (fun w => javaScript_any s w (by omega))
  cases hj : isMime s.data.toList
  · rw [hj] at HJ
    obtain ⟨t1, t2, t3⟩ := texts_types
    have N1 := Lib.hid (fun w hP => implJSType_no ⟨#[116, 101, 120, 116, 47, 116, 101, 109, 112, 108, 97, 116, 101]⟩ w (by decide) (by decide) hP t1)
    have N2 := Lib.hid (fun w hP => implJSType_no ⟨#[116, 101, 120, 116, 47, 104, 116, 109, 108]⟩ w (by decide) (by decide) hP t2)
    have N3 := Lib.hid (fun w hP => implJSType_no ⟨#[116, 101, 120, 116, 47, 112, 108, 97, 105, 110]⟩ w (by decide) (by decide) hP t3)
    have K1 : Hid True := Lib.hid trivial
    have K2 : Hid True := Lib.hid trivial
    clear hm hs hj t1 t2 t3
    go_enter Tryd.func12, Tryd.ntmps12
    go_wp2_with (first
      | (go_at_call 34; refine (HJ.out _).mono ?_; rintro e w1 ⟨rfl, hb1⟩; have hT1 := hT.keep hb1 (Nat.le_refl _); have hP1 := hP.keep hb1)
      | (go_at_call 18; refine (works_any _ hT1).mono ?_; rintro e w2 ⟨rfl, hb2⟩; have hP2 := hP1.keep hb2)
      | (clear K1; go_at_call 35; refine (N1.out _ hP2).mono ?_; rintro e w3 ⟨rfl, hb3⟩; have hP3 := hP2.keep hb3)
      | (clear K2; go_at_call 35; refine (N2.out _ hP3).mono ?_; rintro e w4 ⟨rfl, hb4⟩; have hP4 := hP3.keep hb4)
      | (go_at_call 35; refine (N3.out _ hP4).mono ?_; rintro e w5 ⟨rfl, hb5⟩))
    go_ret
    have z1 := hb1.size; have z2 := hb2.size; have z3 := hb3.size; have z4 := hb4.size
    exact ⟨rfl, (((hb1.trans (hb2.mono z1)).trans (hb3.mono (by omega))).trans (hb4.mono (by omega))).trans (hb5.mono (by omega))⟩
  · rw [hj] at HJ
    obtain ⟨t1, t2, t3⟩ := mime_types s.data.toList hj
    have ha : ∀ b ∈ s.data.toList, b.toNat < 128 := fun b hb => (mime_bytes _ hj b hb).1
    have Y1 := Lib.hid (fun w hP => implJSType_yes s w (by omega) ha hP t1)
    have Y2 : Hid (∀ (v : ByteArray) w, Spaces w → v = ⟨(s.data.toList ++ charset).toArray⟩ → Calls Tryd.prog 35 #[.string v] w fun e w' => e = .returned (.bool true) ∧ Below w.heap.size w w') := Lib.hid fun v w hP hv => by
      have e1 : v.data.toList = s.data.toList ++ charset := by rw [hv]
      refine implJSType_yes v w ?_ ?_ hP (by rw [e1]; exact t2)
      · have e2 := congrArg List.length e1
        simp [charset] at e2
        have e3 : v.data.size = v.size := rfl
        have e4 : s.data.size = s.size := rfl
        omega
      · rw [e1]; intro b hb
        rcases List.mem_append.1 hb with hb | hb
        · exact ha b hb
        · have : ∀ b ∈ charset, b.toNat < 128 := by decide
          exact this b hb
    have Y3 : Hid (∀ (v : ByteArray) w, Spaces w → v = ⟨(32 :: s.data.toList).toArray⟩ → Calls Tryd.prog 35 #[.string v] w fun e w' => e = .returned (.bool true) ∧ Below w.heap.size w w') := Lib.hid fun v w hP hv => by
      have e1 : v.data.toList = 32 :: s.data.toList := by rw [hv]
      refine implJSType_yes v w ?_ ?_ hP (by rw [e1]; exact t3)
      · have e2 := congrArg List.length e1
        simp at e2
        have e3 : v.data.size = v.size := rfl
        have e4 : s.data.size = s.size := rfl
        omega
      · rw [e1]; intro b hb
        rcases List.mem_cons.1 hb with rfl | hb
        · decide
        · exact ha b hb
    have S2 : Hid ((s ++ (⟨#[59, 32, 99, 104, 97, 114, 115, 101, 116, 61, 117, 116, 102, 45, 56]⟩ : ByteArray)) = ⟨(s.data.toList ++ charset).toArray⟩) := Lib.hid (ba_ext (by simp [charset]))
    have S3 : Hid (((⟨#[32]⟩ : ByteArray) ++ s) = ⟨(32 :: s.data.toList).toArray⟩) := Lib.hid (ba_ext (by simp))
    have z1 : (9223372036854775807 < s.size + 15) = False := eq_false (by omega)
    have z2 : (9223372036854775807 < 1 + s.size) = False := eq_false (by omega)
    have K1 : Hid True := Lib.hid trivial
    have K2 : Hid True := Lib.hid trivial
    clear hm hs hj t1 t2 t3 ha
    go_enter Tryd.func12, Tryd.ntmps12
    go_wp2_with (first
      | (go_at_call 34; refine (HJ.out _).mono ?_; rintro e w1 ⟨rfl, hb1⟩; have hT1 := hT.keep hb1 (Nat.le_refl _); have hP1 := hP.keep hb1)
      | (go_at_call 18; refine (works_any _ hT1).mono ?_; rintro e w2 ⟨rfl, hb2⟩; have hP2 := hP1.keep hb2)
      | (clear K1; go_at_call 35; refine (Y1.out _ hP2).mono ?_; rintro e w3 ⟨rfl, hb3⟩; have hP3 := hP2.keep hb3)
      | (clear K2; go_at_call 35; refine (Y2.out _ _ hP3 S2.out).mono ?_; rintro e w4 ⟨rfl, hb4⟩; have hP4 := hP3.keep hb4)
      | (go_at_call 35; refine (Y3.out _ _ hP4 S3.out).mono ?_; rintro e w5 ⟨rfl, hb5⟩))
    go_ret
    have z1 := hb1.size; have z2 := hb2.size; have z3 := hb3.size; have z4 := hb4.size
    exact ⟨rfl, (((hb1.trans (hb2.mono z1)).trans (hb3.mono (by omega))).trans (hb4.mono (by omega))).trans (hb5.mono (by omega))⟩

/-! ### the row -/
theorem tabs {W : World} (hL : laidMetH Tryd.prog Rows.fnScriptTypeRow.laid W) : Tabs W := tabs_of hL (by kernel_rfl) (List.mem_of_getElem? (i := 7) (by kernel_rfl)) (List.mem_of_getElem? (i := 3) (by kernel_rfl))
theorem spaces {W : World} (hL : laidMetH Tryd.prog Rows.fnScriptTypeRow.laid W) : Spaces W := spaces_of hL (by kernel_rfl) (List.mem_of_getElem? (i := 5) (by kernel_rfl))

set_option maxRecDepth 100000 in
theorem contract (H : Type) (enc : TypeId × Value → H) (W : World) (base : Nat) (args : Array Value) (ds gs : List (DataW H)) (before : List MemPlace)
    (hval : ∀ (j : Nat) t v, Tryd.f12.params[j]? = some t → args[j]? = some v → Value.okWide Tryd.prog W .any base t v)
    (hW : DataW.Whole enc Tryd.prog Tryd.f12.params.toList Rows.fnScriptTypeSpec.vars false W args.toList ds gs before) (hL : laidMetH Tryd.prog Rows.fnScriptTypeRow.laid W) :
    Calls Tryd.prog 12 args W fun e W' => ∃ v, e = .returned v ∧ Rows.fnScriptTypeSpec.post enc Tryd.prog Tryd.f12 false true false false W args v W' := by
  have hW' := hW
  obtain ⟨p, q, hA0, hV, rfl, hfz, hnd⟩ := hW
  have hA : DataW.TrodAll enc Tryd.prog W 0 (fun _ => true) true Tryd.f12.params.toList args.toList ds p := hA0
  rw [Tryd.params12] at hA hval
  obtain ⟨v0, vs0, d0, ds0, p0, q0, hargs, rfl, rfl, h0, r0⟩ := trodAll_cons hA
  obtain ⟨rfl, rfl, rfl⟩ := trodAll_nil r0
  obtain rfl : args = #[v0] := by cases args; simp_all
  obtain ⟨rfl, rfl⟩ := trodVars_none hV
  obtain ⟨a0, rfl, rfl, rfl, w0⟩ := open_string Tryd.underlying9 (hval 0 9 v0 rfl rfl) h0
  clear hA0
  simp only [List.append_nil] at hW'
  refine (walk a0 W w0 (tabs hL) (spaces hL)).mono fun e W' ⟨he, bel⟩ => ?_
  subst he
  exact ⟨_, rfl, _, _, _, [], [], [], hW', trodAll_mk1 (shut_bool Tryd.underlying4 _), trodAll_cons_mk (shut_string Tryd.underlying9 w0) trodAll_mk0, rfl, bel.frame _, fun h => by cases h⟩

noncomputable def laidWorld (os : Os) : World :=
  { World.holding Tryd.prog os ⟨#[], #[], []⟩ with heap := layOne (layCase 149 (layOne (layRanges 130 127 (layOne (layOne (layOne (layOne ((World.holding Tryd.prog os ⟨#[], #[], []⟩).heap) 8 Rows.laid_math_bits_deBruijn32tab) 9 Rows.laid_math_bits_deBruijn64tab) 7 Rows.laid_internal_strconv_uint64pow10) 3 Rows.laid_unicode_utf8_acceptRanges) 4 Rows.laid_unicode_White_Space) 1 Rows.laid_strings_asciiSpace) 6) 2 Rows.laid_unicode_utf8_first }
theorem laid_met (os : Os) : laidMet Tryd.prog Rows.fnScriptTypeRow.laid ((laidWorld os).forCall (fun _ _ => 0) ⟨#[], #[Value.string ByteArray.empty], []⟩).memory := by
  have h := laidMet_with_case (ρ := Tryd.lays262_ren) { Tryd.lays262 with } Tryd.lays262.t206 ⟨by kernel_rfl, by kernel_rfl, by kernel_rfl, by kernel_rfl, by kernel_rfl, by kernel_rfl⟩
    (w := ((laidWorld os).forCall (fun _ _ => 0) ⟨#[], #[Value.string ByteArray.empty], []⟩).memory) (l := [("math/bits.deBruijn32tab", Rows.laid_math_bits_deBruijn32tab), ("math/bits.deBruijn64tab", Rows.laid_math_bits_deBruijn64tab), ("internal/strconv.uint64pow10", Rows.laid_internal_strconv_uint64pow10), ("unicode/utf8.acceptRanges", Rows.laid_unicode_utf8_acceptRanges), ("unicode.White_Space", Rows.laid_unicode_White_Space), ("strings.asciiSpace", Rows.laid_strings_asciiSpace)] ++ [("unicode/utf8.first", Rows.laid_unicode_utf8_first)])
    10 (by kernel_rfl) (by kernel_rfl) (by kernel_rfl) ((World.settled Tryd.prog default).heap.size + 2) 149 (of_decide_eq_true (by kernel_rfl)) (by kernel_rfl) (by kernel_rfl) (by kernel_rfl)
  have h2 := laid_swap h
  rw [← case_eq] at h2
  exact h2
theorem reads (os : Os) {H : Type} (enc : TypeId × Value → H) : ∃ places, DataW.whole enc Tryd.prog ((laidWorld os).forCall (fun _ _ => 0) ⟨#[], #[Value.string ByteArray.empty], []⟩).memory Tryd.f12.params.toList Rows.fnScriptTypeSpec.vars false (#[Value.string ByteArray.empty] : Array Value).toList 8 = some ([.lit (.string [])], [], places) :=
  ⟨[], by kernel_rfl⟩

set_option maxRecDepth 100000 in
theorem lifted (os : Os) (started : os.Started) (H : Type) (enc : TypeId × Value → H) (F : Stop.Interp) :
    ReturnsInHanded {} Tryd.checked os 12 .any ((OpenSpec.ofChange Rows.fnScriptTypeSpec).preRow enc Tryd.prog Tryd.f12 Rows.fnScriptTypeRow.domain false Rows.fnScriptTypeRow.laid) (((OpenSpec.ofChange Rows.fnScriptTypeSpec).at F).post enc Tryd.prog Tryd.f12 false true false false) := by
  obtain ⟨places, hx⟩ := reads os enc
  refine returnsInHanded_of_row (C := Tryd.checked) (s := OpenSpec.ofChange Rows.fnScriptTypeSpec) own started (by kernel_rfl) Tryd.func12
    (witness_row_atRef (enc := enc) (C := Tryd.checked) false (laidWorld os) #[Value.string ByteArray.empty] rfl (by kernel_rfl) (by kernel_rfl) (by kernel_rfl)
      (OpenSpec.preRow_of_cond 8 hx (by kernel_rfl) (fun k hk => by cases hk) (by kernel_rfl) (laid_met os))) ?_
  intro W base args ds gs before hval hW _ _ _ hL _ _
  exact contract H enc W base args ds gs before hval hW hL

theorem said : Rows.FnScriptTypeSaid :=
  OpenClaim.holds_of_cond 12 Tryd.f12 rfl rfl rfl rfl rfl rfl rfl ⟨rfl, rfl, rfl, rfl, rfl⟩ rfl rfl rfl rfl rfl (by kernel_rfl) Tryd.func12 (by kernel_rfl)
    (of_decide_eq_true (by kernel_rfl)) (by unfold Func.isWrapper; first | (rw [if_pos (by decide +kernel)]; kernel_rfl) | (rw [if_neg (by decide +kernel)]; exact ⟨rfl, rfl⟩))
    (fun os started H enc _ F => by rw [OpenClaim.pre_eq_preRow]; exact lifted os started H enc F)

theorem plain (f : FuncId) (fn : Func) (hf : Tryd.pinned.checked.prog.funcNamed "htmlescapers/laws.FnScriptType" = some f) (hfn : Tryd.pinned.checked.prog.funcs[f]? = some fn) :
    false = Tryd.pinned.checked.prog.looks [] ∧ ∀ (j : Nat) t, fn.params[j]? = some t → Tryd.pinned.checked.prog.wantsStandIn t = false := by
  obtain rfl : f = 12 := Option.some.inj ((show Tryd.prog.funcNamed "htmlescapers/laws.FnScriptType" = some 12 by kernel_rfl).symm.trans hf) |>.symm
  obtain rfl : fn = Tryd.f12 := (Option.some.inj (Tryd.func12.symm.trans hfn)).symm
  refine ⟨by kernel_rfl, fun j t ht => ?_⟩
  rw [Tryd.params12] at ht
  obtain rfl : t = 9 := by simpa using Array.mem_of_getElem? ht
  exact (show Tryd.prog.wantsStandIn 9 = false by kernel_rfl)

theorem card : Rows.FnScriptTypeCardSaid :=
  Claim7.holds_tied_plain_at .later [] _ _ _ _ said (fun _ h => by cases h) (by kernel_rfl) (fun _ h => by cases h) fnScriptType_row_tie rfl ⟨rfl, rfl⟩ (by kernel_rfl) rfl plain (by kernel_rfl)
end Go.Proofs.YteheelcppgjeaaaDoor.fnScriptType
namespace Go.Proofs.YteheelcppgjeaaaDoor
theorem fnScriptType_card : Rows.FnScriptTypeCardSaid := fnScriptType.card
end Go.Proofs.YteheelcppgjeaaaDoor
