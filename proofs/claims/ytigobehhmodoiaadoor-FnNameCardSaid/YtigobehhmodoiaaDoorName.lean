/-
  The name of an attribute or element (of ASCII characters) is itself in small letters, if it has letters and digits alone and no attribute of this name has a value of its own kind; otherwise it is ZgotmplZ: the law FnName returns true at every text, whatever memory holds besides.
  Conditions: those of the given row (package-level tables of Go's library read as laid), which the card ties to the program's text; none of our own.
-/
import Derived.Test.YtigobehhmodoiaaDoorRowKit
import Derived.Test.YtigobehhmodoiaaDoorNmF
import Derived.Test.YtigobehhmodoiaaDoorRowL
namespace Go.Proofs.YtigobehhmodoiaaDoor.fnName
open Go.ChangeShapes Go.WideShapes Go.ChangeAt Go.RowKit
open Go.ChangeMaps (open_string shut_string)
set_option linter.unusedVariables false
set_option linter.unusedSimpArgs false

set_option maxRecDepth 100000 in
set_option maxHeartbeats 4000000 in
theorem walk (s : ByteArray) (w : World) (hs : s.size ≤ maxLen) (hT : Tabs w) :
    Calls Tryd.prog 14 #[.string s] w fun e w' => e = .returned (.bool true) ∧ Below w.heap.size w w' := by
  unfold maxLen at hs
  by_cases hm : (2147483647 : Int) < s.size
  · go_enter Tryd.func14, Tryd.ntmps14
    go_wp2
    go_ret
    exact ⟨rfl, Below.refl _ _⟩
  have hm' : decide ((2147483647 : Int) < s.size) = false := by rw [decide_eq_false_iff_not]; exact hm
  have HL := Lib.hid (fun w => lowerq_any s w (by omega))
  have HA := Lib.hid (fun w => ascii_any s w (by unfold maxLen; omega))
  have HAN := Lib.hid (fun w => alnumq_any s w (by unfold maxLen; omega))
  have hlen : (Lib.toLowerA s.data.toList).length = s.size := by simp [Lib.toLowerA]
  have HT : Hid (∀ (v : ByteArray) w, v.data.toList = Lib.toLowerA s.data.toList → Calls Tryd.prog 39 #[.string v] w fun e w' => e = .returned (.int .i64 (attrTypeL (Lib.toLowerA s.data.toList) : Int)) ∧ Below w.heap.size w w') := Lib.hid fun v w hv => by
    have hz : v.size = s.size := by rw [← hlen, ← hv]; simp
    have := implAttr_any v w (by omega)
    rw [hv] at this; exact this
  have hz : (s.size : Int) ≤ 2147483647 := by omega
  cases ha : asciiL s.data.toList
  · rw [ha] at HA
    clear hm hs ha hlen hz
    go_enter Tryd.func14, Tryd.ntmps14
    go_wp2_with (first
      | (go_at_call 27; refine (HL.out _).mono ?_; rintro e w1 ⟨⟨v, rfl, hv⟩, hb1⟩; have hT1 := hT.keep hb1 (Nat.le_refl _); clear hv)
      | (go_at_call 40; refine (HA.out _).mono ?_; rintro e w9 ⟨rfl, rfl⟩)
      | (go_at_call 19; refine (works_any _ hT1).mono ?_; rintro e w2 ⟨rfl, hb2⟩))
    go_ret
    exact ⟨rfl, hb1.trans (hb2.mono hb1.size)⟩
  · rw [ha] at HA
    have HNM := Lib.hid (fun w => implName_any s w hz ha)
    have hlaw := name_law s.data.toList ha
    obtain ⟨e0, he0⟩ : ∃ b, s.data.toList.isEmpty = b := ⟨_, rfl⟩
    obtain ⟨an, han⟩ : ∃ b, alnumL s.data.toList = b := ⟨_, rfl⟩
    obtain ⟨t, ht⟩ : ∃ t : Nat, attrTypeL (Lib.toLowerA s.data.toList) = t := ⟨_, rfl⟩
    obtain ⟨t0, ht0⟩ : ∃ b, (t == 0) = b := ⟨_, rfl⟩
    rw [he0, han, ht, ht0] at hlaw
    rw [han] at HAN
    rw [ht] at HT
    rw [hlaw] at HNM
    have q0 : s.toList.isEmpty = e0 := by rw [Lib.toList_data]; exact he0
    have q1 : ((t : Int) == 0) = t0 := by rw [← ht0, Bool.eq_iff_iff]; simp
    clear hm hs ha hlen hz hlaw he0 han ht ht0
    cases e0 <;> cases an <;> cases t0
    all_goals
      first
        | (have q4 : (s.toList = []) = False := by simpa using q0)
        | (have q4 : (s.toList = []) = True := by simpa using q0)
      go_enter Tryd.func14, Tryd.ntmps14
      go_wp2_with (first
        | (go_at_call 27; refine (HL.out _).mono ?_; rintro e w1 ⟨⟨v, rfl, hv⟩, hb1⟩; have hT1 := hT.keep hb1 (Nat.le_refl _); have HV := Lib.hid hv; clear hv)
        | (go_at_call 40; refine (HA.out _).mono ?_; rintro e w9 ⟨rfl, rfl⟩)
        | (go_at_call 41; refine (HAN.out _).mono ?_; rintro e w8 ⟨rfl, rfl⟩)
        | (go_at_call 39; refine (HT.out _ _ HV.out).mono ?_; rintro e w2 ⟨rfl, hb2⟩; have hT2 := hT1.keep hb2 (Nat.le_refl _))
        | (go_at_call 19; refine (works_any _ (by first | exact hT2 | exact hT1)).mono ?_; rintro e w3 ⟨rfl, hb3⟩)
        | (go_at_call 42; refine (HNM.out _).mono ?_; rintro e w4 ⟨⟨v2, rfl, hv2⟩, hb4⟩; first | (obtain rfl : v2 = ⟨#[90, 103, 111, 116, 109, 112, 108, 90]⟩ := ba_ext (hv2.trans rfl)) | (obtain rfl : v2 = v := ba_ext (hv2.trans HV.out.symm)); clear hv2))
      go_ret
      have z1 := hb1.size; have z3 := hb3.size
      first
        | exact ⟨rfl, (hb1.trans (hb3.mono z1)).trans (hb4.mono (by omega))⟩
        | exact ⟨rfl, ((hb1.trans (hb2.mono z1)).trans (hb3.mono (by have := hb2.size; omega))).trans (hb4.mono (by have := hb2.size; omega))⟩

/-! ### the row -/
theorem tabs {W : World} (hL : laidMetH Tryd.prog Rows.fnNameRow.laid W) : Tabs W := tabs_of hL (by kernel_rfl) (List.mem_of_getElem? (i := 5) (by kernel_rfl)) (List.mem_of_getElem? (i := 3) (by kernel_rfl))

set_option maxRecDepth 100000 in
theorem contract (H : Type) (enc : TypeId × Value → H) (W : World) (base : Nat) (args : Array Value) (ds gs : List (DataW H)) (before : List MemPlace)
    (hval : ∀ (j : Nat) t v, Tryd.f14.params[j]? = some t → args[j]? = some v → Value.okWide Tryd.prog W .any base t v)
    (hW : DataW.Whole enc Tryd.prog Tryd.f14.params.toList Rows.fnNameSpec.vars false W args.toList ds gs before) (hL : laidMetH Tryd.prog Rows.fnNameRow.laid W) :
    Calls Tryd.prog 14 args W fun e W' => ∃ v, e = .returned v ∧ Rows.fnNameSpec.post enc Tryd.prog Tryd.f14 false true false false W args v W' := by
  have hW' := hW
  obtain ⟨p, q, hA0, hV, rfl, hfz, hnd⟩ := hW
  have hA : DataW.TrodAll enc Tryd.prog W 0 (fun _ => true) true Tryd.f14.params.toList args.toList ds p := hA0
  rw [Tryd.params14] at hA hval
  obtain ⟨v0, vs0, d0, ds0, p0, q0, hargs, rfl, rfl, h0, r0⟩ := trodAll_cons hA
  obtain ⟨rfl, rfl, rfl⟩ := trodAll_nil r0
  obtain rfl : args = #[v0] := by cases args; simp_all
  obtain ⟨rfl, rfl⟩ := trodVars_none hV
  obtain ⟨a0, rfl, rfl, rfl, w0⟩ := open_string Tryd.underlying9 (hval 0 9 v0 rfl rfl) h0
  clear hA0
  simp only [List.append_nil] at hW'
  refine (walk a0 W w0 (tabs hL)).mono fun e W' ⟨he, bel⟩ => ?_
  subst he
  exact ⟨_, rfl, _, _, _, [], [], [], hW', trodAll_mk1 (shut_bool Tryd.underlying4 _), trodAll_cons_mk (shut_string Tryd.underlying9 w0) trodAll_mk0, rfl, bel.frame _, fun h => by cases h⟩

noncomputable def laidWorld (os : Os) : World :=
  { World.holding Tryd.prog os ⟨#[], #[], []⟩ with heap := layOne (layCase 116 (layOne (layOne (layOne (layOne ((World.holding Tryd.prog os ⟨#[], #[], []⟩).heap) 8 Rows.laid_math_bits_deBruijn32tab) 9 Rows.laid_math_bits_deBruijn64tab) 7 Rows.laid_internal_strconv_uint64pow10) 2 Rows.laid_unicode_utf8_acceptRanges) 4) 1 Rows.laid_unicode_utf8_first }
theorem laid_met (os : Os) : laidMet Tryd.prog Rows.fnNameRow.laid ((laidWorld os).forCall (fun _ _ => 0) ⟨#[], #[Value.string ByteArray.empty], []⟩).memory := by
  have h := laidMet_with_case (ρ := Tryd.lays262_ren) { Tryd.lays262 with } Tryd.lays262.t206 ⟨by kernel_rfl, by kernel_rfl, by kernel_rfl, by kernel_rfl, by kernel_rfl, by kernel_rfl⟩
    (w := ((laidWorld os).forCall (fun _ _ => 0) ⟨#[], #[Value.string ByteArray.empty], []⟩).memory) (l := [("math/bits.deBruijn32tab", Rows.laid_math_bits_deBruijn32tab), ("math/bits.deBruijn64tab", Rows.laid_math_bits_deBruijn64tab), ("internal/strconv.uint64pow10", Rows.laid_internal_strconv_uint64pow10), ("unicode/utf8.acceptRanges", Rows.laid_unicode_utf8_acceptRanges)] ++ [("unicode/utf8.first", Rows.laid_unicode_utf8_first)])
    10 (by kernel_rfl) (by kernel_rfl) (by kernel_rfl) ((World.settled Tryd.prog default).heap.size + 0) 116 (of_decide_eq_true (by kernel_rfl)) (by kernel_rfl) (by kernel_rfl) (by kernel_rfl)
  have h2 := laid_swap h
  rw [← case_eq] at h2
  exact h2
theorem reads (os : Os) {H : Type} (enc : TypeId × Value → H) : ∃ places, DataW.whole enc Tryd.prog ((laidWorld os).forCall (fun _ _ => 0) ⟨#[], #[Value.string ByteArray.empty], []⟩).memory Tryd.f14.params.toList Rows.fnNameSpec.vars false (#[Value.string ByteArray.empty] : Array Value).toList 8 = some ([.lit (.string [])], [], places) :=
  ⟨[], by kernel_rfl⟩

set_option maxRecDepth 100000 in
theorem lifted (os : Os) (started : os.Started) (H : Type) (enc : TypeId × Value → H) (F : Stop.Interp) :
    ReturnsInHanded {} Tryd.checked os 14 .any ((OpenSpec.ofChange Rows.fnNameSpec).preRow enc Tryd.prog Tryd.f14 Rows.fnNameRow.domain false Rows.fnNameRow.laid) (((OpenSpec.ofChange Rows.fnNameSpec).at F).post enc Tryd.prog Tryd.f14 false true false false) := by
  obtain ⟨places, hx⟩ := reads os enc
  refine returnsInHanded_of_row (C := Tryd.checked) (s := OpenSpec.ofChange Rows.fnNameSpec) own started (by kernel_rfl) Tryd.func14
    (witness_row_atRef (enc := enc) (C := Tryd.checked) false (laidWorld os) #[Value.string ByteArray.empty] rfl (by kernel_rfl) (by kernel_rfl) (by kernel_rfl)
      (OpenSpec.preRow_of_cond 8 hx (by kernel_rfl) (fun k hk => by cases hk) (by kernel_rfl) (laid_met os))) ?_
  intro W base args ds gs before hval hW _ _ _ hL _ _
  exact contract H enc W base args ds gs before hval hW hL

theorem said : Rows.FnNameSaid :=
  OpenClaim.holds_of_cond 14 Tryd.f14 rfl rfl rfl rfl rfl rfl rfl ⟨rfl, rfl, rfl, rfl, rfl⟩ rfl rfl rfl rfl rfl (by kernel_rfl) Tryd.func14 (by kernel_rfl)
    (of_decide_eq_true (by kernel_rfl)) (by unfold Func.isWrapper; first | (rw [if_pos (by decide +kernel)]; kernel_rfl) | (rw [if_neg (by decide +kernel)]; exact ⟨rfl, rfl⟩))
    (fun os started H enc _ F => by rw [OpenClaim.pre_eq_preRow]; exact lifted os started H enc F)

theorem plain (f : FuncId) (fn : Func) (hf : Tryd.pinned.checked.prog.funcNamed "htmlescapers/laws.FnName" = some f) (hfn : Tryd.pinned.checked.prog.funcs[f]? = some fn) :
    false = Tryd.pinned.checked.prog.looks [] ∧ ∀ (j : Nat) t, fn.params[j]? = some t → Tryd.pinned.checked.prog.wantsStandIn t = false := by
  obtain rfl : f = 14 := Option.some.inj ((show Tryd.prog.funcNamed "htmlescapers/laws.FnName" = some 14 by kernel_rfl).symm.trans hf) |>.symm
  obtain rfl : fn = Tryd.f14 := (Option.some.inj (Tryd.func14.symm.trans hfn)).symm
  refine ⟨by kernel_rfl, fun j t ht => ?_⟩
  rw [Tryd.params14] at ht
  obtain rfl : t = 9 := by simpa using Array.mem_of_getElem? ht
  exact (show Tryd.prog.wantsStandIn 9 = false by kernel_rfl)

theorem card : Rows.FnNameCardSaid :=
  Claim7.holds_tied_plain_at .later [] _ _ _ _ said (fun _ h => by cases h) (by kernel_rfl) (fun _ h => by cases h) fnName_row_tie rfl ⟨rfl, rfl⟩ (by kernel_rfl) rfl plain (by kernel_rfl)
end Go.Proofs.YtigobehhmodoiaaDoor.fnName
namespace Go.Proofs.YtigobehhmodoiaaDoor
theorem fnName_card : Rows.FnNameCardSaid := fnName.card
end Go.Proofs.YtigobehhmodoiaaDoor
