/-
  A normalized URL has unreserved and reserved characters and encoded bytes alone, no apostrophes, brackets and quotes; decoded it is what the URL is decoded; normalized again it is the same: the law FnNormalized returns true at every text, whatever memory holds besides.
  Conditions: those of the given row (package-level tables of Go's library read as laid), which the card ties to the program's text; none of our own.
-/
import Derived.Test.YtigobehhmodoiaaDoorRowKit
import Derived.Test.YtigobehhmodoiaaDoorUrlE
namespace Go.Proofs.YtigobehhmodoiaaDoor.fnNormalized
open Go.ChangeShapes Go.WideShapes Go.ChangeAt Go.RowKit
open Go.ChangeMaps (open_string shut_string)
set_option linter.unusedVariables false
set_option linter.unusedSimpArgs false

theorem all_not (e m : Bytes) (F : Nat → Bool) (h : e.all (fun b => F b.toNat) = true) (hm : ∀ x ∈ m, F x.toNat = false) : hasAnyB e m = false := by
  unfold hasAnyB
  rw [List.any_eq_false]
  intro b hb
  rw [List.all_eq_true] at h
  have h1 := h b hb
  unfold hasB
  rw [Bool.not_eq_true, List.any_eq_false]
  intro x hx
  have h2 := hm x hx
  simp only [beq_iff_eq]
  intro h3
  rw [h3] at h2
  rw [h2] at h1; cases h1
set_option maxRecDepth 100000 in
set_option maxHeartbeats 4000000 in
theorem walk (s : ByteArray) (w : World) (hs : s.size ≤ maxLen) (hT : Tabs w) :
    Calls Tryd.prog 8 #[.string s] w fun e w' => e = .returned (.bool true) ∧ Below w.heap.size w w' := by
  unfold maxLen at hs
  by_cases hm : (2147483647 : Int) < s.size
  · go_enter Tryd.func8, Tryd.ntmps8
    go_wp2
    go_ret
    exact ⟨rfl, Below.refl _ _⟩
  have hm' : decide ((2147483647 : Int) < s.size) = false := by rw [decide_eq_false_iff_not]; exact hm
  obtain ⟨n1, n2, n3, n4⟩ := norm_law s.data.toList
  obtain ⟨v1, hv1⟩ : ∃ v, v = strOf (urlL true s.data.toList) := ⟨_, rfl⟩
  obtain ⟨p, hp⟩ : ∃ v, v = strOf (percentL s.data.toList) := ⟨_, rfl⟩
  have hl1 : v1.data.toList = urlL true s.data.toList := by rw [hv1]; rfl
  have hz1 : (v1.size : Int) ≤ 17179869184 := by rw [hv1]; exact url_size true s (by omega)
  have hq1 := fun w => normal_calls s w (by omega)
  rw [← hv1] at hq1
  have hq2 := fun w => normal_calls v1 w hz1
  rw [hl1, n4, ← hv1] at hq2
  have hp1 := fun w => percent_calls v1 w hz1
  rw [hl1, n3, ← hp] at hp1
  have hp2 := fun w => percent_calls s w (by omega)
  rw [← hp] at hp2
  have hpl := fun w => plainq_any v1 w (maxLen_of hz1)
  rw [hl1, n1] at hpl
  have hha := fun w => hasAny_any v1 ⟨#[39, 40, 41, 34, 60, 62]⟩ w (maxLen_of hz1) (by decide)
  rw [show hasAnyB v1.data.toList (⟨#[39, 40, 41, 34, 60, 62]⟩ : ByteArray).data.toList = false by rw [hl1]; exact all_not _ _ noBad n2 (by decide)] at hha
  have HQ1 := Lib.hid hq1
  have HQ2 := Lib.hid hq2
  have HP1 := Lib.hid hp1
  have HP2 := Lib.hid hp2
  have HPL := Lib.hid hpl
  have HHA := Lib.hid hha
  have HN1 : Hid True := Lib.hid trivial
  have HN2 : Hid True := Lib.hid trivial
  clear hm hv1 hl1 hz1 hq1 hq2 hp hp1 hp2 hpl hha hs n1 n2 n3 n4
  go_enter Tryd.func8, Tryd.ntmps8
  go_wp2_with (first
    | (clear HN1; go_at_call 30; refine (HQ1.out _).mono ?_; rintro e w1 ⟨rfl, hb1⟩; have hT1 := hT.keep hb1 (Nat.le_refl _))
    | (go_at_call 31; refine (HPL.out _).mono ?_; rintro e w9 ⟨rfl, rfl⟩)
    | (go_at_call 20; refine (HHA.out _).mono ?_; rintro e w8 ⟨rfl, rfl⟩)
    | (clear HN2; go_at_call 32; refine (HP1.out _).mono ?_; rintro e w2 ⟨rfl, hb2⟩; have hT2 := hT1.keep hb2 (Nat.le_refl _))
    | (go_at_call 32; refine (HP2.out _).mono ?_; rintro e w3 ⟨rfl, hb3⟩; have hT3 := hT2.keep hb3 (Nat.le_refl _))
    | (go_at_call 30; refine (HQ2.out _).mono ?_; rintro e w4 ⟨rfl, hb4⟩; have hT4 := hT3.keep hb4 (Nat.le_refl _))
    | (go_at_call 19; refine (works_any _ hT4).mono ?_; rintro e w5 ⟨rfl, hb5⟩))
  go_ret
  have s1 := hb1.size
  have s2 := hb2.size
  have s3 := hb3.size
  have s4 := hb4.size
  exact ⟨rfl, (((hb1.trans (hb2.mono s1)).trans (hb3.mono (by omega))).trans (hb4.mono (by omega))).trans (hb5.mono (by omega))⟩

/-! ### the row -/
theorem tabs {W : World} (hL : laidMetH Tryd.prog Rows.fnNormalizedRow.laid W) : Tabs W := tabs_of hL (by kernel_rfl) (List.mem_of_getElem? (i := 4) (by kernel_rfl)) (List.mem_of_getElem? (i := 3) (by kernel_rfl))

set_option maxRecDepth 100000 in
theorem contract (H : Type) (enc : TypeId × Value → H) (W : World) (base : Nat) (args : Array Value) (ds gs : List (DataW H)) (before : List MemPlace)
    (hval : ∀ (j : Nat) t v, Tryd.f8.params[j]? = some t → args[j]? = some v → Value.okWide Tryd.prog W .any base t v)
    (hW : DataW.Whole enc Tryd.prog Tryd.f8.params.toList Rows.fnNormalizedSpec.vars false W args.toList ds gs before) (hL : laidMetH Tryd.prog Rows.fnNormalizedRow.laid W) :
    Calls Tryd.prog 8 args W fun e W' => ∃ v, e = .returned v ∧ Rows.fnNormalizedSpec.post enc Tryd.prog Tryd.f8 false true false false W args v W' := by
  have hW' := hW
  obtain ⟨p, q, hA0, hV, rfl, hfz, hnd⟩ := hW
  have hA : DataW.TrodAll enc Tryd.prog W 0 (fun _ => true) true Tryd.f8.params.toList args.toList ds p := hA0
  rw [Tryd.params8] at hA hval
  obtain ⟨v0, vs0, d0, ds0, p0, q0, hargs, rfl, rfl, h0, r0⟩ := trodAll_cons hA
  obtain ⟨rfl, rfl, rfl⟩ := trodAll_nil r0
  obtain rfl : args = #[v0] := by cases args; simp_all
  obtain ⟨rfl, rfl⟩ := trodVars_none hV
  obtain ⟨a0, rfl, rfl, rfl, w0⟩ := open_string Tryd.underlying9 (hval 0 9 v0 rfl rfl) h0
  clear hA0
  simp only [List.append_nil] at hW'
  refine (walk a0 W w0 (tabs hL)).mono fun e W' ⟨he, bel⟩ => ?_
  subst he
  exact ⟨_, rfl, _, _, _, [], [], [], hW', trodAll_mk1 (shut_bool Tryd.underlying4 _), trodAll_cons_mk (shut_string Tryd.underlying9 w0) trodAll_mk0, rfl, bel.frame _, fun h => by cases h⟩

noncomputable def laidWorld (os : Os) : World :=
  { World.holding Tryd.prog os ⟨#[], #[], []⟩ with heap := layOne (layOne (layOne (layOne (layOne ((World.holding Tryd.prog os ⟨#[], #[], []⟩).heap) 8 Rows.laid_math_bits_deBruijn32tab) 9 Rows.laid_math_bits_deBruijn64tab) 7 Rows.laid_internal_strconv_uint64pow10) 2 Rows.laid_unicode_utf8_acceptRanges) 1 Rows.laid_unicode_utf8_first }
theorem laid_met (os : Os) : laidMet Tryd.prog Rows.fnNormalizedRow.laid ((laidWorld os).forCall (fun _ _ => 0) ⟨#[], #[Value.string ByteArray.empty], []⟩).memory :=
  laidMet_of_run' 8 (by kernel_rfl) (by kernel_rfl)
theorem reads (os : Os) {H : Type} (enc : TypeId × Value → H) : ∃ places, DataW.whole enc Tryd.prog ((laidWorld os).forCall (fun _ _ => 0) ⟨#[], #[Value.string ByteArray.empty], []⟩).memory Tryd.f8.params.toList Rows.fnNormalizedSpec.vars false (#[Value.string ByteArray.empty] : Array Value).toList 8 = some ([.lit (.string [])], [], places) :=
  ⟨[], by kernel_rfl⟩

set_option maxRecDepth 100000 in
theorem lifted (os : Os) (started : os.Started) (H : Type) (enc : TypeId × Value → H) (F : Stop.Interp) :
    ReturnsInHanded {} Tryd.checked os 8 .any ((OpenSpec.ofChange Rows.fnNormalizedSpec).preRow enc Tryd.prog Tryd.f8 Rows.fnNormalizedRow.domain false Rows.fnNormalizedRow.laid) (((OpenSpec.ofChange Rows.fnNormalizedSpec).at F).post enc Tryd.prog Tryd.f8 false true false false) := by
  obtain ⟨places, hx⟩ := reads os enc
  refine returnsInHanded_of_row (C := Tryd.checked) (s := OpenSpec.ofChange Rows.fnNormalizedSpec) own started (by kernel_rfl) Tryd.func8
    (witness_row_at (enc := enc) (C := Tryd.checked) false (laidWorld os) #[Value.string ByteArray.empty] rfl (by kernel_rfl) (by kernel_rfl) (by kernel_rfl)
      (OpenSpec.preRow_of_cond 8 hx (by kernel_rfl) (fun k hk => by cases hk) (by kernel_rfl) (laid_met os))) ?_
  intro W base args ds gs before hval hW _ _ _ hL _ _
  exact contract H enc W base args ds gs before hval hW hL

theorem said : Rows.FnNormalizedSaid :=
  OpenClaim.holds_of_cond 8 Tryd.f8 rfl rfl rfl rfl rfl rfl rfl ⟨rfl, rfl, rfl, rfl, rfl⟩ rfl rfl rfl rfl rfl (by kernel_rfl) Tryd.func8 (by kernel_rfl)
    (of_decide_eq_true (by kernel_rfl)) (by unfold Func.isWrapper; first | (rw [if_pos (by decide +kernel)]; kernel_rfl) | (rw [if_neg (by decide +kernel)]; exact ⟨rfl, rfl⟩))
    (fun os started H enc _ F => by rw [OpenClaim.pre_eq_preRow]; exact lifted os started H enc F)

theorem plain (f : FuncId) (fn : Func) (hf : Tryd.pinned.checked.prog.funcNamed "htmlescapers/laws.FnNormalized" = some f) (hfn : Tryd.pinned.checked.prog.funcs[f]? = some fn) :
    false = Tryd.pinned.checked.prog.looks [] ∧ ∀ (j : Nat) t, fn.params[j]? = some t → Tryd.pinned.checked.prog.wantsStandIn t = false := by
  obtain rfl : f = 8 := Option.some.inj ((show Tryd.prog.funcNamed "htmlescapers/laws.FnNormalized" = some 8 by kernel_rfl).symm.trans hf) |>.symm
  obtain rfl : fn = Tryd.f8 := (Option.some.inj (Tryd.func8.symm.trans hfn)).symm
  refine ⟨by kernel_rfl, fun j t ht => ?_⟩
  rw [Tryd.params8] at ht
  obtain rfl : t = 9 := by simpa using Array.mem_of_getElem? ht
  exact (show Tryd.prog.wantsStandIn 9 = false by kernel_rfl)

theorem card : Rows.FnNormalizedCardSaid :=
  Claim7.holds_tied_plain_at .later [] _ _ _ _ said (fun _ h => by cases h) (by kernel_rfl) (fun _ h => by cases h) fnNormalized_row_tie rfl ⟨rfl, rfl⟩ (by kernel_rfl) rfl plain (by kernel_rfl)
end Go.Proofs.YtigobehhmodoiaaDoor.fnNormalized
namespace Go.Proofs.YtigobehhmodoiaaDoor
theorem fnNormalized_card : Rows.FnNormalizedCardSaid := fnNormalized.card
end Go.Proofs.YtigobehhmodoiaaDoor
