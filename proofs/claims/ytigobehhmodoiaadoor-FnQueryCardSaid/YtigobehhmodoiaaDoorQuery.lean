/-
  A value in the query of a URL is written with unreserved characters and encoded bytes alone, decoded it is the value, and two values are encoded as each one by itself: the law FnQuery returns true at every two texts, whatever memory holds besides.
  Conditions: those of the given row (package-level tables of Go's library read as laid), which the card ties to the program's text; none of our own.
-/
import Derived.Test.YtigobehhmodoiaaDoorRowKit
import Derived.Test.YtigobehhmodoiaaDoorUrlE
namespace Go.Proofs.YtigobehhmodoiaaDoor.fnQuery
open Go.ChangeShapes Go.WideShapes Go.ChangeAt Go.RowKit
open Go.ChangeMaps (open_string shut_string)
set_option linter.unusedVariables false
set_option linter.unusedSimpArgs false

theorem list_size (s : ByteArray) : s.data.toList.length = s.size := by simp
set_option maxRecDepth 100000 in
set_option maxHeartbeats 4000000 in
theorem walk (s t : ByteArray) (w : World) (hs : s.size ≤ maxLen) (ht : t.size ≤ maxLen) (hT : Tabs w) :
    Calls Tryd.prog 9 #[.string s, .string t] w fun e w' => e = .returned (.bool true) ∧ Below w.heap.size w w' := by
  unfold maxLen at hs ht
  by_cases hm : (2147483647 : Int) < s.size
  · have hm' : decide ((2147483647 : Int) < s.size) = true := by rw [decide_eq_true_eq]; exact hm
    clear hm
    go_enter Tryd.func9, Tryd.ntmps9
    go_wp2
    go_ret
    exact ⟨rfl, Below.refl _ _⟩
  by_cases hm2 : (2147483647 : Int) < t.size
  · have hm' : decide ((2147483647 : Int) < s.size) = false := by rw [decide_eq_false_iff_not]; exact hm
    have hm2' : decide ((2147483647 : Int) < t.size) = true := by rw [decide_eq_true_eq]; exact hm2
    clear hm hm2
    go_enter Tryd.func9, Tryd.ntmps9
    go_wp2
    go_ret
    exact ⟨rfl, Below.refl _ _⟩
  have hm' : decide ((2147483647 : Int) < s.size) = false := by rw [decide_eq_false_iff_not]; exact hm
  have hm2' : decide ((2147483647 : Int) < t.size) = false := by rw [decide_eq_false_iff_not]; exact hm2
  obtain ⟨v1, hv1⟩ : ∃ v, v = strOf (urlL false s.data.toList) := ⟨_, rfl⟩
  obtain ⟨v3, hv3⟩ : ∃ v, v = strOf (urlL false t.data.toList) := ⟨_, rfl⟩
  have hl1 : v1.data.toList = urlL false s.data.toList := by rw [hv1]; rfl
  have hz1 : (v1.size : Int) ≤ 17179869184 := by rw [hv1]; exact url_size false s (by omega)
  have hz3 : (v3.size : Int) ≤ 17179869184 := by rw [hv3]; exact url_size false t (by omega)
  have hst : (s ++ t).size = s.size + t.size := ByteArray.size_append ..
  have hq1 := fun w => query_calls s w (by omega)
  rw [← hv1] at hq1
  have hq3 := fun w => query_calls t w (by omega)
  rw [← hv3] at hq3
  have hq2 := fun w => query_calls (s ++ t) w (by rw [hst]; omega)
  have happ : strOf (urlL false (s ++ t).data.toList) = v1 ++ v3 := by
    rw [hv1, hv3, strOf_app, ← query_app]
    rw [show (s ++ t).data.toList = s.data.toList ++ t.data.toList by simp]
  rw [happ] at hq2
  have hpc := fun w => percent_calls v1 w hz1
  rw [hl1, query_back, strOf_self] at hpc
  have hqu := fun w => quoted_any v1 w (maxLen_of hz1)
  rw [hl1, query_ok] at hqu
  have HQ1 := Lib.hid hq1
  have HQ2 := Lib.hid hq2
  have HQ3 := Lib.hid hq3
  have HPC := Lib.hid hpc
  have HQU := Lib.hid hqu
  have hadd1 : ∀ w, (Op.stringOp .add s t).run Tryd.prog w = .ok (.string (s ++ t)) w := fun w => run_string_add_sum w _ _ (by omega)
  have hadd2 : ∀ w, (Op.stringOp .add v1 v3).run Tryd.prog w = .ok (.string (v1 ++ v3)) w := fun w => run_string_add_sum w _ _ (by omega)
  have HN1 : Hid True := Lib.hid trivial
  have HN2 : Hid True := Lib.hid trivial
  clear hm hm2 hv1 hv3 hl1 hz1 hz3 hst hq1 hq2 hq3 happ hpc hqu hs ht
  go_enter Tryd.func9, Tryd.ntmps9
  go_wp2_with (first
    | (clear HN1; go_at_call 33; refine (HQ1.out _).mono ?_; rintro e w1 ⟨rfl, hb1⟩; have hT1 := hT.keep hb1 (Nat.le_refl _))
    | (go_at_call 34; refine (HQU.out _).mono ?_; rintro e w9 ⟨rfl, rfl⟩)
    | (go_at_call 32; refine (HPC.out _).mono ?_; rintro e w2 ⟨rfl, hb2⟩; have hT2 := hT1.keep hb2 (Nat.le_refl _))
    | (clear HN2; go_at_call 33; refine (HQ2.out _).mono ?_; rintro e w3 ⟨rfl, hb3⟩; have hT3 := hT2.keep hb3 (Nat.le_refl _))
    | (go_at_call 33; refine (HQ3.out _).mono ?_; rintro e w4 ⟨rfl, hb4⟩; have hT4 := hT3.keep hb4 (Nat.le_refl _))
    | (go_at_call 19; refine (works_any _ hT4).mono ?_; rintro e w5 ⟨rfl, hb5⟩))
  go_ret
  have s1 := hb1.size
  have s2 := hb2.size
  have s3 := hb3.size
  have s4 := hb4.size
  exact ⟨rfl, (((hb1.trans (hb2.mono s1)).trans (hb3.mono (by omega))).trans (hb4.mono (by omega))).trans (hb5.mono (by omega))⟩

/-! ### the row -/
theorem tabs {W : World} (hL : laidMetH Tryd.prog Rows.fnQueryRow.laid W) : Tabs W := tabs_of hL (by kernel_rfl) (List.mem_of_getElem? (i := 4) (by kernel_rfl)) (List.mem_of_getElem? (i := 3) (by kernel_rfl))

set_option maxRecDepth 100000 in
theorem contract (H : Type) (enc : TypeId × Value → H) (W : World) (base : Nat) (args : Array Value) (ds gs : List (DataW H)) (before : List MemPlace)
    (hval : ∀ (j : Nat) t v, Tryd.f9.params[j]? = some t → args[j]? = some v → Value.okWide Tryd.prog W .any base t v)
    (hW : DataW.Whole enc Tryd.prog Tryd.f9.params.toList Rows.fnQuerySpec.vars false W args.toList ds gs before) (hL : laidMetH Tryd.prog Rows.fnQueryRow.laid W) :
    Calls Tryd.prog 9 args W fun e W' => ∃ v, e = .returned v ∧ Rows.fnQuerySpec.post enc Tryd.prog Tryd.f9 false true false false W args v W' := by
  have hW' := hW
  obtain ⟨p, q, hA0, hV, rfl, hfz, hnd⟩ := hW
  have hA : DataW.TrodAll enc Tryd.prog W 0 (fun _ => true) true Tryd.f9.params.toList args.toList ds p := hA0
  rw [Tryd.params9] at hA hval
  obtain ⟨v0, vs0, d0, ds0, p0, q0, hargs, rfl, rfl, h0, r0⟩ := trodAll_cons hA
  obtain ⟨v1, vs1, d1, ds1, p1, q1, rfl, rfl, rfl, h1, r1⟩ := trodAll_cons r0
  obtain ⟨rfl, rfl, rfl⟩ := trodAll_nil r1
  obtain rfl : args = #[v0, v1] := by cases args; simp_all
  obtain ⟨rfl, rfl⟩ := trodVars_none hV
  obtain ⟨a0, rfl, rfl, rfl, w0⟩ := open_string Tryd.underlying9 (hval 0 9 v0 rfl rfl) h0
  obtain ⟨a1, rfl, rfl, rfl, w1⟩ := open_string Tryd.underlying9 (hval 1 9 v1 rfl rfl) h1
  clear hA0
  simp only [List.append_nil] at hW'
  refine (walk a0 a1 W w0 w1 (tabs hL)).mono fun e W' ⟨he, bel⟩ => ?_
  subst he
  exact ⟨_, rfl, _, _, _, [], [], [], hW', trodAll_mk1 (shut_bool Tryd.underlying4 _), trodAll_cons_mk (shut_string Tryd.underlying9 w0) (trodAll_cons_mk (shut_string Tryd.underlying9 w1) trodAll_mk0), rfl, bel.frame _, fun h => by cases h⟩

noncomputable def laidWorld (os : Os) : World :=
  { World.holding Tryd.prog os ⟨#[], #[], []⟩ with heap := layOne (layOne (layOne (layOne (layOne ((World.holding Tryd.prog os ⟨#[], #[], []⟩).heap) 8 Rows.laid_math_bits_deBruijn32tab) 9 Rows.laid_math_bits_deBruijn64tab) 7 Rows.laid_internal_strconv_uint64pow10) 2 Rows.laid_unicode_utf8_acceptRanges) 1 Rows.laid_unicode_utf8_first }
theorem laid_met (os : Os) : laidMet Tryd.prog Rows.fnQueryRow.laid ((laidWorld os).forCall (fun _ _ => 0) ⟨#[], #[Value.string ByteArray.empty, Value.string ByteArray.empty], []⟩).memory :=
  laidMet_of_run' 8 (by kernel_rfl) (by kernel_rfl)
theorem reads (os : Os) {H : Type} (enc : TypeId × Value → H) : ∃ places, DataW.whole enc Tryd.prog ((laidWorld os).forCall (fun _ _ => 0) ⟨#[], #[Value.string ByteArray.empty, Value.string ByteArray.empty], []⟩).memory Tryd.f9.params.toList Rows.fnQuerySpec.vars false (#[Value.string ByteArray.empty, Value.string ByteArray.empty] : Array Value).toList 8 = some ([.lit (.string []), .lit (.string [])], [], places) :=
  ⟨[], by kernel_rfl⟩

set_option maxRecDepth 100000 in
theorem lifted (os : Os) (started : os.Started) (H : Type) (enc : TypeId × Value → H) (F : Stop.Interp) :
    ReturnsInHanded {} Tryd.checked os 9 .any ((OpenSpec.ofChange Rows.fnQuerySpec).preRow enc Tryd.prog Tryd.f9 Rows.fnQueryRow.domain false Rows.fnQueryRow.laid) (((OpenSpec.ofChange Rows.fnQuerySpec).at F).post enc Tryd.prog Tryd.f9 false true false false) := by
  obtain ⟨places, hx⟩ := reads os enc
  refine returnsInHanded_of_row (C := Tryd.checked) (s := OpenSpec.ofChange Rows.fnQuerySpec) own started (by kernel_rfl) Tryd.func9
    (witness_row_at (enc := enc) (C := Tryd.checked) false (laidWorld os) #[Value.string ByteArray.empty, Value.string ByteArray.empty] rfl (by kernel_rfl) (by kernel_rfl) (by kernel_rfl)
      (OpenSpec.preRow_of_cond 8 hx (by kernel_rfl) (fun k hk => by cases hk) (by kernel_rfl) (laid_met os))) ?_
  intro W base args ds gs before hval hW _ _ _ hL _ _
  exact contract H enc W base args ds gs before hval hW hL

theorem said : Rows.FnQuerySaid :=
  OpenClaim.holds_of_cond 9 Tryd.f9 rfl rfl rfl rfl rfl rfl rfl ⟨rfl, rfl, rfl, rfl, rfl⟩ rfl rfl rfl rfl rfl (by kernel_rfl) Tryd.func9 (by kernel_rfl)
    (of_decide_eq_true (by kernel_rfl)) (by unfold Func.isWrapper; first | (rw [if_pos (by decide +kernel)]; kernel_rfl) | (rw [if_neg (by decide +kernel)]; exact ⟨rfl, rfl⟩))
    (fun os started H enc _ F => by rw [OpenClaim.pre_eq_preRow]; exact lifted os started H enc F)

theorem plain (f : FuncId) (fn : Func) (hf : Tryd.pinned.checked.prog.funcNamed "htmlescapers/laws.FnQuery" = some f) (hfn : Tryd.pinned.checked.prog.funcs[f]? = some fn) :
    false = Tryd.pinned.checked.prog.looks [] ∧ ∀ (j : Nat) t, fn.params[j]? = some t → Tryd.pinned.checked.prog.wantsStandIn t = false := by
  obtain rfl : f = 9 := Option.some.inj ((show Tryd.prog.funcNamed "htmlescapers/laws.FnQuery" = some 9 by kernel_rfl).symm.trans hf) |>.symm
  obtain rfl : fn = Tryd.f9 := (Option.some.inj (Tryd.func9.symm.trans hfn)).symm
  refine ⟨by kernel_rfl, fun j t ht => ?_⟩
  rw [Tryd.params9] at ht
  obtain rfl : t = 9 := by simpa using Array.mem_of_getElem? ht
  exact (show Tryd.prog.wantsStandIn 9 = false by kernel_rfl)

theorem card : Rows.FnQueryCardSaid :=
  Claim7.holds_tied_plain_at .later [] _ _ _ _ said (fun _ h => by cases h) (by kernel_rfl) (fun _ h => by cases h) fnQuery_row_tie rfl ⟨rfl, rfl⟩ (by kernel_rfl) rfl plain (by kernel_rfl)
end Go.Proofs.YtigobehhmodoiaaDoor.fnQuery
namespace Go.Proofs.YtigobehhmodoiaaDoor
theorem fnQuery_card : Rows.FnQueryCardSaid := fnQuery.card
end Go.Proofs.YtigobehhmodoiaaDoor
