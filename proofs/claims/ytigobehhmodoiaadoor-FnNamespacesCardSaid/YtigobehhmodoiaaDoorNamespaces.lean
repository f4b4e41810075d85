/-
  Attributes with a namespace are treated as if they had none, those with data- as if they had not this, and those of xmlns are URLs: the law FnNamespaces returns true at every two texts, whatever memory holds besides.
  Conditions: those of the given row (package-level tables of Go's library read as laid), which the card ties to the program's text; none of our own.
-/
import Derived.Test.YtigobehhmodoiaaDoorRowKit
import Derived.Test.YtigobehhmodoiaaDoorSpN
import Derived.Test.YtigobehhmodoiaaDoorAtt
namespace Go.Proofs.YtigobehhmodoiaaDoor.fnNamespaces
open Go.ChangeShapes Go.WideShapes Go.ChangeAt Go.RowKit
open Go.ChangeMaps (open_string shut_string)
set_option linter.unusedVariables false
set_option linter.unusedSimpArgs false

theorem size_mk (l : Bytes) : (⟨l.toArray⟩ : ByteArray).size = l.length := List.size_toArray
set_option maxRecDepth 100000 in
set_option maxHeartbeats 4000000 in
theorem walk (s n : ByteArray) (w : World) (hs : s.size ≤ maxLen) (hn : n.size ≤ maxLen) (hT : Tabs w) :
    Calls Tryd.prog 13 #[.string s, .string n] w fun e w' => e = .returned (.bool true) ∧ Below w.heap.size w w' := by
  unfold maxLen at hs hn
  by_cases hm : (2147483647 : Int) < s.size
  · go_enter Tryd.func13, Tryd.ntmps13
    go_wp2
    go_ret
    exact ⟨rfl, Below.refl _ _⟩
  have hm' : decide ((2147483647 : Int) < s.size) = false := by rw [decide_eq_false_iff_not]; exact hm
  by_cases hm2 : (2147483647 : Int) < n.size
  · clear hm
    go_enter Tryd.func13, Tryd.ntmps13
    go_wp2
    go_ret
    exact ⟨rfl, Below.refl _ _⟩
  have hm2' : decide ((2147483647 : Int) < n.size) = false := by rw [decide_eq_false_iff_not]; exact hm2
  obtain ⟨b1, hb1⟩ : ∃ b, wordB s.data.toList = b := ⟨_, rfl⟩
  obtain ⟨b2, hb2⟩ : ∃ b, wordB n.data.toList = b := ⟨_, rfl⟩
  have W1 := Lib.hid (fun w => wordq_any s w (by unfold maxLen; omega))
  have W2 := Lib.hid (fun w => wordq_any n w (by unfold maxLen; omega))
  rw [hb1] at W1
  rw [hb2] at W2
  obtain ⟨b3, hb3⟩ : ∃ b, (s.toList == [120, 109, 108, 110, 115]) = b := ⟨_, rfl⟩
  obtain ⟨b4, hb4⟩ : ∃ b, (s.toList == [100, 97, 116, 97]) = b := ⟨_, rfl⟩
  by_cases hgo : b1 = true ∧ b2 = true ∧ b3 = false ∧ b4 = false
  · obtain ⟨rfl, rfl, rfl, rfl⟩ := hgo
    have hx : s.data.toList ≠ xmlnsW := by rw [Lib.toList_data] at hb3; simpa [xmlnsW] using hb3
    obtain ⟨l1, l2, l3⟩ := spaces_law s.data.toList n.data.toList hb1 hb2 hx
    obtain ⟨t, ht⟩ : ∃ t : Nat, t = attrTypeL n.data.toList := ⟨_, rfl⟩
    rw [← ht] at l1 l2
    have A0 : Hid (∀ w, Calls Tryd.prog 39 #[.string n] w fun e w' => e = .returned (.int .i64 (t : Int)) ∧ Below w.heap.size w w') := Lib.hid fun w => by
      have := implAttr_any n w (by omega)
      rw [← ht] at this; exact this
    have A1 : Hid (∀ (v : ByteArray) w, v = ⟨(s.data.toList ++ 58 :: n.data.toList).toArray⟩ → Calls Tryd.prog 39 #[.string v] w fun e w' => e = .returned (.int .i64 (t : Int)) ∧ Below w.heap.size w w') := Lib.hid fun v w hv => by
      have := implAttr_any v w (by rw [hv]; rw [size_mk]; simp; have e1 : s.data.size = s.size := rfl; have e2 : n.data.size = n.size := rfl; omega)
      rw [hv] at this ⊢
      have e : (⟨(s.data.toList ++ 58 :: n.data.toList).toArray⟩ : ByteArray).data.toList = s.data.toList ++ 58 :: n.data.toList := by simp
      rw [e, l1] at this; exact this
    have A2 : Hid (∀ (v : ByteArray) w, v = ⟨(dataW ++ n.data.toList).toArray⟩ → Calls Tryd.prog 39 #[.string v] w fun e w' => e = .returned (.int .i64 (t : Int)) ∧ Below w.heap.size w w') := Lib.hid fun v w hv => by
      have := implAttr_any v w (by rw [hv]; rw [size_mk]; simp [dataW]; have e2 : n.data.size = n.size := rfl; omega)
      rw [hv] at this ⊢
      have e : (⟨(dataW ++ n.data.toList).toArray⟩ : ByteArray).data.toList = dataW ++ n.data.toList := by simp
      rw [e, l2] at this; exact this
    have A3 : Hid (∀ (v : ByteArray) w, v = ⟨(xmlnsW ++ 58 :: n.data.toList).toArray⟩ → Calls Tryd.prog 39 #[.string v] w fun e w' => e = .returned (.int .i64 6) ∧ Below w.heap.size w w') := Lib.hid fun v w hv => by
      have := implAttr_any v w (by rw [hv]; rw [size_mk]; simp [xmlnsW]; have e2 : n.data.size = n.size := rfl; omega)
      rw [hv] at this ⊢
      have e : (⟨(xmlnsW ++ 58 :: n.data.toList).toArray⟩ : ByteArray).data.toList = xmlnsW ++ 58 :: n.data.toList := by simp
      rw [e, l3] at this; exact this
    have q3 : (s.toList = [120, 109, 108, 110, 115]) = False := by simpa using hb3
    have q4 : (s.toList = [100, 97, 116, 97]) = False := by simpa using hb4
    have s1 : (s ++ (⟨#[58]⟩ : ByteArray) ++ n) = ⟨(s.data.toList ++ 58 :: n.data.toList).toArray⟩ := ba_ext (by simp)
    have s2 : ((⟨#[100, 97, 116, 97, 45]⟩ : ByteArray) ++ n) = ⟨(dataW ++ n.data.toList).toArray⟩ := ba_ext (by simp [dataW])
    have s3 : ((⟨#[120, 109, 108, 110, 115, 58]⟩ : ByteArray) ++ n) = ⟨(xmlnsW ++ 58 :: n.data.toList).toArray⟩ := ba_ext (by simp [xmlnsW])
    have S1 := Lib.hid s1; have S2 := Lib.hid s2; have S3 := Lib.hid s3
    have K1 : Hid True := Lib.hid trivial
    have K2 : Hid True := Lib.hid trivial
    have K3 : Hid True := Lib.hid trivial
    have K4 : Hid True := Lib.hid trivial
    have z1 : (9223372036854775807 < s.size + 1) = False := eq_false (by omega)
    have z2 : (9223372036854775807 < s.size + 1 + n.size) = False := eq_false (by omega)
    have z3 : (9223372036854775807 < 5 + n.size) = False := eq_false (by omega)
    have z4 : (9223372036854775807 < 6 + n.size) = False := eq_false (by omega)
    clear hx l1 l2 l3 ht hb1 hb2 s1 s2 s3 hm hm2 hs hn
    go_enter Tryd.func13, Tryd.ntmps13
    go_wp2_with (first
      | (clear K1; go_at_call 25; refine (W1.out _).mono ?_; rintro e w9 ⟨rfl, rfl⟩)
      | (go_at_call 25; refine (W2.out _).mono ?_; rintro e w8 ⟨rfl, rfl⟩)
      | (clear K2; go_at_call 39; refine (A0.out _).mono ?_; rintro e w1 ⟨rfl, hb1⟩; have hT1 := hT.keep hb1 (Nat.le_refl _))
      | (go_at_call 19; refine (works_any _ hT1).mono ?_; rintro e w2 ⟨rfl, hb2⟩)
      | (clear K3; go_at_call 39; refine (A1.out _ _ S1.out).mono ?_; rintro e w3 ⟨rfl, hb3⟩)
      | (clear K4; go_at_call 39; refine (A2.out _ _ S2.out).mono ?_; rintro e w4 ⟨rfl, hb4⟩)
      | (go_at_call 39; refine (A3.out _ _ S3.out).mono ?_; rintro e w5 ⟨rfl, hb5⟩))
    go_ret
    have z1 := hb1.size; have z2 := hb2.size; have z3 := hb3.size; have z4 := hb4.size
    exact ⟨rfl, (((hb1.trans (hb2.mono z1)).trans (hb3.mono (by omega))).trans (hb4.mono (by omega))).trans (hb5.mono (by omega))⟩
  · have HG := Lib.hid hgo
    clear hgo hb1 hb2 hm hm2
    have HS := Lib.hid hs; have HN := Lib.hid hn
    clear hs hn
    have K1 : Hid True := Lib.hid trivial
    cases b1 <;> cases b2 <;> cases b3 <;> cases b4
    all_goals first
      | exact absurd ⟨rfl, rfl, rfl, rfl⟩ HG.out
      | (first
          | (have q3 : (s.toList = [120, 109, 108, 110, 115]) = False := by simpa using hb3)
          | (have q3 : (s.toList = [120, 109, 108, 110, 115]) = True := by simpa using hb3)
         first
          | (have q4 : (s.toList = [100, 97, 116, 97]) = False := by simpa using hb4)
          | (have q4 : (s.toList = [100, 97, 116, 97]) = True := by simpa using hb4)
         go_enter Tryd.func13, Tryd.ntmps13
         go_wp2_with (first
          | (clear K1; go_at_call 25; refine (W1.out _).mono ?_; rintro e w9 ⟨rfl, rfl⟩)
          | (go_at_call 25; refine (W2.out _).mono ?_; rintro e w8 ⟨rfl, rfl⟩))
         go_ret
         exact ⟨rfl, Below.refl _ _⟩)

/-! ### the row -/
theorem tabs {W : World} (hL : laidMetH Tryd.prog Rows.fnNamespacesRow.laid W) : Tabs W := tabs_of hL (by kernel_rfl) (List.mem_of_getElem? (i := 4) (by kernel_rfl)) (List.mem_of_getElem? (i := 3) (by kernel_rfl))

set_option maxRecDepth 100000 in
theorem contract (H : Type) (enc : TypeId × Value → H) (W : World) (base : Nat) (args : Array Value) (ds gs : List (DataW H)) (before : List MemPlace)
    (hval : ∀ (j : Nat) t v, Tryd.f13.params[j]? = some t → args[j]? = some v → Value.okWide Tryd.prog W .any base t v)
    (hW : DataW.Whole enc Tryd.prog Tryd.f13.params.toList Rows.fnNamespacesSpec.vars false W args.toList ds gs before) (hL : laidMetH Tryd.prog Rows.fnNamespacesRow.laid W) :
    Calls Tryd.prog 13 args W fun e W' => ∃ v, e = .returned v ∧ Rows.fnNamespacesSpec.post enc Tryd.prog Tryd.f13 false true false false W args v W' := by
  have hW' := hW
  obtain ⟨p, q, hA0, hV, rfl, hfz, hnd⟩ := hW
  have hA : DataW.TrodAll enc Tryd.prog W 0 (fun _ => true) true Tryd.f13.params.toList args.toList ds p := hA0
  rw [Tryd.params13] at hA hval
  obtain ⟨v0, vs0, d0, ds0, p0, q0, hargs, rfl, rfl, h0, r0⟩ := trodAll_cons hA
  obtain ⟨v1, vs1, d1, ds1, p1, q1, rfl, rfl, rfl, h1, r1⟩ := trodAll_cons r0
  obtain ⟨rfl, rfl, rfl⟩ := trodAll_nil r1
  obtain rfl : args = #[v0, v1] := by cases args; simp_all
  obtain ⟨rfl, rfl⟩ := trodVars_none hV
  obtain ⟨a0, rfl, rfl, rfl, w0⟩ := open_string Tryd.underlying9 (hval 0 9 v0 rfl rfl) h0
  obtain ⟨a1, rfl, rfl, rfl, w1⟩ := open_string Tryd.underlying9 (hval 1 9 v1 rfl rfl) h1
  clear hA0
  simp only [List.append_nil] at hW'
  refine (walk a0 a1 W w0 w1 (tabs hL)).mono fun e W' ⟨he, bel⟩ => ?_
  subst he
  exact ⟨_, rfl, _, _, _, [], [], [], hW', trodAll_mk1 (shut_bool Tryd.underlying4 _), trodAll_cons_mk (shut_string Tryd.underlying9 w0) (trodAll_cons_mk (shut_string Tryd.underlying9 w1) trodAll_mk0), rfl, bel.frame _, fun h => by cases h⟩

noncomputable def laidWorld (os : Os) : World :=
  { World.holding Tryd.prog os ⟨#[], #[], []⟩ with heap := layOne (layOne (layOne (layOne (layOne ((World.holding Tryd.prog os ⟨#[], #[], []⟩).heap) 8 Rows.laid_math_bits_deBruijn32tab) 9 Rows.laid_math_bits_deBruijn64tab) 7 Rows.laid_internal_strconv_uint64pow10) 2 Rows.laid_unicode_utf8_acceptRanges) 1 Rows.laid_unicode_utf8_first }
theorem laid_met (os : Os) : laidMet Tryd.prog Rows.fnNamespacesRow.laid ((laidWorld os).forCall (fun _ _ => 0) ⟨#[], #[Value.string ByteArray.empty, Value.string ByteArray.empty], []⟩).memory :=
  laidMet_of_run' 8 (by kernel_rfl) (by kernel_rfl)
theorem reads (os : Os) {H : Type} (enc : TypeId × Value → H) : ∃ places, DataW.whole enc Tryd.prog ((laidWorld os).forCall (fun _ _ => 0) ⟨#[], #[Value.string ByteArray.empty, Value.string ByteArray.empty], []⟩).memory Tryd.f13.params.toList Rows.fnNamespacesSpec.vars false (#[Value.string ByteArray.empty, Value.string ByteArray.empty] : Array Value).toList 8 = some ([.lit (.string []), .lit (.string [])], [], places) :=
  ⟨[], by kernel_rfl⟩

set_option maxRecDepth 100000 in
theorem lifted (os : Os) (started : os.Started) (H : Type) (enc : TypeId × Value → H) (F : Stop.Interp) :
    ReturnsInHanded {} Tryd.checked os 13 .any ((OpenSpec.ofChange Rows.fnNamespacesSpec).preRow enc Tryd.prog Tryd.f13 Rows.fnNamespacesRow.domain false Rows.fnNamespacesRow.laid) (((OpenSpec.ofChange Rows.fnNamespacesSpec).at F).post enc Tryd.prog Tryd.f13 false true false false) := by
  obtain ⟨places, hx⟩ := reads os enc
  refine returnsInHanded_of_row (C := Tryd.checked) (s := OpenSpec.ofChange Rows.fnNamespacesSpec) own started (by kernel_rfl) Tryd.func13
    (witness_row_at (enc := enc) (C := Tryd.checked) false (laidWorld os) #[Value.string ByteArray.empty, Value.string ByteArray.empty] rfl (by kernel_rfl) (by kernel_rfl) (by kernel_rfl)
      (OpenSpec.preRow_of_cond 8 hx (by kernel_rfl) (fun k hk => by cases hk) (by kernel_rfl) (laid_met os))) ?_
  intro W base args ds gs before hval hW _ _ _ hL _ _
  exact contract H enc W base args ds gs before hval hW hL

theorem said : Rows.FnNamespacesSaid :=
  OpenClaim.holds_of_cond 13 Tryd.f13 rfl rfl rfl rfl rfl rfl rfl ⟨rfl, rfl, rfl, rfl, rfl⟩ rfl rfl rfl rfl rfl (by kernel_rfl) Tryd.func13 (by kernel_rfl)
    (of_decide_eq_true (by kernel_rfl)) (by unfold Func.isWrapper; first | (rw [if_pos (by decide +kernel)]; kernel_rfl) | (rw [if_neg (by decide +kernel)]; exact ⟨rfl, rfl⟩))
    (fun os started H enc _ F => by rw [OpenClaim.pre_eq_preRow]; exact lifted os started H enc F)

theorem plain (f : FuncId) (fn : Func) (hf : Tryd.pinned.checked.prog.funcNamed "htmlescapers/laws.FnNamespaces" = some f) (hfn : Tryd.pinned.checked.prog.funcs[f]? = some fn) :
    false = Tryd.pinned.checked.prog.looks [] ∧ ∀ (j : Nat) t, fn.params[j]? = some t → Tryd.pinned.checked.prog.wantsStandIn t = false := by
  obtain rfl : f = 13 := Option.some.inj ((show Tryd.prog.funcNamed "htmlescapers/laws.FnNamespaces" = some 13 by kernel_rfl).symm.trans hf) |>.symm
  obtain rfl : fn = Tryd.f13 := (Option.some.inj (Tryd.func13.symm.trans hfn)).symm
  refine ⟨by kernel_rfl, fun j t ht => ?_⟩
  rw [Tryd.params13] at ht
  obtain rfl : t = 9 := by simpa using Array.mem_of_getElem? ht
  exact (show Tryd.prog.wantsStandIn 9 = false by kernel_rfl)

theorem card : Rows.FnNamespacesCardSaid :=
  Claim7.holds_tied_plain_at .later [] _ _ _ _ said (fun _ h => by cases h) (by kernel_rfl) (fun _ h => by cases h) fnNamespaces_row_tie rfl ⟨rfl, rfl⟩ (by kernel_rfl) rfl plain (by kernel_rfl)
end Go.Proofs.YtigobehhmodoiaaDoor.fnNamespaces
namespace Go.Proofs.YtigobehhmodoiaaDoor
theorem fnNamespaces_card : Rows.FnNamespacesCardSaid := fnNamespaces.card
end Go.Proofs.YtigobehhmodoiaaDoor
