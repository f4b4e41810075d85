/-
  Candidates with commas between them are filtered and normalized one by one, and one without blanks is a URL that is normalized, or a mark: the law FnSrcset returns true at every two texts, whatever memory holds besides.
  Conditions: those of the given row (package-level tables of Go's library read as laid), which the card ties to the program's text; none of our own.
-/
import Derived.Test.YtolamblmfejhoaaDoorRowKit
import Derived.Test.YtolamblmfejhoaaDoorFlt
import Derived.Test.YtolamblmfejhoaaDoorSrcC
import Derived.Test.YtolamblmfejhoaaDoorHtmlB
import Derived.Test.YtolamblmfejhoaaDoorRowL
import Derived.Test.YtolamblmfejhoaaDoorFdo
namespace Go.Proofs.YtolamblmfejhoaaDoor.fnSrcset
open Go.ChangeShapes Go.WideShapes Go.ChangeAt Go.RowKit
open Go.ChangeMaps (open_string shut_string)
set_option linter.unusedVariables false
set_option linter.unusedSimpArgs false

theorem ne_forms (s : ByteArray) (l : Bytes) (h : s.data.toList ≠ l) : ((s.toList = l) = False) ∧ ((l = s.toList) = False) ∧ ((s.toList == l) = false) ∧ ((l == s.toList) = false) := by
  rw [Lib.toList_data]
  exact ⟨eq_false h, eq_false (fun e => h e.symm), by rw [beq_eq_false_iff_ne]; exact h, by rw [beq_eq_false_iff_ne]; exact fun e => h e.symm⟩
theorem srcGo_len : ∀ (t cur : Bytes), (srcGo cur t).length ≤ 3 * cur.length + 13 * t.length + 9
  | [], cur => by have := elemL_len cur; simpa [srcGo] using this
  | x :: t, cur => by
    have h1 := srcGo_len t []
    have h2 := srcGo_len t (cur ++ [x])
    have h3 := elemL_len cur
    rw [srcGo]
    split
    · rw [List.length_append, List.length_cons, List.length_cons]
      simp only [List.length_nil] at h1
      omega
    · rw [List.length_append, List.length_singleton] at h2
      rw [List.length_cons]
      omega
theorem none_any (a : Bytes) (h : hasAnyB a [44, 32, 9, 10, 12, 13] = false) : ∀ x ∈ a, spB x.toNat = false ∧ x ≠ 44 := by
  intro x hx
  unfold hasAnyB at h
  rw [List.any_eq_false] at h
  have := h x hx
  unfold hasB at this
  simp only [List.any_cons, List.any_nil, Bool.or_false, Bool.or_eq_true, not_or, beq_iff_eq] at this
  unfold spB
  refine ⟨?_, ?_⟩
  · rw [Bool.eq_false_iff]
    simp only [ne_eq, Bool.or_eq_true, beq_iff_eq]
    simp at this
    omega
  · rintro rfl
    simp at this
theorem src_calls (s : ByteArray) (w : World) (hs : (s.size : Int) ≤ 17179869184) (hF : FoldOk w) :
    Calls Tryd.prog 10 #[.string s] w fun e w' => e = .returned (.string (strOf (srcL s.data.toList))) ∧ Below w.heap.size w w' :=
  (isrcset_any s w hs hF).mono fun e w' h => ⟨ret_strOf h.1, h.2⟩

set_option maxRecDepth 100000 in
set_option maxHeartbeats 4000000 in
theorem walk (a b : ByteArray) (w : World) (hs : a.size ≤ maxLen) (ht : b.size ≤ maxLen) (hT : Tabs w) (hF : FoldOk w) :
    Calls Tryd.prog 4 #[.string a, .string b] w fun e w' => e = .returned (.bool true) ∧ Below w.heap.size w w' := by
  unfold maxLen at hs ht
  by_cases hm : (2147483647 : Int) < a.size
  · have hm' : decide ((2147483647 : Int) < a.size) = true := by rw [decide_eq_true_eq]; exact hm
    clear hm
    go_enter Tryd.func4, Tryd.ntmps4
    go_wp2
    go_ret
    exact ⟨rfl, Below.refl _ _⟩
  by_cases hm2 : (2147483647 : Int) < b.size
  · have hm' : decide ((2147483647 : Int) < a.size) = false := by rw [decide_eq_false_iff_not]; exact hm
    have hm2' : decide ((2147483647 : Int) < b.size) = true := by rw [decide_eq_true_eq]; exact hm2
    clear hm hm2
    go_enter Tryd.func4, Tryd.ntmps4
    go_wp2
    go_ret
    exact ⟨rfl, Below.refl _ _⟩
  have hm' : decide ((2147483647 : Int) < a.size) = false := by rw [decide_eq_false_iff_not]; exact hm
  have hm2' : decide ((2147483647 : Int) < b.size) = false := by rw [decide_eq_false_iff_not]; exact hm2
  have hla : a.data.toList.length = a.size := Array.length_toList
  have hlb : b.data.toList.length = b.size := Array.length_toList
  have hza := srcGo_len a.data.toList []
  have hzb := srcGo_len b.data.toList []
  have hzA : (strOf (srcL a.data.toList)).size ≤ 30000000000 := by rw [strOf_size]; simp only [List.length_nil] at hza; unfold srcL; omega
  have hzB : (strOf (srcL b.data.toList)).size ≤ 30000000000 := by rw [strOf_size]; simp only [List.length_nil] at hzb; unfold srcL; omega
  have hone := src_one a.data.toList
  have hnor := fun w => normal_calls a w (by omega)
  have hq1 := fun w hF => src_calls a w (by omega) hF
  have hq3 := fun w hF => src_calls b w (by omega) hF
  have hc44 : (⟨#[44]⟩ : ByteArray).size = 1 := rfl
  have hza1 : (a ++ ⟨#[44]⟩).size = a.size + 1 := ByteArray.size_append ..
  have hab : (a ++ ⟨#[44]⟩ ++ b).size = a.size + 1 + b.size := by rw [ByteArray.size_append, hza1]
  have hq2 := fun w hF => src_calls (a ++ ⟨#[44]⟩ ++ b) w (by rw [hab]; omega) hF
  have happ : strOf (srcL (a ++ ⟨#[44]⟩ ++ b).data.toList) = strOf (srcL a.data.toList) ++ ⟨#[44]⟩ ++ strOf (srcL b.data.toList) := by
    have e1 : (a ++ ⟨#[44]⟩ ++ b).data.toList = a.data.toList ++ 44 :: b.data.toList := by simp
    rw [e1, src_comma]
    exact ba_ext (by simp [strOf])
  obtain ⟨va, hva⟩ : ∃ v, strOf (srcL a.data.toList) = v := ⟨_, rfl⟩
  obtain ⟨vb, hvb⟩ : ∃ v, strOf (srcL b.data.toList) = v := ⟨_, rfl⟩
  rw [happ, hva, hvb] at hq2
  rw [hva] at hq1 hzA
  rw [hvb] at hq3 hzB
  have hadd1 : ∀ w, (Op.stringOp .add a ⟨#[44]⟩).run Tryd.prog w = .ok (.string (a ++ ⟨#[44]⟩)) w := fun w => run_string_add_sum w _ _ (by omega)
  have hadd2 : ∀ w, (Op.stringOp .add (a ++ ⟨#[44]⟩) b).run Tryd.prog w = .ok (.string (a ++ ⟨#[44]⟩ ++ b)) w := fun w => run_string_add_sum w _ _ (by omega)
  have hza2 : (va ++ ⟨#[44]⟩).size = va.size + 1 := ByteArray.size_append ..
  have hadd3 : ∀ w, (Op.stringOp .add va ⟨#[44]⟩).run Tryd.prog w = .ok (.string (va ++ ⟨#[44]⟩)) w := fun w => run_string_add_sum w _ _ (by omega)
  have hadd4 : ∀ w, (Op.stringOp .add (va ++ ⟨#[44]⟩) vb).run Tryd.prog w = .ok (.string (va ++ ⟨#[44]⟩ ++ vb)) w := fun w => run_string_add_sum w _ _ (by omega)
  have HQ1 := Lib.hid hq1
  have HQ2 := Lib.hid hq2
  have HQ3 := Lib.hid hq3
  have HT := Lib.hid hT
  have HF := Lib.hid hF
  have hsa : (a.size : Int) ≤ 17179869184 := by omega
  have HH := Lib.hid (fun w => hasAny_any a ⟨#[44, 32, 9, 10, 12, 13]⟩ w (maxLen_of hsa) (by decide))
  have HFI := Lib.hid (fun w hF => filtered_any a w hsa hF)
  have HN1 : Hid True := Lib.hid trivial
  have HN2 : Hid True := Lib.hid trivial
  have hfail : ∀ l : Bytes, safeL l = false → l ≠ [35, 90, 103, 111, 116, 109, 112, 108, 90] := by
    rintro l h rfl
    exact absurd h (by decide)
  clear hm hm2 hvb hq1 hq2 hq3 happ hT hF hza hzb hla hlb hzA hzB hza1 hza2 hab hc44 hs ht hsa
  by_cases ha0 : a.data.toList = []
  · obtain rfl : a = ⟨#[]⟩ := ba_ext ha0
    clear hone hnor hva HH HFI hfail ha0
    go_enter Tryd.func4, Tryd.ntmps4
    go_wp2_with (first
      | (clear HN1; go_at_call 10; refine (HQ1.out _ HF.out).mono ?_; rintro e w1 ⟨rfl, hb1⟩; have hF1 := HF.out.keep hb1 (Nat.le_refl _); have hT1 := HT.out.keep hb1 (Nat.le_refl _))
      | (clear HN2; go_at_call 10; refine (HQ2.out _ hF1).mono ?_; rintro e w2 ⟨rfl, hb2⟩; have hF2 := hF1.keep hb2 (Nat.le_refl _); have hT2 := hT1.keep hb2 (Nat.le_refl _))
      | (go_at_call 10; refine (HQ3.out _ hF2).mono ?_; rintro e w3 ⟨rfl, hb3⟩; have hF3 := hF2.keep hb3 (Nat.le_refl _); have hT3 := hT2.keep hb3 (Nat.le_refl _))
      | (go_at_call 8; refine (works_any _ hT3).mono ?_; rintro e w4 ⟨rfl, hb4⟩; have hF4 := hF3.keep hb4 (Nat.le_refl _)))
    all_goals
      go_ret
      have s1 := hb1.size
      have s2 := hb2.size
      have s3 := hb3.size
      exact ⟨rfl, ((hb1.trans (hb2.mono (by omega))).trans (hb3.mono (by omega))).trans (hb4.mono (by omega))⟩
  · obtain ⟨p1, p2, p3, p4⟩ := ne_forms a [] ha0
    obtain ⟨hh, hhe⟩ : ∃ hh, hasAnyB a.data.toList [44, 32, 9, 10, 12, 13] = hh := ⟨_, rfl⟩
    have HH2 : Hid (∀ w, Calls Tryd.prog 11 #[.string a, .string ⟨#[44, 32, 9, 10, 12, 13]⟩] w fun e w' => e = .returned (.bool hh) ∧ w = w') := Lib.hid fun w => by rw [← hhe]; exact HH.out w
    clear HH
    cases hh with
    | true =>
      clear hone hnor hva HFI hfail ha0 hhe
      go_enter Tryd.func4, Tryd.ntmps4
      go_wp2_with (first
        | (clear HN1; go_at_call 10; refine (HQ1.out _ HF.out).mono ?_; rintro e w1 ⟨rfl, hb1⟩; have hF1 := HF.out.keep hb1 (Nat.le_refl _); have hT1 := HT.out.keep hb1 (Nat.le_refl _))
        | (clear HN2; go_at_call 10; refine (HQ2.out _ hF1).mono ?_; rintro e w2 ⟨rfl, hb2⟩; have hF2 := hF1.keep hb2 (Nat.le_refl _); have hT2 := hT1.keep hb2 (Nat.le_refl _))
        | (go_at_call 10; refine (HQ3.out _ hF2).mono ?_; rintro e w3 ⟨rfl, hb3⟩; have hF3 := hF2.keep hb3 (Nat.le_refl _); have hT3 := hT2.keep hb3 (Nat.le_refl _))
        | (go_at_call 8; refine (works_any _ hT3).mono ?_; rintro e w4 ⟨rfl, hb4⟩; have hF4 := hF3.keep hb4 (Nat.le_refl _))
        | (go_at_call 11; refine (HH2.out _).mono ?_; rintro e w9 ⟨rfl, rfl⟩))
      all_goals
        go_ret
        have s1 := hb1.size
        have s2 := hb2.size
        have s3 := hb3.size
        exact ⟨rfl, ((hb1.trans (hb2.mono (by omega))).trans (hb3.mono (by omega))).trans (hb4.mono (by omega))⟩
    | false =>
      have h1 := hone (none_any _ hhe)
      obtain ⟨sf, hsf⟩ : ∃ sf, safeL a.data.toList = sf := ⟨_, rfl⟩
      rw [hsf] at HFI h1
      have hfl := hfail a.data.toList
      rw [hsf] at hfl
      cases sf with
      | true =>
        rw [if_pos rfl] at h1
        rw [← h1, hva] at hnor
        have HNO := Lib.hid hnor
        clear hone hnor hva hfail ha0 hhe h1 hsf hfl
        go_enter Tryd.func4, Tryd.ntmps4
        go_wp2_with (first
          | (clear HN1; go_at_call 10; refine (HQ1.out _ HF.out).mono ?_; rintro e w1 ⟨rfl, hb1⟩; have hF1 := HF.out.keep hb1 (Nat.le_refl _); have hT1 := HT.out.keep hb1 (Nat.le_refl _))
          | (clear HN2; go_at_call 10; refine (HQ2.out _ hF1).mono ?_; rintro e w2 ⟨rfl, hb2⟩; have hF2 := hF1.keep hb2 (Nat.le_refl _); have hT2 := hT1.keep hb2 (Nat.le_refl _))
          | (go_at_call 10; refine (HQ3.out _ hF2).mono ?_; rintro e w3 ⟨rfl, hb3⟩; have hF3 := hF2.keep hb3 (Nat.le_refl _); have hT3 := hT2.keep hb3 (Nat.le_refl _))
          | (go_at_call 8; refine (works_any _ hT3).mono ?_; rintro e w4 ⟨rfl, hb4⟩; have hF4 := hF3.keep hb4 (Nat.le_refl _))
          | (go_at_call 11; refine (HH2.out _).mono ?_; rintro e w9 ⟨rfl, rfl⟩)
          | (go_at_call 6; refine (HFI.out _ hF4).mono ?_; rintro e w5 ⟨rfl, hb5⟩)
          | (go_at_call 12; refine (HNO.out _).mono ?_; rintro e w6 ⟨rfl, hb6⟩))
        all_goals
          go_ret
          have s1 := hb1.size
          have s2 := hb2.size
          have s3 := hb3.size
          have s4 := hb4.size
          have s5 := hb5.size
          exact ⟨rfl, ((((hb1.trans (hb2.mono (by omega))).trans (hb3.mono (by omega))).trans (hb4.mono (by omega))).trans (hb5.mono (by omega))).trans (hb6.mono (by omega))⟩
      | false =>
        rw [if_neg (by decide)] at h1
        obtain ⟨q1, q2, q3, q4⟩ := ne_forms a _ (hfl rfl)
        obtain rfl : va = ⟨#[35, 90, 103, 111, 116, 109, 112, 108, 90]⟩ := by rw [← hva, h1]; rfl
        clear hone hnor hva hfail ha0 hhe h1 hsf hfl
        go_enter Tryd.func4, Tryd.ntmps4
        go_wp2_with (first
          | (clear HN1; go_at_call 10; refine (HQ1.out _ HF.out).mono ?_; rintro e w1 ⟨rfl, hb1⟩; have hF1 := HF.out.keep hb1 (Nat.le_refl _); have hT1 := HT.out.keep hb1 (Nat.le_refl _))
          | (clear HN2; go_at_call 10; refine (HQ2.out _ hF1).mono ?_; rintro e w2 ⟨rfl, hb2⟩; have hF2 := hF1.keep hb2 (Nat.le_refl _); have hT2 := hT1.keep hb2 (Nat.le_refl _))
          | (go_at_call 10; refine (HQ3.out _ hF2).mono ?_; rintro e w3 ⟨rfl, hb3⟩; have hF3 := hF2.keep hb3 (Nat.le_refl _); have hT3 := hT2.keep hb3 (Nat.le_refl _))
          | (go_at_call 8; refine (works_any _ hT3).mono ?_; rintro e w4 ⟨rfl, hb4⟩; have hF4 := hF3.keep hb4 (Nat.le_refl _))
          | (go_at_call 11; refine (HH2.out _).mono ?_; rintro e w9 ⟨rfl, rfl⟩)
          | (go_at_call 6; refine (HFI.out _ hF4).mono ?_; rintro e w5 ⟨rfl, hb5⟩))
        all_goals
          go_ret
          have s1 := hb1.size
          have s2 := hb2.size
          have s3 := hb3.size
          have s4 := hb4.size
          exact ⟨rfl, (((hb1.trans (hb2.mono (by omega))).trans (hb3.mono (by omega))).trans (hb4.mono (by omega))).trans (hb5.mono (by omega))⟩

/-! ### the row -/
theorem tabs {W : World} (hL : laidMetH Tryd.prog Rows.fnSrcsetRow.laid W) : Tabs W := tabs_of hL (by kernel_rfl) (List.mem_of_getElem? (i := 7) (by kernel_rfl)) (List.mem_of_getElem? (i := 3) (by kernel_rfl))
theorem foldOk {W : World} (hL : laidMetH Tryd.prog Rows.fnSrcsetRow.laid W) : FoldOk W := foldOk_of (foldtab_of hL (by kernel_rfl) (List.mem_of_getElem? (i := 4) (by kernel_rfl)) (List.mem_of_getElem? (i := 5) (by kernel_rfl)))

set_option maxRecDepth 100000 in
theorem contract (H : Type) (enc : TypeId × Value → H) (W : World) (base : Nat) (args : Array Value) (ds gs : List (DataW H)) (before : List MemPlace)
    (hval : ∀ (j : Nat) t v, Tryd.f4.params[j]? = some t → args[j]? = some v → Value.okWide Tryd.prog W .any base t v)
    (hW : DataW.Whole enc Tryd.prog Tryd.f4.params.toList Rows.fnSrcsetSpec.vars false W args.toList ds gs before) (hL : laidMetH Tryd.prog Rows.fnSrcsetRow.laid W) :
    Calls Tryd.prog 4 args W fun e W' => ∃ v, e = .returned v ∧ Rows.fnSrcsetSpec.post enc Tryd.prog Tryd.f4 false true false false W args v W' := by
  have hW' := hW
  obtain ⟨p, q, hA0, hV, rfl, hfz, hnd⟩ := hW
  have hA : DataW.TrodAll enc Tryd.prog W 0 (fun _ => true) true Tryd.f4.params.toList args.toList ds p := hA0
  rw [Tryd.params4] at hA hval
  obtain ⟨v0, vs0, d0, ds0, p0, q0, hargs, rfl, rfl, h0, r0⟩ := trodAll_cons hA
  obtain ⟨v1, vs1, d1, ds1, p1, q1, rfl, rfl, rfl, h1, r1⟩ := trodAll_cons r0
  obtain ⟨rfl, rfl, rfl⟩ := trodAll_nil r1
  obtain rfl : args = #[v0, v1] := by cases args; simp_all
  obtain ⟨rfl, rfl⟩ := trodVars_none hV
  obtain ⟨a0, rfl, rfl, rfl, w0⟩ := open_string Tryd.underlying9 (hval 0 9 v0 rfl rfl) h0
  obtain ⟨a1, rfl, rfl, rfl, w1⟩ := open_string Tryd.underlying9 (hval 1 9 v1 rfl rfl) h1
  clear hA0
  simp only [List.append_nil] at hW'
  refine (walk a0 a1 W w0 w1 (tabs hL) (foldOk hL)).mono fun e W' ⟨he, bel⟩ => ?_
  subst he
  exact ⟨_, rfl, _, _, _, [], [], [], hW', trodAll_mk1 (shut_bool Tryd.underlying4 _), trodAll_cons_mk (shut_string Tryd.underlying9 w0) (trodAll_cons_mk (shut_string Tryd.underlying9 w1) trodAll_mk0), rfl, bel.frame _, fun h => by cases h⟩

noncomputable def laidWorld (os : Os) : World :=
  { World.holding Tryd.prog os ⟨#[], #[], []⟩ with heap := layOne (layCase 101 (laySlice 86 (layOne (layOne (layOne (layOne (layOne ((World.holding Tryd.prog os ⟨#[], #[], []⟩).heap) 7 Rows.laid_math_bits_deBruijn32tab) 8 Rows.laid_math_bits_deBruijn64tab) 6 Rows.laid_internal_strconv_uint64pow10) 4 Rows.laid_unicode_utf8_acceptRanges) 0 Rows.laid_unicode_asciiFold) 1 Rows.laid_unicode_caseOrbit) 2) 3 Rows.laid_unicode_utf8_first }
theorem laid_met (os : Os) : laidMet Tryd.prog Rows.fnSrcsetRow.laid ((laidWorld os).forCall (fun _ _ => 0) ⟨#[], #[Value.string ByteArray.empty, Value.string ByteArray.empty], []⟩).memory := by
  have h := laidMet_with_case (ρ := ren274) rlays274 case206 ⟨by kernel_rfl, by kernel_rfl, by kernel_rfl, by kernel_rfl, by kernel_rfl, by kernel_rfl⟩
    (w := ((laidWorld os).forCall (fun _ _ => 0) ⟨#[], #[Value.string ByteArray.empty, Value.string ByteArray.empty], []⟩).memory) (l := [("math/bits.deBruijn32tab", Rows.laid_math_bits_deBruijn32tab), ("math/bits.deBruijn64tab", Rows.laid_math_bits_deBruijn64tab), ("internal/strconv.uint64pow10", Rows.laid_internal_strconv_uint64pow10), ("unicode/utf8.acceptRanges", Rows.laid_unicode_utf8_acceptRanges), ("unicode.asciiFold", Rows.laid_unicode_asciiFold), ("unicode.caseOrbit", Rows.laid_unicode_caseOrbit)] ++ [("unicode/utf8.first", Rows.laid_unicode_utf8_first)])
    10 (by kernel_rfl) (by kernel_rfl) (by kernel_rfl) ((World.settled Tryd.prog default).heap.size + 1) 101 (of_decide_eq_true (by kernel_rfl)) (by kernel_rfl) (by kernel_rfl) (by kernel_rfl)
  have h2 := laid_swap h
  rw [← case_eq] at h2
  exact h2
theorem reads (os : Os) {H : Type} (enc : TypeId × Value → H) : ∃ places, DataW.whole enc Tryd.prog ((laidWorld os).forCall (fun _ _ => 0) ⟨#[], #[Value.string ByteArray.empty, Value.string ByteArray.empty], []⟩).memory Tryd.f4.params.toList Rows.fnSrcsetSpec.vars false (#[Value.string ByteArray.empty, Value.string ByteArray.empty] : Array Value).toList 8 = some ([.lit (.string []), .lit (.string [])], [], places) :=
  ⟨[], by kernel_rfl⟩

set_option maxRecDepth 100000 in
theorem lifted (os : Os) (started : os.Started) (H : Type) (enc : TypeId × Value → H) (F : Stop.Interp) :
    ReturnsInHanded {} Tryd.checked os 4 .any ((OpenSpec.ofChange Rows.fnSrcsetSpec).preRow enc Tryd.prog Tryd.f4 Rows.fnSrcsetRow.domain false Rows.fnSrcsetRow.laid) (((OpenSpec.ofChange Rows.fnSrcsetSpec).at F).post enc Tryd.prog Tryd.f4 false true false false) := by
  obtain ⟨places, hx⟩ := reads os enc
  refine returnsInHanded_of_row (C := Tryd.checked) (s := OpenSpec.ofChange Rows.fnSrcsetSpec) own started (by kernel_rfl) Tryd.func4
    (witness_row_atRef (enc := enc) (C := Tryd.checked) false (laidWorld os) #[Value.string ByteArray.empty, Value.string ByteArray.empty] rfl (by kernel_rfl) (by kernel_rfl) (by kernel_rfl)
      (OpenSpec.preRow_of_cond 8 hx (by kernel_rfl) (fun k hk => by cases hk) (by kernel_rfl) (laid_met os))) ?_
  intro W base args ds gs before hval hW _ _ _ hL _ _
  exact contract H enc W base args ds gs before hval hW hL

theorem said : Rows.FnSrcsetSaid :=
  OpenClaim.holds_of_cond 4 Tryd.f4 rfl rfl rfl rfl rfl rfl rfl ⟨rfl, rfl, rfl, rfl, rfl⟩ rfl rfl rfl rfl rfl (by kernel_rfl) Tryd.func4 (by kernel_rfl)
    (of_decide_eq_true (by kernel_rfl)) (by unfold Func.isWrapper; first | (rw [if_pos (by decide +kernel)]; kernel_rfl) | (rw [if_neg (by decide +kernel)]; exact ⟨rfl, rfl⟩))
    (fun os started H enc _ F => by rw [OpenClaim.pre_eq_preRow]; exact lifted os started H enc F)

theorem plain (f : FuncId) (fn : Func) (hf : Tryd.pinned.checked.prog.funcNamed "htmlescapers/laws.FnSrcset" = some f) (hfn : Tryd.pinned.checked.prog.funcs[f]? = some fn) :
    false = Tryd.pinned.checked.prog.looks [] ∧ ∀ (j : Nat) t, fn.params[j]? = some t → Tryd.pinned.checked.prog.wantsStandIn t = false := by
  obtain rfl : f = 4 := Option.some.inj ((show Tryd.prog.funcNamed "htmlescapers/laws.FnSrcset" = some 4 by kernel_rfl).symm.trans hf) |>.symm
  obtain rfl : fn = Tryd.f4 := (Option.some.inj (Tryd.func4.symm.trans hfn)).symm
  refine ⟨by kernel_rfl, fun j t ht => ?_⟩
  rw [Tryd.params4] at ht
  obtain rfl : t = 9 := by simpa using Array.mem_of_getElem? ht
  exact (show Tryd.prog.wantsStandIn 9 = false by kernel_rfl)

theorem card : Rows.FnSrcsetCardSaid :=
  Claim7.holds_tied_plain_at .later [] _ _ _ _ said (fun _ h => by cases h) (by kernel_rfl) (fun _ h => by cases h) fnSrcset_row_tie rfl ⟨rfl, rfl⟩ (by kernel_rfl) rfl plain (by kernel_rfl)
end Go.Proofs.YtolamblmfejhoaaDoor.fnSrcset
namespace Go.Proofs.YtolamblmfejhoaaDoor
theorem fnSrcset_card : Rows.FnSrcsetCardSaid := fnSrcset.card
end Go.Proofs.YtolamblmfejhoaaDoor
