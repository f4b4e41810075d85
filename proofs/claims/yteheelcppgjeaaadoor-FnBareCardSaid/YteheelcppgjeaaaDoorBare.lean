/-
  A value in an attribute value without quotes is read by the reference as this value again: the law FnBare returns true at every text, whatever memory holds besides.
  Conditions: those of the given row (package-level tables of Go's library read as laid), which the card ties to the program's text; none of our own.
-/
import Derived.Test.YteheelcppgjeaaaDoorRowKit
import Derived.Test.YteheelcppgjeaaaDoorRowB
import Derived.Test.YteheelcppgjeaaaDoorBareB
namespace Go.Proofs.YteheelcppgjeaaaDoor.fnBare
open Go.ChangeShapes Go.WideShapes Go.ChangeAt Go.RowKit
open Go.ChangeMaps (open_string shut_string)
set_option linter.unusedVariables false
set_option linter.unusedSimpArgs false

theorem bareL_le (l : Bytes) : (bareL l).length ≤ 8 * l.length := by
  unfold bareL
  generalize hn : l.length = n
  induction n using Nat.strongRecOn generalizing l with
  | _ n ih =>
    by_cases hl : l = []
    · subst hl; simp [replL_nil]
    · have hp := decL_pos l
      have hle := decL_le l hl
      rw [replL_step _ _ _ l hl, List.length_append]
      have h1 := ih (l.drop (decL l).2).length (by rw [List.length_drop]; omega) (l.drop (decL l).2) rfl
      rw [List.length_drop] at h1
      have h2 : (replOne bareTab 97 false l).length ≤ 8 * (decL l).2 := by
        have ht : (l.take (decL l).2).length ≤ 8 * (decL l).2 := by rw [List.length_take]; omega
        have := bareTab_le (decL l).1
        have hb : (badText (decL l).1).length = 8 := by simp [badText, hex4]
        unfold replOne
        repeat' split
        all_goals omega
      omega

theorem read_back (s v : ByteArray) (w : World) (hv : v.data.toList = bareL s.data.toList) (hs : (s.size : Int) ≤ 2147483647) (hp : plainL s.data.toList = true) (hne : s.data.toList ≠ []) :
    Calls Tryd.prog 14 #[.string v] w fun e w' => e = .returned (.tuple #[.string s, .bool true]) ∧ Below w.heap.size w w' := by
  have h1 := bareL_le s.data.toList
  have h2 := congrArg List.length hv
  simp at h1 h2
  have h3 := bare_reads s.data.toList hp hne
  have h4 : readUnqBad v.data.toList = false ∧ unescL v.data.toList true = s.data.toList := by
    rw [← hv] at h3
    unfold readUnqL at h3
    by_cases hb : readUnqBad v.data.toList = true
    · rw [if_pos hb] at h3; exact absurd (congrArg Prod.snd h3) Bool.false_ne_true
    · rw [if_neg hb] at h3
      exact ⟨by simpa using hb, (Prod.mk.injEq _ _ _ _ ▸ h3).1⟩
  refine (readUnq_ok v w (by omega) h4.1).mono ?_
  rintro e w2 ⟨⟨x, rfl, hx⟩, hb2⟩
  have hxs : x = s := ba_ext (hx.trans h4.2)
  rw [hxs]
  exact ⟨rfl, hb2⟩
set_option maxRecDepth 100000 in
theorem walk (s : ByteArray) (w : World) (hs : s.size ≤ maxLen) (hT : Tabs w) (hB : Bruijn w) :
    Calls Tryd.prog 3 #[.string s] w fun e w' => e = .returned (.bool true) ∧ Below w.heap.size w w' := by
  unfold maxLen at hs
  by_cases hm : (2147483647 : Int) < s.size
  · go_enter Tryd.func3, Tryd.ntmps3
    go_wp2
    go_ret
    exact ⟨rfl, Below.refl _ _⟩
  · have hm' : decide ((2147483647 : Int) < s.size) = false := by rw [decide_eq_false_iff_not]; exact hm
    have HP := Lib.hid (plain_any s w (by omega))
    have HX := Lib.hid (bare_any s w (by omega) hT hB)
    have HZ : Hid ((s.size : Int) ≤ 2147483647) := Lib.hid (by omega)
    have HB := Lib.hid hB
    clear hm hs hB
    cases hp : plainL s.data.toList
    · rw [hp] at HP
      clear hp
      go_enter Tryd.func3, Tryd.ntmps3
      go_wp2_with (go_at_call 13; refine HP.out.mono ?_; rintro e w1 ⟨rfl, rfl⟩)
      go_ret
      exact ⟨rfl, Below.refl _ _⟩
    · rw [hp] at HP
      by_cases hne : s.data.toList = []
      · have e1 : s.toList.isEmpty = true := by rw [Lib.toList_data, hne]; rfl
        have e2 : (s.toList = []) = True := by rw [Lib.toList_data, hne]; simp
        clear hp hne
        go_enter Tryd.func3, Tryd.ntmps3
        go_wp2_with (go_at_call 13; refine HP.out.mono ?_; rintro e w1 ⟨rfl, rfl⟩)
        go_ret
        exact ⟨rfl, Below.refl _ _⟩
      · have e1 : s.toList.isEmpty = false := by rw [Lib.toList_data, List.isEmpty_eq_false_iff]; exact hne
        have e2 : (s.toList = []) = False := by rw [Lib.toList_data]; simp only [hne]
        have HR := Lib.hid (fun v w hv => read_back s v w hv HZ.out hp hne)
        clear hp hne
        go_enter Tryd.func3, Tryd.ntmps3
        go_wp2_with (first
          | (go_at_call 13; refine HP.out.mono ?_; rintro e w1 ⟨rfl, rfl⟩)
          | (go_at_call 15; refine HX.out.mono ?_; rintro e w1 ⟨⟨v, rfl, hv⟩, hb1⟩; have HV := Lib.hid hv; clear hv)
          | (go_at_call 14; refine (HR.out v _ HV.out).mono ?_; rintro e w2 ⟨rfl, hb2⟩))
        go_ret
        exact ⟨rfl, hb1.trans (hb2.mono hb1.size)⟩

/-! ### the row -/
theorem tabs {W : World} (hL : laidMetH Tryd.prog Rows.fnBareRow.laid W) : Tabs W := tabs_of hL (by kernel_rfl) (List.mem_of_getElem? (i := 4) (by kernel_rfl)) (List.mem_of_getElem? (i := 3) (by kernel_rfl))
theorem bru {W : World} (hL : laidMetH Tryd.prog Rows.fnBareRow.laid W) : Bruijn W := bruijn_of hL (by kernel_rfl) (List.mem_of_getElem? (i := 1) (by kernel_rfl))

set_option maxRecDepth 100000 in
theorem contract (H : Type) (enc : TypeId × Value → H) (W : World) (base : Nat) (args : Array Value) (ds gs : List (DataW H)) (before : List MemPlace)
    (hval : ∀ (j : Nat) t v, Tryd.f3.params[j]? = some t → args[j]? = some v → Value.okWide Tryd.prog W .any base t v)
    (hW : DataW.Whole enc Tryd.prog Tryd.f3.params.toList Rows.fnBareSpec.vars false W args.toList ds gs before) (hL : laidMetH Tryd.prog Rows.fnBareRow.laid W) :
    Calls Tryd.prog 3 args W fun e W' => ∃ v, e = .returned v ∧ Rows.fnBareSpec.post enc Tryd.prog Tryd.f3 false true false false W args v W' := by
  have hW' := hW
  obtain ⟨p, q, hA0, hV, rfl, hfz, hnd⟩ := hW
  have hA : DataW.TrodAll enc Tryd.prog W 0 (fun _ => true) true Tryd.f3.params.toList args.toList ds p := hA0
  rw [Tryd.params3] at hA hval
  obtain ⟨v0, vs0, d0, ds0, p0, q0, hargs, rfl, rfl, h0, r0⟩ := trodAll_cons hA
  obtain ⟨rfl, rfl, rfl⟩ := trodAll_nil r0
  obtain rfl : args = #[v0] := by cases args; simp_all
  obtain ⟨rfl, rfl⟩ := trodVars_none hV
  obtain ⟨a0, rfl, rfl, rfl, w0⟩ := open_string Tryd.underlying9 (hval 0 9 v0 rfl rfl) h0
  clear hA0
  simp only [List.append_nil] at hW'
  refine (walk a0 W w0 (tabs hL) (bru hL)).mono fun e W' ⟨he, bel⟩ => ?_
  subst he
  exact ⟨_, rfl, _, _, _, [], [], [], hW', trodAll_mk1 (shut_bool Tryd.underlying4 _), trodAll_cons_mk (shut_string Tryd.underlying9 w0) trodAll_mk0, rfl, bel.frame _, fun h => by cases h⟩

noncomputable def laidWorld (os : Os) : World :=
  { World.holding Tryd.prog os ⟨#[], #[], []⟩ with heap := layOne (layOne (layOne (layOne (layOne ((World.holding Tryd.prog os ⟨#[], #[], []⟩).heap) 8 Rows.laid_math_bits_deBruijn32tab) 9 Rows.laid_math_bits_deBruijn64tab) 7 Rows.laid_internal_strconv_uint64pow10) 3 Rows.laid_unicode_utf8_acceptRanges) 2 Rows.laid_unicode_utf8_first }
theorem laid_met (os : Os) : laidMet Tryd.prog Rows.fnBareRow.laid ((laidWorld os).forCall (fun _ _ => 0) ⟨#[], #[Value.string ByteArray.empty], []⟩).memory :=
  laidMet_of_run' 8 (by kernel_rfl) (by kernel_rfl)
theorem reads (os : Os) {H : Type} (enc : TypeId × Value → H) : ∃ places, DataW.whole enc Tryd.prog ((laidWorld os).forCall (fun _ _ => 0) ⟨#[], #[Value.string ByteArray.empty], []⟩).memory Tryd.f3.params.toList Rows.fnBareSpec.vars false (#[Value.string ByteArray.empty] : Array Value).toList 8 = some ([.lit (.string [])], [], places) :=
  ⟨[], by kernel_rfl⟩

set_option maxRecDepth 100000 in
theorem lifted (os : Os) (started : os.Started) (H : Type) (enc : TypeId × Value → H) (F : Stop.Interp) :
    ReturnsInHanded {} Tryd.checked os 3 .any ((OpenSpec.ofChange Rows.fnBareSpec).preRow enc Tryd.prog Tryd.f3 Rows.fnBareRow.domain false Rows.fnBareRow.laid) (((OpenSpec.ofChange Rows.fnBareSpec).at F).post enc Tryd.prog Tryd.f3 false true false false) := by
  obtain ⟨places, hx⟩ := reads os enc
  refine returnsInHanded_of_row (C := Tryd.checked) (s := OpenSpec.ofChange Rows.fnBareSpec) own started (by kernel_rfl) Tryd.func3
    (witness_row_at (enc := enc) (C := Tryd.checked) false (laidWorld os) #[Value.string ByteArray.empty] rfl (by kernel_rfl) (by kernel_rfl) (by kernel_rfl)
      (OpenSpec.preRow_of_cond 8 hx (by kernel_rfl) (fun k hk => by cases hk) (by kernel_rfl) (laid_met os))) ?_
  intro W base args ds gs before hval hW _ _ _ hL _ _
  exact contract H enc W base args ds gs before hval hW hL

theorem said : Rows.FnBareSaid :=
  OpenClaim.holds_of_cond 3 Tryd.f3 rfl rfl rfl rfl rfl rfl rfl ⟨rfl, rfl, rfl, rfl, rfl⟩ rfl rfl rfl rfl rfl (by kernel_rfl) Tryd.func3 (by kernel_rfl)
    (of_decide_eq_true (by kernel_rfl)) (by unfold Func.isWrapper; first | (rw [if_pos (by decide +kernel)]; kernel_rfl) | (rw [if_neg (by decide +kernel)]; exact ⟨rfl, rfl⟩))
    (fun os started H enc _ F => by rw [OpenClaim.pre_eq_preRow]; exact lifted os started H enc F)

theorem plain (f : FuncId) (fn : Func) (hf : Tryd.pinned.checked.prog.funcNamed "htmlescapers/laws.FnBare" = some f) (hfn : Tryd.pinned.checked.prog.funcs[f]? = some fn) :
    false = Tryd.pinned.checked.prog.looks [] ∧ ∀ (j : Nat) t, fn.params[j]? = some t → Tryd.pinned.checked.prog.wantsStandIn t = false := by
  obtain rfl : f = 3 := Option.some.inj ((show Tryd.prog.funcNamed "htmlescapers/laws.FnBare" = some 3 by kernel_rfl).symm.trans hf) |>.symm
  obtain rfl : fn = Tryd.f3 := (Option.some.inj (Tryd.func3.symm.trans hfn)).symm
  refine ⟨by kernel_rfl, fun j t ht => ?_⟩
  rw [Tryd.params3] at ht
  obtain rfl : t = 9 := by simpa using Array.mem_of_getElem? ht
  exact (show Tryd.prog.wantsStandIn 9 = false by kernel_rfl)

theorem card : Rows.FnBareCardSaid :=
  Claim7.holds_tied_plain_at .later [] _ _ _ _ said (fun _ h => by cases h) (by kernel_rfl) (fun _ h => by cases h) fnBare_row_tie rfl ⟨rfl, rfl⟩ (by kernel_rfl) rfl plain (by kernel_rfl)
end Go.Proofs.YteheelcppgjeaaaDoor.fnBare
namespace Go.Proofs.YteheelcppgjeaaaDoor
theorem fnBare_card : Rows.FnBareCardSaid := fnBare.card
end Go.Proofs.YteheelcppgjeaaaDoor
