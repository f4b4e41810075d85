/-
A value in a title or textarea is read by the reference as this text again: the law FnRCData returns true at every text, whatever memory holds besides.
  Conditions: those of the given row (package-level tables of Go's library read as laid), which the card ties to the program's text; none of our own.
-/
import Derived.Test.YteheelcppgjeaaaDoorRowKit
import Derived.Test.YteheelcppgjeaaaDoorSpecM
import Derived.Test.YteheelcppgjeaaaDoorLawB
import Derived.Test.YteheelcppgjeaaaDoorHtmlC
namespace Go.Proofs.YteheelcppgjeaaaDoor.fnRCData
open Go.ChangeShapes Go.WideShapes Go.ChangeAt Go.RowKit
open Go.ChangeMaps (open_string shut_string)
set_option linter.unusedVariables false
set_option linter.unusedSimpArgs false

theorem textL_le (l : Bytes) : (textL l).length ≤ 5 * l.length := by
  unfold textL
  generalize hn : l.length = n
  induction n using Nat.strongRecOn generalizing l with
  | _ n ih =>
    by_cases hl : l = []
    · subst hl; simp [replL_nil]
    · have hp := decL_pos l
      have hle := decL_le l hl
      rw [replL_step _ _ _ l hl, List.length_append]
      have h1 := ih (l.drop (decL l).2).length (by rw [List.length_drop]; omega) (l.drop (decL l).2) rfl
      rw [List.length_drop] at h1
      have h2 : (replOne htmlTab 63 true l).length ≤ 5 * (decL l).2 := by
        have ht : (l.take (decL l).2).length ≤ 5 * (decL l).2 := by rw [List.length_take]; omega
        have hT : ∀ r, (htmlTab r).length ≤ 5 := by
          intro r
          unfold htmlTab
          repeat' split
          all_goals decide
        have := hT (decL l).1
        unfold replOne
        repeat' split
        all_goals first | omega | simp_all
      omega

theorem read_back (s v : ByteArray) (w : World) (hv : v.data.toList = textL s.data.toList) (hs : (s.size : Int) ≤ 2147483647) (hp : plainL s.data.toList = true) :
    Calls Tryd.prog 16 #[.string v] w fun e w' => e = .returned (.tuple #[.string s, .bool true]) ∧ Below w.heap.size w w' := by
  have h1 := textL_le s.data.toList
  have h2 := congrArg List.length hv
  simp at h1 h2
  refine (readText_any v w (by omega)).mono ?_
  rintro e w2 ⟨hv2, hb2⟩
  rw [hv, text_reads false 60 (.inl rfl) s.data.toList hp] at hv2
  obtain ⟨x, rfl, hx⟩ := hv2
  have hxs : x = s := ba_ext hx
  rw [hxs]
  exact ⟨rfl, hb2⟩
set_option maxRecDepth 100000 in
theorem walk (s : ByteArray) (w : World) (hs : s.size ≤ maxLen) (hT : Tabs w) :
    Calls Tryd.prog 7 #[.string s] w fun e w' => e = .returned (.bool true) ∧ Below w.heap.size w w' := by
  unfold maxLen at hs
  by_cases hm : (2147483647 : Int) < s.size
  · go_enter Tryd.func7, Tryd.ntmps7
    go_wp2
    go_ret
    exact ⟨rfl, Below.refl _ _⟩
  · have hm' : decide ((2147483647 : Int) < s.size) = false := by rw [decide_eq_false_iff_not]; exact hm
    have HP := Lib.hid (plain_any s w (by omega))
    have HX := Lib.hid (rcdata_any s w (by omega) hT)
    have HZ : Hid ((s.size : Int) ≤ 2147483647) := Lib.hid (by omega)
    clear hm hs
    cases hp : plainL s.data.toList
    · rw [hp] at HP
      clear hp
      go_enter Tryd.func7, Tryd.ntmps7
      go_wp2_with (go_at_call 13; refine HP.out.mono ?_; rintro e w1 ⟨rfl, rfl⟩)
      go_ret
      exact ⟨rfl, Below.refl _ _⟩
    · rw [hp] at HP
      have HR := Lib.hid (fun v w hv => read_back s v w hv HZ.out hp)
      clear hp
      go_enter Tryd.func7, Tryd.ntmps7
      go_wp2_with (first
        | (go_at_call 13; refine HP.out.mono ?_; rintro e w1 ⟨rfl, rfl⟩)
        | (go_at_call 22; refine HX.out.mono ?_; rintro e w1 ⟨⟨v, rfl, hv⟩, hb1⟩; have HV := Lib.hid hv; clear hv; have hT1 := hT.keep hb1 (Nat.le_refl _))
        | (go_at_call 16; refine (HR.out v _ HV.out).mono ?_; rintro e w2 ⟨rfl, hb2⟩; have hT2 := hT1.keep hb2 (Nat.le_refl _))
        | (go_at_call 18; refine (works_any _ hT2).mono ?_; rintro e w3 ⟨rfl, hb3⟩))
      go_ret
      exact ⟨rfl, (hb1.trans (hb2.mono hb1.size)).trans (hb3.mono (Nat.le_trans hb1.size hb2.size))⟩

/-! ### the row -/
theorem tabs {W : World} (h : laidMetH Tryd.prog Rows.fnRCDataRow.laid W) : Tabs W :=
  tabs_of h (by kernel_rfl) (List.mem_of_getElem? (i := 4) (by kernel_rfl)) (List.mem_of_getElem? (i := 3) (by kernel_rfl))

set_option maxRecDepth 100000 in
theorem contract (H : Type) (enc : TypeId × Value → H) (W : World) (base : Nat) (args : Array Value) (ds gs : List (DataW H)) (before : List MemPlace)
    (hval : ∀ (j : Nat) t v, Tryd.f7.params[j]? = some t → args[j]? = some v → Value.okWide Tryd.prog W .any base t v)
    (hW : DataW.Whole enc Tryd.prog Tryd.f7.params.toList Rows.fnRCDataSpec.vars false W args.toList ds gs before) (hL : laidMetH Tryd.prog Rows.fnRCDataRow.laid W) :
    Calls Tryd.prog 7 args W fun e W' => ∃ v, e = .returned v ∧ Rows.fnRCDataSpec.post enc Tryd.prog Tryd.f7 false true false false W args v W' := by
  have hW' := hW
  obtain ⟨p, q, hA0, hV, rfl, hfz, hnd⟩ := hW
  have hA : DataW.TrodAll enc Tryd.prog W 0 (fun _ => true) true Tryd.f7.params.toList args.toList ds p := hA0
  rw [Tryd.params7] at hA hval
  obtain ⟨v0, vs0, d0, ds0, p0, q0, hargs, rfl, rfl, h0, r0⟩ := trodAll_cons hA
  obtain ⟨rfl, rfl, rfl⟩ := trodAll_nil r0
  obtain rfl : args = #[v0] := by cases args; simp_all
  obtain ⟨rfl, rfl⟩ := trodVars_none hV
  obtain ⟨a0, rfl, rfl, rfl, w0⟩ := open_string Tryd.underlying9 (hval 0 9 v0 rfl rfl) h0
  clear hA0
  simp only [List.append_nil] at hW'
  refine (walk a0 W w0 (tabs hL)).mono fun e W' ⟨he, bel⟩ => ?_
  subst he
  exact ⟨_, rfl, _, _, _, [], [], [], hW', trodAll_mk1 (shut_bool Tryd.underlying4 _), trodAll_cons_mk (shut_string Tryd.underlying9 w0) trodAll_mk0, rfl, bel.frame _, fun h => by cases h⟩

noncomputable def laidWorld (os : Os) : World :=
  { World.holding Tryd.prog os ⟨#[], #[], []⟩ with heap := layOne (layOne (layOne (layOne (layOne ((World.holding Tryd.prog os ⟨#[], #[], []⟩).heap) 8 Rows.laid_math_bits_deBruijn32tab) 9 Rows.laid_math_bits_deBruijn64tab) 7 Rows.laid_internal_strconv_uint64pow10) 3 Rows.laid_unicode_utf8_acceptRanges) 2 Rows.laid_unicode_utf8_first }
theorem laid_met (os : Os) : laidMet Tryd.prog Rows.fnRCDataRow.laid ((laidWorld os).forCall (fun _ _ => 0) ⟨#[], #[.string ByteArray.empty], []⟩).memory :=
  laidMet_of_run' 8 (by kernel_rfl) (by kernel_rfl)
theorem reads (os : Os) {H : Type} (enc : TypeId × Value → H) : ∃ places, DataW.whole enc Tryd.prog ((laidWorld os).forCall (fun _ _ => 0) ⟨#[], #[.string ByteArray.empty], []⟩).memory Tryd.f7.params.toList Rows.fnRCDataSpec.vars false #[Value.string ByteArray.empty].toList 8 = some ([.lit (.string [])], [], places) :=
  ⟨[], by kernel_rfl⟩

set_option maxRecDepth 100000 in
theorem lifted (os : Os) (started : os.Started) (H : Type) (enc : TypeId × Value → H) (F : Stop.Interp) :
    ReturnsInHanded {} Tryd.checked os 7 .any ((OpenSpec.ofChange Rows.fnRCDataSpec).preRow enc Tryd.prog Tryd.f7 Rows.fnRCDataRow.domain false Rows.fnRCDataRow.laid) (((OpenSpec.ofChange Rows.fnRCDataSpec).at F).post enc Tryd.prog Tryd.f7 false true false false) := by
  obtain ⟨places, hx⟩ := reads os enc
  refine returnsInHanded_of_row (C := Tryd.checked) (s := OpenSpec.ofChange Rows.fnRCDataSpec) own started (by kernel_rfl) Tryd.func7
    (witness_row_at (enc := enc) (C := Tryd.checked) false (laidWorld os) #[.string ByteArray.empty] rfl (by kernel_rfl) (by kernel_rfl) (by kernel_rfl)
      (OpenSpec.preRow_of_cond 8 hx (by kernel_rfl) (fun k hk => by cases hk) (by kernel_rfl) (laid_met os))) ?_
  intro W base args ds gs before hval hW _ _ _ hL _ _
  exact contract H enc W base args ds gs before hval hW hL

theorem said : Rows.FnRCDataSaid :=
  OpenClaim.holds_of_cond 7 Tryd.f7 rfl rfl rfl rfl rfl rfl rfl ⟨rfl, rfl, rfl, rfl, rfl⟩ rfl rfl rfl rfl rfl (by kernel_rfl) Tryd.func7 (by kernel_rfl)
    (of_decide_eq_true (by kernel_rfl)) (by unfold Func.isWrapper; first | (rw [if_pos (by decide +kernel)]; kernel_rfl) | (rw [if_neg (by decide +kernel)]; exact ⟨rfl, rfl⟩))
    (fun os started H enc _ F => by rw [OpenClaim.pre_eq_preRow]; exact lifted os started H enc F)

theorem plain (f : FuncId) (fn : Func) (hf : Tryd.pinned.checked.prog.funcNamed "htmlescapers/laws.FnRCData" = some f) (hfn : Tryd.pinned.checked.prog.funcs[f]? = some fn) :
    false = Tryd.pinned.checked.prog.looks [] ∧ ∀ (j : Nat) t, fn.params[j]? = some t → Tryd.pinned.checked.prog.wantsStandIn t = false := by
  obtain rfl : f = 7 := Option.some.inj ((show Tryd.prog.funcNamed "htmlescapers/laws.FnRCData" = some 7 by kernel_rfl).symm.trans hf) |>.symm
  obtain rfl : fn = Tryd.f7 := (Option.some.inj (Tryd.func7.symm.trans hfn)).symm
  refine ⟨by kernel_rfl, fun j t ht => ?_⟩
  rw [Tryd.params7] at ht
  obtain rfl : t = 9 := by simpa using Array.mem_of_getElem? ht
  exact (show Tryd.prog.wantsStandIn 9 = false by kernel_rfl)

theorem card : Rows.FnRCDataCardSaid :=
  Claim7.holds_tied_plain_at .later [] _ _ _ _ said (fun _ h => by cases h) (by kernel_rfl) (fun _ h => by cases h) fnRCData_row_tie rfl ⟨rfl, rfl⟩ (by kernel_rfl) rfl plain (by kernel_rfl)
end Go.Proofs.YteheelcppgjeaaaDoor.fnRCData
namespace Go.Proofs.YteheelcppgjeaaaDoor
theorem fnRCData_card : Rows.FnRCDataCardSaid := fnRCData.card
end Go.Proofs.YteheelcppgjeaaaDoor
