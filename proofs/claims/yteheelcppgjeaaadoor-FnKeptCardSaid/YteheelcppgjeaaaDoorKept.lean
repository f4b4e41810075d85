/-
HTML in a quoted attribute value is read by the reference as it is read itself there: the law FnKept returns true at every text, whatever memory holds besides.
  Conditions: those of the given row (package-level tables of Go's library read as laid), which the card ties to the program's text; none of our own.
-/
import Derived.Test.YteheelcppgjeaaaDoorRowKit
import Derived.Test.YteheelcppgjeaaaDoorSpecM
import Derived.Test.YteheelcppgjeaaaDoorLawG
import Derived.Test.YteheelcppgjeaaaDoorHtmlD
namespace Go.Proofs.YteheelcppgjeaaaDoor.fnKept
open Go.ChangeShapes Go.WideShapes Go.ChangeAt Go.RowKit
open Go.ChangeMaps (open_string shut_string)
set_option linter.unusedVariables false
set_option linter.unusedSimpArgs false

theorem keptL_le (l : Bytes) : (keptL l).length ≤ 5 * l.length := by
  unfold keptL
  generalize hn : l.length = n
  induction n using Nat.strongRecOn generalizing l with
  | _ n ih =>
    by_cases hl : l = []
    · subst hl; simp [replL_nil]
    · have hp := decL_pos l
      have hle := decL_le l hl
      rw [replL_step _ _ _ l hl, List.length_append]
      have h1 := ih (l.drop (decL l).2).length (by rw [List.length_drop]; omega) (l.drop (decL l).2) rfl
      rw [List.length_drop] at h1
      have h2 : (replOne normTab 63 true l).length ≤ 5 * (decL l).2 := by
        have ht : (l.take (decL l).2).length ≤ 5 * (decL l).2 := by rw [List.length_take]; omega
        have hT : ∀ r, (normTab r).length ≤ 5 := by
          intro r
          unfold normTab
          repeat' split
          all_goals decide
        have := hT (decL l).1
        unfold replOne
        repeat' split
        all_goals first | omega | simp_all
      omega
theorem read_back (s v x : ByteArray) (q : Nat) (hq : q = 34 ∨ q = 39) (w : World) (hv : v.data.toList = keptL s.data.toList) (hs : (s.size : Int) ≤ 2147483647) (hr : readL s.data.toList 0 true = (x.data.toList, true)) :
    Calls Tryd.prog 20 #[.string v, .int .u8 q] w fun e w' => e = .returned (.tuple #[.string x, .bool true]) ∧ Below w.heap.size w w' := by
  have h1 := keptL_le s.data.toList
  have h2 := congrArg List.length hv
  simp at h1 h2
  refine (readQuoted_any v q w (by omega)).mono ?_
  rintro e w2 ⟨hv2, hb2⟩
  rw [hv, keptL_reads q hq s.data.toList _ hr] at hv2
  obtain ⟨y, rfl, hy⟩ := hv2
  have hxs : y = x := ba_ext hy
  rw [hxs]
  exact ⟨rfl, hb2⟩
theorem read_first (s : ByteArray) (w : World) (hs : (s.size : Int) ≤ 2147483647) : ∃ (x : ByteArray) (b : Bool), readL s.data.toList 0 true = (x.data.toList, b) ∧
    ∀ w, Calls Tryd.prog 20 #[.string s, .int .u8 0] w fun e w' => e = .returned (.tuple #[.string x, .bool b]) ∧ Below w.heap.size w w' := by
  refine ⟨⟨(readL s.data.toList 0 true).1.toArray⟩, (readL s.data.toList 0 true).2, by simp, fun w => ?_⟩
  refine (readQuoted_any s 0 w (by omega)).mono ?_
  rintro e w2 ⟨⟨y, rfl, hy⟩, hb2⟩
  have hxs : y = ⟨(readL s.data.toList 0 true).1.toArray⟩ := ba_ext (by rw [hy])
  rw [hxs]
  exact ⟨rfl, hb2⟩

set_option maxRecDepth 100000 in
set_option maxHeartbeats 8000000 in
theorem walk (s : ByteArray) (w : World) (hs : s.size ≤ maxLen) (hT : Tabs w) :
    Calls Tryd.prog 6 #[.string s] w fun e w' => e = .returned (.bool true) ∧ Below w.heap.size w w' := by
  unfold maxLen at hs
  by_cases hm : (2147483647 : Int) < s.size
  · go_enter Tryd.func6, Tryd.ntmps6
    go_wp2
    go_ret
    exact ⟨rfl, Below.refl _ _⟩
  · have hm' : decide ((2147483647 : Int) < s.size) = false := by rw [decide_eq_false_iff_not]; exact hm
    have HP := Lib.hid (fun w => plain_any s w (by omega))
    have HX := Lib.hid (fun w hT => kept_any s w (by omega) hT)
    have HZ : Hid ((s.size : Int) ≤ 2147483647) := Lib.hid (by omega)
    clear hm hs
    obtain ⟨x, b, hr, hcall⟩ := read_first s w HZ.out
    have HC := Lib.hid hcall
    clear hcall
    cases b
    · clear hr
      go_enter Tryd.func6, Tryd.ntmps6
      go_wp2_with (go_at_call 20; refine (HC.out _).mono ?_; rintro e w1 ⟨rfl, hb⟩)
      go_ret
      exact ⟨rfl, hb⟩
    · cases hp : plainL s.data.toList
      · rw [hp] at HP
        clear hr hp
        go_enter Tryd.func6, Tryd.ntmps6
        go_wp2_with (first
          | (go_at_call 20; refine (HC.out _).mono ?_; rintro e w1 ⟨rfl, hb⟩)
          | (go_at_call 13; refine (HP.out _).mono ?_; rintro e w2 ⟨rfl, rfl⟩))
        go_ret
        exact ⟨rfl, hb⟩
      · rw [hp] at HP
        have HR := Lib.hid (fun v q w hq hv => read_back s v x q hq w hv HZ.out hr)
        clear hr hp
        have HN : Hid True := Lib.hid trivial
        have HM : Hid True := Lib.hid trivial
        have H34 := Lib.hid (fun v w hv => HR.out v 34 w (.inl rfl) hv)
        have H39 := Lib.hid (fun v w hv => HR.out v 39 w (.inr rfl) hv)
        clear HR
        go_enter Tryd.func6, Tryd.ntmps6
        go_wp2_with (first
          | (clear HN; go_at_call 20; refine (HC.out _).mono ?_; rintro e w1 ⟨rfl, hb⟩; have hT1 := hT.keep hb (Nat.le_refl _); clear HC)
          | (go_at_call 13; refine (HP.out _).mono ?_; rintro e w2 ⟨rfl, rfl⟩)
          | (go_at_call 21; refine (HX.out _ hT1).mono ?_; rintro e w2 ⟨⟨v, rfl, hv⟩, hb1⟩; have HV := Lib.hid hv; clear hv; have hT2 := hT1.keep hb1 (Nat.le_refl _))
          | (clear HM; go_at_call 20; refine (H34.out v _ HV.out).mono ?_; rintro e w3 ⟨rfl, hb2⟩; have hT3 := hT2.keep hb2 (Nat.le_refl _))
          | (go_at_call 20; refine (H39.out v _ HV.out).mono ?_; rintro e w4 ⟨rfl, hb3⟩; have hT4 := hT3.keep hb3 (Nat.le_refl _))
          | (go_at_call 18; refine (works_any _ hT4).mono ?_; rintro e w5 ⟨rfl, hb4⟩))
        go_ret
        have s1 := hb.size
        have s2 := hb1.size
        have s3 := hb2.size
        have s4 := hb3.size
        exact ⟨rfl, (((hb.trans (hb1.mono s1)).trans (hb2.mono (by omega))).trans (hb3.mono (by omega))).trans (hb4.mono (by omega))⟩

/-! ### the row -/
theorem tabs {W : World} (h : laidMetH Tryd.prog Rows.fnKeptRow.laid W) : Tabs W :=
  tabs_of h (by kernel_rfl) (List.mem_of_getElem? (i := 4) (by kernel_rfl)) (List.mem_of_getElem? (i := 3) (by kernel_rfl))

set_option maxRecDepth 100000 in
theorem contract (H : Type) (enc : TypeId × Value → H) (W : World) (base : Nat) (args : Array Value) (ds gs : List (DataW H)) (before : List MemPlace)
    (hval : ∀ (j : Nat) t v, Tryd.f6.params[j]? = some t → args[j]? = some v → Value.okWide Tryd.prog W .any base t v)
    (hW : DataW.Whole enc Tryd.prog Tryd.f6.params.toList Rows.fnKeptSpec.vars false W args.toList ds gs before) (hL : laidMetH Tryd.prog Rows.fnKeptRow.laid W) :
    Calls Tryd.prog 6 args W fun e W' => ∃ v, e = .returned v ∧ Rows.fnKeptSpec.post enc Tryd.prog Tryd.f6 false true false false W args v W' := by
  have hW' := hW
  obtain ⟨p, q, hA0, hV, rfl, hfz, hnd⟩ := hW
  have hA : DataW.TrodAll enc Tryd.prog W 0 (fun _ => true) true Tryd.f6.params.toList args.toList ds p := hA0
  rw [Tryd.params6] at hA hval
  obtain ⟨v0, vs0, d0, ds0, p0, q0, hargs, rfl, rfl, h0, r0⟩ := trodAll_cons hA
  obtain ⟨rfl, rfl, rfl⟩ := trodAll_nil r0
  obtain rfl : args = #[v0] := by cases args; simp_all
  obtain ⟨rfl, rfl⟩ := trodVars_none hV
  obtain ⟨a0, rfl, rfl, rfl, w0⟩ := open_string Tryd.underlying9 (hval 0 9 v0 rfl rfl) h0
  clear hA0
  simp only [List.append_nil] at hW'
  refine (walk a0 W w0 (tabs hL)).mono fun e W' ⟨he, bel⟩ => ?_
  subst he
  exact ⟨_, rfl, _, _, _, [], [], [], hW', trodAll_mk1 (shut_bool Tryd.underlying4 _), trodAll_cons_mk (shut_string Tryd.underlying9 w0) trodAll_mk0, rfl, bel.frame _, fun h => by cases h⟩

noncomputable def laidWorld (os : Os) : World :=
  { World.holding Tryd.prog os ⟨#[], #[], []⟩ with heap := layOne (layOne (layOne (layOne (layOne ((World.holding Tryd.prog os ⟨#[], #[], []⟩).heap) 8 Rows.laid_math_bits_deBruijn32tab) 9 Rows.laid_math_bits_deBruijn64tab) 7 Rows.laid_internal_strconv_uint64pow10) 3 Rows.laid_unicode_utf8_acceptRanges) 2 Rows.laid_unicode_utf8_first }
theorem laid_met (os : Os) : laidMet Tryd.prog Rows.fnKeptRow.laid ((laidWorld os).forCall (fun _ _ => 0) ⟨#[], #[.string ByteArray.empty], []⟩).memory :=
  laidMet_of_run' 8 (by kernel_rfl) (by kernel_rfl)
theorem reads (os : Os) {H : Type} (enc : TypeId × Value → H) : ∃ places, DataW.whole enc Tryd.prog ((laidWorld os).forCall (fun _ _ => 0) ⟨#[], #[.string ByteArray.empty], []⟩).memory Tryd.f6.params.toList Rows.fnKeptSpec.vars false #[Value.string ByteArray.empty].toList 8 = some ([.lit (.string [])], [], places) :=
  ⟨[], by kernel_rfl⟩

set_option maxRecDepth 100000 in
theorem lifted (os : Os) (started : os.Started) (H : Type) (enc : TypeId × Value → H) (F : Stop.Interp) :
    ReturnsInHanded {} Tryd.checked os 6 .any ((OpenSpec.ofChange Rows.fnKeptSpec).preRow enc Tryd.prog Tryd.f6 Rows.fnKeptRow.domain false Rows.fnKeptRow.laid) (((OpenSpec.ofChange Rows.fnKeptSpec).at F).post enc Tryd.prog Tryd.f6 false true false false) := by
  obtain ⟨places, hx⟩ := reads os enc
  refine returnsInHanded_of_row (C := Tryd.checked) (s := OpenSpec.ofChange Rows.fnKeptSpec) own started (by kernel_rfl) Tryd.func6
    (witness_row_at (enc := enc) (C := Tryd.checked) false (laidWorld os) #[.string ByteArray.empty] rfl (by kernel_rfl) (by kernel_rfl) (by kernel_rfl)
      (OpenSpec.preRow_of_cond 8 hx (by kernel_rfl) (fun k hk => by cases hk) (by kernel_rfl) (laid_met os))) ?_
  intro W base args ds gs before hval hW _ _ _ hL _ _
  exact contract H enc W base args ds gs before hval hW hL

theorem said : Rows.FnKeptSaid :=
  OpenClaim.holds_of_cond 6 Tryd.f6 rfl rfl rfl rfl rfl rfl rfl ⟨rfl, rfl, rfl, rfl, rfl⟩ rfl rfl rfl rfl rfl (by kernel_rfl) Tryd.func6 (by kernel_rfl)
    (of_decide_eq_true (by kernel_rfl)) (by unfold Func.isWrapper; first | (rw [if_pos (by decide +kernel)]; kernel_rfl) | (rw [if_neg (by decide +kernel)]; exact ⟨rfl, rfl⟩))
    (fun os started H enc _ F => by rw [OpenClaim.pre_eq_preRow]; exact lifted os started H enc F)

theorem plain (f : FuncId) (fn : Func) (hf : Tryd.pinned.checked.prog.funcNamed "htmlescapers/laws.FnKept" = some f) (hfn : Tryd.pinned.checked.prog.funcs[f]? = some fn) :
    false = Tryd.pinned.checked.prog.looks [] ∧ ∀ (j : Nat) t, fn.params[j]? = some t → Tryd.pinned.checked.prog.wantsStandIn t = false := by
  obtain rfl : f = 6 := Option.some.inj ((show Tryd.prog.funcNamed "htmlescapers/laws.FnKept" = some 6 by kernel_rfl).symm.trans hf) |>.symm
  obtain rfl : fn = Tryd.f6 := (Option.some.inj (Tryd.func6.symm.trans hfn)).symm
  refine ⟨by kernel_rfl, fun j t ht => ?_⟩
  rw [Tryd.params6] at ht
  obtain rfl : t = 9 := by simpa using Array.mem_of_getElem? ht
  exact (show Tryd.prog.wantsStandIn 9 = false by kernel_rfl)

theorem card : Rows.FnKeptCardSaid :=
  Claim7.holds_tied_plain_at .later [] _ _ _ _ said (fun _ h => by cases h) (by kernel_rfl) (fun _ h => by cases h) fnKept_row_tie rfl ⟨rfl, rfl⟩ (by kernel_rfl) rfl plain (by kernel_rfl)
end Go.Proofs.YteheelcppgjeaaaDoor.fnKept
namespace Go.Proofs.YteheelcppgjeaaaDoor
theorem fnKept_card : Rows.FnKeptCardSaid := fnKept.card
end Go.Proofs.YteheelcppgjeaaaDoor
