/-
  Behind a word, a number or a closing square bracket a slash divides, behind an operator, an opening bracket or a word such as return it begins a regular expression, and blanks alone change nothing: the law FnSlash returns true at every text and number, whatever memory holds besides.
  Conditions: those of the given row (package-level tables of Go's library read as laid), which the card ties to the program's text; none of our own.
-/
import Derived.Test.YtolamblmfejhoaaDoorRowKit
import Derived.Test.YtolamblmfejhoaaDoorSla
import Derived.Test.YtolamblmfejhoaaDoorDiv
import Derived.Test.YtolamblmfejhoaaDoorHtmlB
import Derived.Test.YtolamblmfejhoaaDoorRowL
namespace Go.Proofs.YtolamblmfejhoaaDoor.fnSlash
open Go.ChangeShapes Go.WideShapes Go.ChangeAt Go.RowKit
open Go.ChangeMaps (open_string shut_string)
set_option linter.unusedVariables false
set_option linter.unusedSimpArgs false

def blSet : Bytes := [32, 9, 10, 12, 13]
theorem blank_of (c : Nat) (h : hasB blSet c = true) : blankJ c = true := by
  unfold hasB blSet at h
  simp at h
  unfold blankJ
  simp
  omega
set_option maxRecDepth 100000 in
set_option maxHeartbeats 800000 in
theorem walk (s : ByteArray) (before : Int) (w : World) (hs : s.size ≤ maxLen) (hbf : (Lit.int .i64 before).wf = true) (hT : Tabs w) :
    Calls Tryd.prog 5 #[.string s, .int .i64 before] w fun e w' => e = .returned (.bool true) ∧ Below w.heap.size w w' := by
  have hs0 := hs
  unfold maxLen at hs
  by_cases hm : (2147483647 : Int) < s.size
  · have hm' : decide ((2147483647 : Int) < s.size) = true := by rw [decide_eq_true_eq]; exact hm
    clear hm hbf
    go_enter Tryd.func5, Tryd.ntmps5
    go_wp2
    go_ret
    exact ⟨rfl, Below.refl _ _⟩
  have hm' : decide ((2147483647 : Int) < s.size) = false := by rw [decide_eq_false_iff_not]; exact hm
  by_cases hb0 : before < 0
  · clear hbf
    go_enter Tryd.func5, Tryd.ntmps5
    go_wp2
    go_ret
    exact ⟨rfl, Below.refl _ _⟩
  by_cases hb1 : 1 < before
  · clear hbf
    go_enter Tryd.func5, Tryd.ntmps5
    go_wp2
    go_ret
    exact ⟨rfl, Below.refl _ _⟩
  obtain ⟨n, rfl, hn⟩ : ∃ n : Nat, before = (n : Int) ∧ n ≤ 1 := ⟨before.toNat, by omega, by omega⟩
  have hz : (s.size : Int) ≤ 17179869184 := by omega
  have HH := Lib.hid (fun (c : Nat) (w : World) => has_any ⟨#[32, 9, 10, 12, 13]⟩ c w (by decide))
  have hlen : s.data.toList.length = s.size := by simp
  have HSB := Lib.hid (slash_blank s.data.toList n)
  have HSL := Lib.hid (slash_law s.data.toList n)
  have HSA := Lib.hid (fun (w : World) (hA : Ascii s) => slash_any s n w hz hA hn)
  have HDV := Lib.hid (fun (w : World) => divides_any s w hz)
  have HT := Lib.hid hT
  clear hT hbf hm hs hs0
  go_enter Tryd.func5, Tryd.ntmps5
  go_wp2_with fail
  go_loopg [5, 20] s.size (fun g s5 s20 wx => w = wx ∧ ∃ (k : Nat) (bl : Bool), k + g = s.size ∧ s20 = .int .i64 k ∧ s5 = .bool bl ∧ Hid ((∀ i, i < k → at0 s.data.toList i < 128) ∧ (bl = true → ∀ i, i < k → blankJ (at0 s.data.toList i) = true)))
  case atStart => exact ⟨rfl, 0, true, by omega, rfl, rfl, Lib.hid ⟨fun i hi => by omega, fun _ i hi => by omega⟩⟩
  case round =>
    obtain ⟨rfl, k, bl, hkg, rfl, rfl, HI⟩ := hrel
    cases gk with
    | zero =>
      have hk : ¬ ((k : Int) < (s.size : Int)) := by omega
      obtain rfl : k = s.size := by omega
      have hA : Ascii s := fun i hi => by rw [← at0_get s i hi]; exact HI.out.1 i hi
      have HA := Lib.hid hA
      clear hA
      cases bl with
      | true =>
        have hsl := HSB.out (fun i hi => HI.out.2 rfl i (by omega))
        have HS2 := Lib.hid (fun w => HSA.out w HA.out)
        rw [hsl] at HS2
        clear hsl
        go_wp2_with (first
          | (go_at_call 8; refine (works_any _ HT.out).mono ?_; rintro e w1 ⟨rfl, hb1⟩)
          | (go_at_call 13; refine (HS2.out _).mono ?_; rintro e w2 ⟨rfl, hb2⟩))
        go_ret
        exact ⟨rfl, hb1.trans (hb2.mono hb1.size)⟩
      | false =>
        obtain ⟨dw, dk, hd⟩ : ∃ dw dk, dividesN s.data.toList = (dw, dk) := ⟨_, _, rfl⟩
        rw [hd] at HDV
        have hsl := HSL.out dw
        have HS2 := Lib.hid (fun w => HSA.out w HA.out)
        cases dk with
        | true =>
          rw [hsl hd] at HS2
          clear hsl hd
          go_wp2_with (first
            | (go_at_call 8; refine (works_any _ (HT.out.keep hb0 (Nat.le_refl _))).mono ?_; rintro e w1 ⟨rfl, hb1⟩)
            | (go_at_call 14; refine (HDV.out _).mono ?_; rintro e w0 ⟨rfl, hb0⟩)
            | (go_at_call 13; refine (HS2.out _).mono ?_; rintro e w2 ⟨rfl, hb2⟩))
          go_ret
          exact ⟨rfl, hb0.trans ((hb1.trans (hb2.mono hb1.size)).mono hb0.size)⟩
        | false =>
          clear hsl hd
          go_wp2_with (first
            | (go_at_call 8; refine (works_any _ (HT.out.keep hb0 (Nat.le_refl _))).mono ?_; rintro e w1 ⟨rfl, hb1⟩)
            | (go_at_call 14; refine (HDV.out _).mono ?_; rintro e w0 ⟨rfl, hb0⟩))
          go_ret
          exact ⟨rfl, hb0.trans (hb1.mono hb0.size)⟩
    | succ g =>
      have hk : (k : Int) < (s.size : Int) := by omega
      have hkn : k < s.size := by omega
      obtain ⟨x, hx⟩ : ∃ x : UInt8, s[k]'hkn = x := ⟨_, rfl⟩
      have hat : at0 s.data.toList k = x.toNat := by rw [at0_get s k hkn, hx]
      by_cases h128 : x.toNat < 128
      · have hz128 : ¬ ((128 : Int) ≤ (x.toNat : Int)) := by omega
        obtain ⟨hb, hhb⟩ : ∃ hb, hasB blSet x.toNat = hb := ⟨_, rfl⟩
        have HH2 : Hid (∀ w, Calls Tryd.prog 9 #[.string ⟨#[32, 9, 10, 12, 13]⟩, .int .u8 x.toNat] w fun e w' => e = .returned (.bool hb) ∧ w = w') := Lib.hid fun w => by rw [← hhb]; exact HH.out x.toNat w
        have HNX : Hid (∀ bl', (bl' = true → bl = true ∧ hb = true) → (∀ i, i < k + 1 → at0 s.data.toList i < 128) ∧ (bl' = true → ∀ i, i < k + 1 → blankJ (at0 s.data.toList i) = true)) := Lib.hid fun bl' h => by
          refine ⟨fun i hi => ?_, fun ht i hi => ?_⟩
          · rcases (by omega : i < k ∨ i = k) with h1 | rfl
            · exact HI.out.1 i h1
            · rw [hat]; exact h128
          · obtain ⟨h2, h3⟩ := h ht
            rcases (by omega : i < k ∨ i = k) with h1 | rfl
            · exact HI.out.2 h2 i h1
            · rw [hat]; exact blank_of _ (by rw [hhb, h3])
        clear HI hat hhb
        cases bl with
        | true =>
          go_wp2_with (go_at_call 9; refine (HH2.out _).mono ?_; rintro e w2 ⟨rfl, rfl⟩)
          go_roundg g
          case measure => omega
          case rel => exact ⟨rfl, k + 1, hb, by omega, by first | rfl | simp, rfl, Lib.hid (HNX.out hb (fun h => ⟨by first | rfl | trivial, h⟩))⟩
        | false =>
          go_wp2_with fail
          go_roundg g
          case measure => omega
          case rel => exact ⟨rfl, k + 1, false, by omega, by first | rfl | simp, rfl, Lib.hid (HNX.out false (fun h => by cases h))⟩
      · have hz128 : (128 : Int) ≤ (x.toNat : Int) := by omega
        clear HI hat
        go_wp2_with fail
        go_ret
        exact ⟨rfl, Below.refl _ _⟩

/-! ### the row -/
theorem tabs {W : World} (hL : laidMetH Tryd.prog Rows.fnSlashRow.laid W) : Tabs W := tabs_of hL (by kernel_rfl) (List.mem_of_getElem? (i := 4) (by kernel_rfl)) (List.mem_of_getElem? (i := 3) (by kernel_rfl))

set_option maxRecDepth 100000 in
theorem contract (H : Type) (enc : TypeId × Value → H) (W : World) (base : Nat) (args : Array Value) (ds gs : List (DataW H)) (before : List MemPlace)
    (hval : ∀ (j : Nat) t v, Tryd.f5.params[j]? = some t → args[j]? = some v → Value.okWide Tryd.prog W .any base t v)
    (hW : DataW.Whole enc Tryd.prog Tryd.f5.params.toList Rows.fnSlashSpec.vars false W args.toList ds gs before) (hL : laidMetH Tryd.prog Rows.fnSlashRow.laid W) :
    Calls Tryd.prog 5 args W fun e W' => ∃ v, e = .returned v ∧ Rows.fnSlashSpec.post enc Tryd.prog Tryd.f5 false true false false W args v W' := by
  have hW' := hW
  obtain ⟨p, q, hA0, hV, rfl, hfz, hnd⟩ := hW
  have hA : DataW.TrodAll enc Tryd.prog W 0 (fun _ => true) true Tryd.f5.params.toList args.toList ds p := hA0
  rw [Tryd.params5] at hA hval
  obtain ⟨v0, vs0, d0, ds0, p0, q0, hargs, rfl, rfl, h0, r0⟩ := trodAll_cons hA
  obtain ⟨v1, vs1, d1, ds1, p1, q1, rfl, rfl, rfl, h1, r1⟩ := trodAll_cons r0
  obtain ⟨rfl, rfl, rfl⟩ := trodAll_nil r1
  obtain rfl : args = #[v0, v1] := by cases args; simp_all
  obtain ⟨rfl, rfl⟩ := trodVars_none hV
  obtain ⟨a0, rfl, rfl, rfl, w0⟩ := open_string Tryd.underlying9 (hval 0 9 v0 rfl rfl) h0
  obtain ⟨a1, rfl, rfl, rfl, w1⟩ := open_int Tryd.underlying3 (hval 1 3 v1 rfl rfl) h1
  clear hA0
  simp only [List.append_nil] at hW'
  refine (walk a0 a1 W w0 w1 (tabs hL)).mono fun e W' ⟨he, bel⟩ => ?_
  subst he
  exact ⟨_, rfl, _, _, _, [], [], [], hW', trodAll_mk1 (shut_bool Tryd.underlying4 _), trodAll_cons_mk (shut_string Tryd.underlying9 w0) (trodAll_cons_mk (shut_int Tryd.underlying3 w1) trodAll_mk0), rfl, bel.frame _, fun h => by cases h⟩

noncomputable def laidWorld (os : Os) : World :=
  { World.holding Tryd.prog os ⟨#[], #[], []⟩ with heap := layOne (layOne (layOne (layOne (layOne ((World.holding Tryd.prog os ⟨#[], #[], []⟩).heap) 7 Rows.laid_math_bits_deBruijn32tab) 8 Rows.laid_math_bits_deBruijn64tab) 6 Rows.laid_internal_strconv_uint64pow10) 4 Rows.laid_unicode_utf8_acceptRanges) 3 Rows.laid_unicode_utf8_first }
theorem laid_met (os : Os) : laidMet Tryd.prog Rows.fnSlashRow.laid ((laidWorld os).forCall (fun _ _ => 0) ⟨#[], #[Value.string ByteArray.empty, Value.int .i64 0], []⟩).memory :=
  laidMet_of_run' 8 (by kernel_rfl) (by kernel_rfl)
theorem reads (os : Os) {H : Type} (enc : TypeId × Value → H) : ∃ places, DataW.whole enc Tryd.prog ((laidWorld os).forCall (fun _ _ => 0) ⟨#[], #[Value.string ByteArray.empty, Value.int .i64 0], []⟩).memory Tryd.f5.params.toList Rows.fnSlashSpec.vars false (#[Value.string ByteArray.empty, Value.int .i64 0] : Array Value).toList 8 = some ([.lit (.string []), .lit (.int .i64 0)], [], places) :=
  ⟨[], by kernel_rfl⟩

set_option maxRecDepth 100000 in
theorem lifted (os : Os) (started : os.Started) (H : Type) (enc : TypeId × Value → H) (F : Stop.Interp) :
    ReturnsInHanded {} Tryd.checked os 5 .any ((OpenSpec.ofChange Rows.fnSlashSpec).preRow enc Tryd.prog Tryd.f5 Rows.fnSlashRow.domain false Rows.fnSlashRow.laid) (((OpenSpec.ofChange Rows.fnSlashSpec).at F).post enc Tryd.prog Tryd.f5 false true false false) := by
  obtain ⟨places, hx⟩ := reads os enc
  refine returnsInHanded_of_row (C := Tryd.checked) (s := OpenSpec.ofChange Rows.fnSlashSpec) own started (by kernel_rfl) Tryd.func5
    (witness_row_at (enc := enc) (C := Tryd.checked) false (laidWorld os) #[Value.string ByteArray.empty, Value.int .i64 0] rfl (by kernel_rfl) (by kernel_rfl) (by kernel_rfl)
      (OpenSpec.preRow_of_cond 8 hx (by kernel_rfl) (fun k hk => by cases hk) (by kernel_rfl) (laid_met os))) ?_
  intro W base args ds gs before hval hW _ _ _ hL _ _
  exact contract H enc W base args ds gs before hval hW hL

theorem said : Rows.FnSlashSaid :=
  OpenClaim.holds_of_cond 5 Tryd.f5 rfl rfl rfl rfl rfl rfl rfl ⟨rfl, rfl, rfl, rfl, rfl⟩ rfl rfl rfl rfl rfl (by kernel_rfl) Tryd.func5 (by kernel_rfl)
    (of_decide_eq_true (by kernel_rfl)) (by unfold Func.isWrapper; first | (rw [if_pos (by decide +kernel)]; kernel_rfl) | (rw [if_neg (by decide +kernel)]; exact ⟨rfl, rfl⟩))
    (fun os started H enc _ F => by rw [OpenClaim.pre_eq_preRow]; exact lifted os started H enc F)

theorem plain (f : FuncId) (fn : Func) (hf : Tryd.pinned.checked.prog.funcNamed "htmlescapers/laws.FnSlash" = some f) (hfn : Tryd.pinned.checked.prog.funcs[f]? = some fn) :
    false = Tryd.pinned.checked.prog.looks [] ∧ ∀ (j : Nat) t, fn.params[j]? = some t → Tryd.pinned.checked.prog.wantsStandIn t = false := by
  obtain rfl : f = 5 := Option.some.inj ((show Tryd.prog.funcNamed "htmlescapers/laws.FnSlash" = some 5 by kernel_rfl).symm.trans hf) |>.symm
  obtain rfl : fn = Tryd.f5 := (Option.some.inj (Tryd.func5.symm.trans hfn)).symm
  refine ⟨by kernel_rfl, fun j t ht => ?_⟩
  rw [Tryd.params5] at ht
  have ht' : t = 9 ∨ t = 3 := by simpa using Array.mem_of_getElem? ht
  rcases ht' with rfl | rfl
  · exact (show Tryd.prog.wantsStandIn 9 = false by kernel_rfl)
  · exact (show Tryd.prog.wantsStandIn 3 = false by kernel_rfl)

theorem card : Rows.FnSlashCardSaid :=
  Claim7.holds_tied_plain_at .later [] _ _ _ _ said (fun _ h => by cases h) (by kernel_rfl) (fun _ h => by cases h) fnSlash_row_tie rfl ⟨rfl, rfl⟩ (by kernel_rfl) rfl plain (by kernel_rfl)
end Go.Proofs.YtolamblmfejhoaaDoor.fnSlash
namespace Go.Proofs.YtolamblmfejhoaaDoor
theorem fnSlash_card : Rows.FnSlashCardSaid := fnSlash.card
end Go.Proofs.YtolamblmfejhoaaDoor
