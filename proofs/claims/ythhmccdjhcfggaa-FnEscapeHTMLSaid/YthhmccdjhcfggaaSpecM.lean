/- The reference's readers, and the statements' condition: the walks. -/
import Derived.Test.YthhmccdjhcfggaaSpecL
namespace Go.Proofs.Ythhmccdjhcfggaa
open Go.RowKit
set_option linter.unusedVariables false
set_option linter.unusedSimpArgs false

def zeroCR : Bytes := [0, 13]

set_option maxRecDepth 100000 in
theorem readText_any (s : ByteArray) (w : World) (hs : (s.size : Int) ≤ 17179869184) :
    Calls Try.prog 6 #[.string s] w fun e w' => RetStrB (readL s.data.toList 60 false).1 (readL s.data.toList 60 false).2 e ∧ Below w.heap.size w w' := by
  have H1 := Lib.hid (fun w => has_any s 60 w (maxLen_of hs))
  have H2 := Lib.hid (fun w => valid_any s w (maxLen_of hs))
  have H3 := Lib.hid (fun w => known_any s w (maxLen_of hs))
  have H4 := Lib.hid (fun w => hasAny_any s ⟨#[0, 13]⟩ w (maxLen_of hs) (by decide))
  have H5 := Lib.hid (fun w => unescaped_any s false w hs)
  clear hs
  obtain ⟨b1, hb1⟩ : ∃ b, hasB s.data.toList 60 = b := ⟨_, rfl⟩
  obtain ⟨b2, hb2⟩ : ∃ b, validL s.data.toList = b := ⟨_, rfl⟩
  obtain ⟨b3, hb3⟩ : ∃ b, knownL s.data.toList = b := ⟨_, rfl⟩
  obtain ⟨b4, hb4⟩ : ∃ b, hasAnyB s.data.toList [0, 13] = b := ⟨_, rfl⟩
  have HR : Hid (readL s.data.toList 60 false = if (b1 || !b2 || !b3 || b4) = true then ([], false) else (unescL s.data.toList false, true)) := Lib.hid <| by
    unfold readL readBad; rw [hb1, hb2, hb3, hb4]
  rw [hb1] at H1
  rw [hb2] at H2
  rw [hb3] at H3
  have H4' : Hid (∀ w, Calls Try.prog 9 #[.string s, .string ⟨#[0, 13]⟩] w fun e w' => e = .returned (.bool b4) ∧ w = w') := Lib.hid (fun w => by rw [← hb4]; exact H4.out w)
  clear hb1 hb2 hb3 hb4 H4
  go_enter Try.func6, Try.ntmps6
  cases b1 <;> cases b2 <;> cases b3 <;> cases b4
  all_goals
    go_wp2_with (first
      | (go_at_call 11; refine (H1.out _).mono ?_; rintro e w1 ⟨rfl, rfl⟩)
      | (go_at_call 8; refine (H2.out _).mono ?_; rintro e w1 ⟨rfl, rfl⟩)
      | (go_at_call 12; refine (H3.out _).mono ?_; rintro e w1 ⟨rfl, hbk⟩)
      | (go_at_call 9; refine (H4'.out _).mono ?_; rintro e w1 ⟨rfl, rfl⟩)
      | (go_at_call 13; refine (H5.out _).mono ?_; rintro e w2 ⟨⟨v, rfl, hv⟩, hbu⟩; have HV := Lib.hid hv; clear hv))
  all_goals go_ret2
  all_goals first
    | (rw [HR.out]; exact ⟨⟨_, rfl, rfl⟩, Below.refl _ _⟩)
    | (rw [HR.out]; exact ⟨⟨_, rfl, rfl⟩, hbk⟩)
    | (rw [HR.out]; exact ⟨⟨_, rfl, HV.out⟩, hbk.trans (hbu.mono hbk.size)⟩)
set_option maxRecDepth 100000 in
theorem readQuoted_any (s : ByteArray) (q : Nat) (w : World) (hs : (s.size : Int) ≤ 17179869184) :
    Calls Try.prog 7 #[.string s, .int .u8 q] w fun e w' => RetStrB (readL s.data.toList q true).1 (readL s.data.toList q true).2 e ∧ Below w.heap.size w w' := by
  have H1 := Lib.hid (fun w => has_any s q w (maxLen_of hs))
  have H2 := Lib.hid (fun w => valid_any s w (maxLen_of hs))
  have H3 := Lib.hid (fun w => known_any s w (maxLen_of hs))
  have H4 := Lib.hid (fun w => hasAny_any s ⟨#[0, 13]⟩ w (maxLen_of hs) (by decide))
  have H5 := Lib.hid (fun w => unescaped_any s true w hs)
  clear hs
  obtain ⟨b1, hb1⟩ : ∃ b, hasB s.data.toList q = b := ⟨_, rfl⟩
  obtain ⟨b2, hb2⟩ : ∃ b, validL s.data.toList = b := ⟨_, rfl⟩
  obtain ⟨b3, hb3⟩ : ∃ b, knownL s.data.toList = b := ⟨_, rfl⟩
  obtain ⟨b4, hb4⟩ : ∃ b, hasAnyB s.data.toList [0, 13] = b := ⟨_, rfl⟩
  have HR : Hid (readL s.data.toList q true = if (b1 || !b2 || !b3 || b4) = true then ([], false) else (unescL s.data.toList true, true)) := Lib.hid <| by
    unfold readL readBad; rw [hb1, hb2, hb3, hb4]
  rw [hb1] at H1
  rw [hb2] at H2
  rw [hb3] at H3
  have H4' : Hid (∀ w, Calls Try.prog 9 #[.string s, .string ⟨#[0, 13]⟩] w fun e w' => e = .returned (.bool b4) ∧ w = w') := Lib.hid (fun w => by rw [← hb4]; exact H4.out w)
  clear hb1 hb2 hb3 hb4 H4
  go_enter Try.func7, Try.ntmps7
  cases b1 <;> cases b2 <;> cases b3 <;> cases b4
  all_goals
    go_wp2_with (first
      | (go_at_call 11; refine (H1.out _).mono ?_; rintro e w1 ⟨rfl, rfl⟩)
      | (go_at_call 8; refine (H2.out _).mono ?_; rintro e w1 ⟨rfl, rfl⟩)
      | (go_at_call 12; refine (H3.out _).mono ?_; rintro e w1 ⟨rfl, hbk⟩)
      | (go_at_call 9; refine (H4'.out _).mono ?_; rintro e w1 ⟨rfl, rfl⟩)
      | (go_at_call 13; refine (H5.out _).mono ?_; rintro e w2 ⟨⟨v, rfl, hv⟩, hbu⟩; have HV := Lib.hid hv; clear hv))
  all_goals go_ret2
  all_goals first
    | (rw [HR.out]; exact ⟨⟨_, rfl, rfl⟩, Below.refl _ _⟩)
    | (rw [HR.out]; exact ⟨⟨_, rfl, rfl⟩, hbk⟩)
    | (rw [HR.out]; exact ⟨⟨_, rfl, HV.out⟩, hbk.trans (hbu.mono hbk.size)⟩)

set_option maxRecDepth 100000 in
theorem plain_any (s : ByteArray) (w : World) (hs : (s.size : Int) ≤ 17179869184) :
    Calls Try.prog 4 #[.string s] w fun e w' => e = .returned (.bool (plainL s.data.toList)) ∧ w = w' := by
  have H2 := Lib.hid (fun w => valid_any s w (maxLen_of hs))
  have H4 := Lib.hid (fun w => hasAny_any s ⟨#[0, 13]⟩ w (maxLen_of hs) (by decide))
  clear hs
  obtain ⟨b2, hb2⟩ : ∃ b, validL s.data.toList = b := ⟨_, rfl⟩
  obtain ⟨b4, hb4⟩ : ∃ b, hasAnyB s.data.toList [0, 13] = b := ⟨_, rfl⟩
  have HR : Hid (plainL s.data.toList = (b2 && !b4)) := Lib.hid <| by
    unfold plainL; rw [hb2, hb4]
  rw [hb2] at H2
  have H4' : Hid (∀ w, Calls Try.prog 9 #[.string s, .string ⟨#[0, 13]⟩] w fun e w' => e = .returned (.bool b4) ∧ w = w') := Lib.hid (fun w => by rw [← hb4]; exact H4.out w)
  clear hb2 hb4 H4
  go_enter Try.func4, Try.ntmps4
  cases b2 <;> cases b4
  all_goals
    go_wp2_with (first
      | (go_at_call 8; refine (H2.out _).mono ?_; rintro e w1 ⟨rfl, rfl⟩)
      | (go_at_call 9; refine (H4'.out _).mono ?_; rintro e w1 ⟨rfl, rfl⟩))
  all_goals go_ret
  all_goals (rw [HR.out]; exact ⟨rfl, rfl⟩)
end Go.Proofs.Ythhmccdjhcfggaa
