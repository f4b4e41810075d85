/- laws.plain. -/
import Derived.Test.YtigobehhmodoiaaDoorCom
namespace Go.Proofs.YtigobehhmodoiaaDoor
open Go.RowKit
set_option linter.unusedVariables false
set_option linter.unusedSimpArgs false

set_option maxRecDepth 100000 in
theorem plain_any (s : ByteArray) (w : World) (hs : (s.size : Int) ≤ 17179869184) :
    Calls Tryd.prog 23 #[.string s] w fun e w' => e = .returned (.bool (plainL s.data.toList)) ∧ w = w' := by
  have H2 := Lib.hid (fun w => valid_any s w (maxLen_of hs))
  have H4 := Lib.hid (fun w => hasAny_any s ⟨#[0, 13]⟩ w (maxLen_of hs) (by decide))
  clear hs
  obtain ⟨b2, hb2⟩ : ∃ b, validL s.data.toList = b := ⟨_, rfl⟩
  obtain ⟨b4, hb4⟩ : ∃ b, hasAnyB s.data.toList [0, 13] = b := ⟨_, rfl⟩
  have HR : Hid (plainL s.data.toList = (b2 && !b4)) := Lib.hid <| by
    unfold plainL; rw [hb2, hb4]
  rw [hb2] at H2
  have H4' : Hid (∀ w, Calls Tryd.prog 20 #[.string s, .string ⟨#[0, 13]⟩] w fun e w' => e = .returned (.bool b4) ∧ w = w') := Lib.hid (fun w => by rw [← hb4]; exact H4.out w)
  clear hb2 hb4 H4
  go_enter Tryd.func23, Tryd.ntmps23
  cases b2 <;> cases b4
  all_goals
    go_wp2_with (first
      | (go_at_call 15; refine (H2.out _).mono ?_; rintro e w1 ⟨rfl, rfl⟩)
      | (go_at_call 20; refine (H4'.out _).mono ?_; rintro e w1 ⟨rfl, rfl⟩))
  all_goals go_ret
  all_goals (rw [HR.out]; exact ⟨rfl, rfl⟩)
end Go.Proofs.YtigobehhmodoiaaDoor
