/- CSS: isCSSNmchar. -/
import Derived.Test.YtigobehhmodoiaaDoorCom
namespace Go.Proofs.YtigobehhmodoiaaDoor
open Go.RowKit
set_option linter.unusedVariables false
set_option linter.unusedSimpArgs false

def nmR (r : Nat) : Bool := isAlnumB r || decide (r = 45) || decide (r = 95) || (decide (128 ≤ r) && decide (r ≤ 55295)) || (decide (57344 ≤ r) && decide (r ≤ 65533)) || (decide (65536 ≤ r) && decide (r ≤ 1114111))
set_option maxRecDepth 100000 in
set_option maxHeartbeats 2000000 in
theorem nmchar_any (c : Nat) (hc : c ≤ 1114111) (w : World) :
    Calls Tryd.prog 94 #[.int .i32 c] w fun e w' => e = .returned (.bool (nmR c)) ∧ w = w' := by
  go_enter Tryd.func94, Tryd.ntmps94
  go_wp2_with fail
  all_goals
    go_ret
    refine ⟨ret_bool ?_, rfl⟩
    unfold nmR isAlnumB isAlphaB
    rw [Bool.eq_iff_iff]
    simp [*] <;> omega

end Go.Proofs.YtigobehhmodoiaaDoor
