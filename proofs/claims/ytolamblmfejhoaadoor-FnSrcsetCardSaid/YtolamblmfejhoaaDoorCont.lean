/- The package's zzContains. -/
import Derived.Test.YtolamblmfejhoaaDoorNam
namespace Go.Proofs.YtolamblmfejhoaaDoor
open Go.RowKit
set_option linter.unusedVariables false
set_option linter.unusedSimpArgs false

set_option maxRecDepth 100000 in
theorem zzContains_any (s m : ByteArray) (w : World) (hs : (s.size : Int) ≤ 17179869184) (hm : (m.size : Int) ≤ 17179869184) (hm0 : 0 < m.size) :
    Calls Tryd.prog 45 #[.string s, .string m] w fun e w' => e = .returned (.bool (idxL m.data.toList s.data.toList).isSome) ∧ w = w' := by
  have HC := Lib.hid (fun w => zzIndex_any s m w hs hm hm0)
  obtain ⟨o, ho⟩ : ∃ o, o = idxL m.data.toList s.data.toList := ⟨_, rfl⟩
  rw [← ho] at HC ⊢
  clear ho
  cases o with
  | none =>
    go_enter Tryd.func45, Tryd.ntmps45
    go_wp2_with (go_at_call 52; refine (HC.out _).mono ?_; rintro e w' ⟨rfl, rfl⟩)
    go_ret
    exact ⟨rfl, rfl⟩
  | some i =>
    have e1 : idxI (some i) = (i : Int) := rfl
    rw [e1] at HC
    go_enter Tryd.func45, Tryd.ntmps45
    go_wp2_with (go_at_call 52; refine (HC.out _).mono ?_; rintro e w' ⟨rfl, rfl⟩)
    go_ret
    exact ⟨by simp, rfl⟩
end Go.Proofs.YtolamblmfejhoaaDoor
