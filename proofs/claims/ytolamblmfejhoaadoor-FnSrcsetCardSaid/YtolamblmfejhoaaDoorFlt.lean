/- urlFilter, ZZFiltered, Filtered: over FoldOk. -/
import Derived.Test.YtolamblmfejhoaaDoorSafe
namespace Go.Proofs.YtolamblmfejhoaaDoor
open Go.RowKit
set_option linter.unusedVariables false
set_option linter.unusedSimpArgs false

/-- The text itself, or the mark that it was filtered. -/
def RetF (s : ByteArray) (b : Bool) (e : Ending) : Prop := e = .returned (.string (if b then s else ⟨#[35, 90, 103, 111, 116, 109, 112, 108, 90]⟩))
set_option maxRecDepth 100000 in
theorem urlFilter_any (s : ByteArray) (w : World) (hs : (s.size : Int) ≤ 17179869184) (hF : FoldOk w) :
    Calls Tryd.prog 26 #[.string s, .int .u8 0] w fun e w' => RetF s (safeL s.data.toList) e ∧ Below w.heap.size w w' := by
  have HC := Lib.hid (isSafe_any s w hs hF)
  obtain ⟨b, hb⟩ : ∃ b, safeL s.data.toList = b := ⟨_, rfl⟩
  rw [hb] at HC ⊢
  clear hb hs hF
  cases b
  all_goals
    go_enter Tryd.func26, Tryd.ntmps26
    go_wp2_with (go_at_call 32; refine HC.out.mono ?_; rintro e w1 ⟨rfl, hb1⟩)
    go_ret
    exact ⟨rfl, hb1⟩
set_option maxRecDepth 100000 in
theorem filtered_any (s : ByteArray) (w : World) (hs : (s.size : Int) ≤ 17179869184) (hF : FoldOk w) :
    Calls Tryd.prog 6 #[.string s] w fun e w' => RetF s (safeL s.data.toList) e ∧ Below w.heap.size w w' := by
  have HC := Lib.hid (urlFilter_any s w hs hF)
  obtain ⟨b, hb⟩ : ∃ b, safeL s.data.toList = b := ⟨_, rfl⟩
  rw [hb] at HC ⊢
  clear hb hs hF
  have HZ : Hid (Calls Tryd.prog 15 #[.string s] w fun e w' => RetF s b e ∧ Below w.heap.size w w') := Lib.hid <| by
    cases b
    all_goals
     go_enter Tryd.func15, Tryd.ntmps15
     go_wp2_with (go_at_call 26; refine HC.out.mono ?_; rintro e w1 ⟨rfl, hb1⟩)
     go_ret
     exact ⟨rfl, hb1⟩
  clear HC
  cases b
  all_goals
   go_enter Tryd.func6, Tryd.ntmps6
   go_wp2_with (go_at_call 15; refine HZ.out.mono ?_; rintro e w1 ⟨rfl, hb1⟩)
   go_ret
   exact ⟨rfl, hb1⟩
end Go.Proofs.YtolamblmfejhoaaDoor
