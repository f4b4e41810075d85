/- The package's table for HTML that is kept, and its walk. -/
import Derived.Test.YteheelcppgjeaaaDoorHtmlB
import Derived.Test.YteheelcppgjeaaaDoorLawG
namespace Go.Proofs.YteheelcppgjeaaaDoor
open Go.Shelf Go.RowKit
set_option linter.unusedVariables false
set_option linter.unusedSimpArgs false

theorem normTab_le (r : Nat) : (normTab r).length ≤ 8 := by
  unfold normTab
  repeat' split
  all_goals decide

set_option maxRecDepth 100000 in
theorem normTab_any (w : World) :
    Calls Tryd.prog 64 #[] w fun e w' => e = .returned (.slice (some ⟨w.heap.size, 0, none⟩) 63 63) ∧ w' = w.alloc (.cells (tabCells normTab 63).toArray 9) := by
  go_enter Tryd.func64, Tryd.ntmps64
  go_wp2_with fail
  go_ret
  exact ⟨rfl, rfl⟩

theorem normTab_calls (w : World) :
    Calls Tryd.prog 64 #[] w fun e w' => e = .returned (.slice (some ⟨w.heap.size, 0, none⟩) 63 63) ∧ TabW 63 normTab w w' :=
  (normTab_any w).mono fun e w' h => ⟨h.1, h.2 ▸ tabW 63 normTab w⟩


set_option maxRecDepth 100000 in
theorem zzKept_any (s : ByteArray) (w : World) (hs : (s.size : Int) ≤ 4294967296) (hT : Tabs w) :
    Calls Tryd.prog 41 #[.string s] w fun e w' => RetStr (keptL s.data.toList) e ∧ Below w.heap.size w w' := by
  have HS := Lib.hid hs; clear hs
  go_enter Tryd.func41, Tryd.ntmps41
  go_wp2_with fail
  refine (normTab_calls _).mono ?_
  rintro e w1 ⟨rfl, h1⟩
  have hT1 := hT.keep h1.below (Nat.le_refl _)
  have hlt : w.heap.size < w1.heap.size := by have := h1.size; omega
  have htab := h1.tab
  have hb1 := h1.below
  have HW := Lib.hid h1; clear h1
  go_wp2_with fail
  refine (replacer_ok normTab 63 w.heap.size 63 s w1 HS.out (by decide) normTab_le htab hT1 hlt).mono ?_
  rintro e w2 ⟨⟨v, rfl, hv⟩, hb2⟩
  have HV := Lib.hid hv; clear hv
  have hb := hb1.trans (hb2.mono hb1.size)
  go_wp2_with fail
  go_ret
  exact ⟨⟨_, rfl, HV.out⟩, hb⟩
theorem kept_any (s : ByteArray) (w : World) (hs : (s.size : Int) ≤ 4294967296) (hT : Tabs w) :
    Calls Tryd.prog 21 #[.string s] w fun e w' => RetStr (keptL s.data.toList) e ∧ Below w.heap.size w w' := by
  have H := Lib.hid (zzKept_any s w hs hT)
  clear hs
  go_enter Tryd.func21, Tryd.ntmps21
  go_wp2_with (go_at_call 41; refine H.out.mono ?_; rintro e w2 ⟨⟨v, rfl, hv⟩, hb⟩; have HV := Lib.hid hv; clear hv)
  go_ret
  exact ⟨⟨_, rfl, HV.out⟩, hb⟩
end Go.Proofs.YteheelcppgjeaaaDoor
