/- The package's rcdataEscaper. -/
import Derived.Test.YteheelcppgjeaaaDoorHtmlB
namespace Go.Proofs.YteheelcppgjeaaaDoor
open Go.Shelf Go.RowKit
set_option linter.unusedVariables false
set_option linter.unusedSimpArgs false

set_option maxRecDepth 100000 in
theorem rcdataEscaper_any (s : ByteArray) (w : World) (hs : (s.size : Int) ≤ 4294967296) (hT : Tabs w) :
    Calls Tryd.prog 65 #[.string s, .int .u8 0] w fun e w' => RetStr (textL s.data.toList) e ∧ Below w.heap.size w w' := by
  have HS := Lib.hid hs; clear hs
  go_enter Tryd.func65, Tryd.ntmps65
  go_wp2_with fail
  refine (htmlTab_calls _).mono ?_
  rintro e w1 ⟨rfl, h1⟩
  have hT1 := hT.keep h1.below (Nat.le_refl _)
  have hlt : w.heap.size < w1.heap.size := by have := h1.size; omega
  have htab := h1.tab
  have hb1 := h1.below
  have HW := Lib.hid h1; clear h1
  go_wp2_with fail
  refine (replacer_ok htmlTab 63 w.heap.size 63 s w1 HS.out (by decide) htmlTab_le htab hT1 hlt).mono ?_
  rintro e w2 ⟨⟨v, rfl, hv⟩, hb2⟩
  have HV := Lib.hid hv; clear hv
  have hb := hb1.trans (hb2.mono hb1.size)
  go_wp2_with fail
  go_ret
  exact ⟨⟨_, rfl, HV.out⟩, hb⟩

theorem zzRCData_any (s : ByteArray) (w : World) (hs : (s.size : Int) ≤ 4294967296) (hT : Tabs w) :
    Calls Tryd.prog 42 #[.string s] w fun e w' => RetStr (textL s.data.toList) e ∧ Below w.heap.size w w' := by
  have H := Lib.hid (rcdataEscaper_any s w hs hT)
  clear hs
  go_enter Tryd.func42, Tryd.ntmps42
  go_wp2_with (go_at_call 65; refine H.out.mono ?_; rintro e w2 ⟨⟨v, rfl, hv⟩, hb⟩; have HV := Lib.hid hv; clear hv)
  go_ret
  exact ⟨⟨_, rfl, HV.out⟩, hb⟩
theorem rcdata_any (s : ByteArray) (w : World) (hs : (s.size : Int) ≤ 4294967296) (hT : Tabs w) :
    Calls Tryd.prog 22 #[.string s] w fun e w' => RetStr (textL s.data.toList) e ∧ Below w.heap.size w w' := by
  have H := Lib.hid (zzRCData_any s w hs hT)
  clear hs
  go_enter Tryd.func22, Tryd.ntmps22
  go_wp2_with (go_at_call 42; refine H.out.mono ?_; rintro e w2 ⟨⟨v, rfl, hv⟩, hb⟩; have HV := Lib.hid hv; clear hv)
  go_ret
  exact ⟨⟨_, rfl, HV.out⟩, hb⟩
end Go.Proofs.YteheelcppgjeaaaDoor
