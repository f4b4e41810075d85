/- The package's table of replacements in HTML text, htmlEscaper, and that the package works. -/
import Derived.Test.YtolamblmfejhoaaDoorHtmlA
namespace Go.Proofs.YtolamblmfejhoaaDoor
open Go.Shelf Go.RowKit
set_option linter.unusedVariables false
set_option linter.unusedSimpArgs false

def htmlTab (r : Nat) : Bytes :=
  if r = 0 then [239, 191, 189] else if r = 34 then [38, 35, 51, 52, 59] else if r = 38 then [38, 97, 109, 112, 59] else if r = 39 then [38, 35, 51, 57, 59]
  else if r = 43 then [38, 35, 52, 51, 59] else if r = 60 then [38, 108, 116, 59] else if r = 62 then [38, 103, 116, 59] else []
def tabCells (T : Nat → Bytes) (n : Nat) : List Value := (List.range n).map fun r => .string ⟨(T r).toArray⟩
theorem tabCells_at (T : Nat → Bytes) (n r : Nat) (h : r < n) : (tabCells T n)[r]? = some (.string ⟨(T r).toArray⟩) := by
  unfold tabCells
  simp [h]
theorem tabAt_new (T : Nat → Bytes) (n : Nat) (w : World) : TabAt w.heap.size n T (w.alloc (.cells (tabCells T n).toArray 9)) := by
  intro r hr
  exact ⟨_, cell_new w _ _ r _ (tabCells_at T n r hr), rfl⟩
theorem htmlTab_le (r : Nat) : (htmlTab r).length ≤ 8 := by
  unfold htmlTab
  repeat' split
  all_goals decide

set_option maxRecDepth 100000 in
theorem htmlTab_any (w : World) :
    Calls Tryd.prog 48 #[] w fun e w' => e = .returned (.slice (some ⟨w.heap.size, 0, none⟩) 63 63) ∧ w' = w.alloc (.cells (tabCells htmlTab 63).toArray 9) := by
  go_enter Tryd.func48, Tryd.ntmps48
  go_wp2_with fail
  go_ret
  exact ⟨rfl, rfl⟩

def textL (l : Bytes) : Bytes := replL htmlTab 63 true l

/-- A table function's world: the table lies in the next block; all else is as it was. -/
structure TabW (n : Nat) (T : Nat → Bytes) (w w' : World) : Prop where
  below : Below w.heap.size w w'
  size : w'.heap.size = w.heap.size + 1
  tab : TabAt w.heap.size n T w'
theorem tabW (n : Nat) (T : Nat → Bytes) (w : World) : TabW n T w (w.alloc (.cells (tabCells T n).toArray 9)) :=
  ⟨(Below.refl _ _).alloc (Nat.le_refl _) _, by simp, tabAt_new T n w⟩

theorem htmlTab_calls (w : World) :
    Calls Tryd.prog 48 #[] w fun e w' => e = .returned (.slice (some ⟨w.heap.size, 0, none⟩) 63 63) ∧ TabW 63 htmlTab w w' :=
  (htmlTab_any w).mono fun e w' h => ⟨h.1, h.2 ▸ tabW 63 htmlTab w⟩

set_option maxRecDepth 100000 in
theorem htmlEscaper_any (s : ByteArray) (w : World) (hs : (s.size : Int) ≤ 4294967296) (hT : Tabs w) :
    Calls Tryd.prog 33 #[.string s, .int .u8 0] w fun e w' => RetStr (textL s.data.toList) e ∧ Below w.heap.size w w' := by
  have HS := Lib.hid hs; clear hs
  go_enter Tryd.func33, Tryd.ntmps33
  go_wp2_with fail
  refine (htmlTab_calls _).mono ?_
  rintro e w1 ⟨rfl, h1⟩
  have hT1 := hT.keep h1.below (Nat.le_refl _)
  have hlt : w.heap.size < w1.heap.size := by have := h1.size; omega
  have htab := h1.tab
  have hb1 := h1.below
  have HW := Lib.hid h1; clear h1
  go_wp2_with fail
  refine (replacer_ok htmlTab 63 w.heap.size 63 s w1 HS.out (by decide) htmlTab_le htab hT1 hlt).mono ?_
  rintro e w2 ⟨⟨v, rfl, hv⟩, hb2⟩
  have HV := Lib.hid hv; clear hv
  have hb := hb1.trans (hb2.mono hb1.size)
  go_wp2_with fail
  go_ret
  exact ⟨⟨_, rfl, HV.out⟩, hb⟩

theorem zzText_any (s : ByteArray) (w : World) (hs : (s.size : Int) ≤ 4294967296) (hT : Tabs w) :
    Calls Tryd.prog 27 #[.string s] w fun e w' => RetStr (textL s.data.toList) e ∧ Below w.heap.size w w' := by
  have H := Lib.hid (htmlEscaper_any s w hs hT)
  clear hs
  go_enter Tryd.func27, Tryd.ntmps27
  go_wp2_with (go_at_call 33; refine H.out.mono ?_; rintro e w2 ⟨⟨v, rfl, hv⟩, hb⟩; have HV := Lib.hid hv; clear hv)
  go_ret
  exact ⟨⟨_, rfl, HV.out⟩, hb⟩
theorem text_any (s : ByteArray) (w : World) (hs : (s.size : Int) ≤ 4294967296) (hT : Tabs w) :
    Calls Tryd.prog 18 #[.string s] w fun e w' => RetStr (textL s.data.toList) e ∧ Below w.heap.size w w' := by
  have H := Lib.hid (zzText_any s w hs hT)
  clear hs
  go_enter Tryd.func18, Tryd.ntmps18
  go_wp2_with (go_at_call 27; refine H.out.mono ?_; rintro e w2 ⟨⟨v, rfl, hv⟩, hb⟩; have HV := Lib.hid hv; clear hv)
  go_ret
  exact ⟨⟨_, rfl, HV.out⟩, hb⟩
theorem works_any (w : World) (hT : Tabs w) :
    Calls Tryd.prog 8 #[] w fun e w' => e = .returned (.bool true) ∧ Below w.heap.size w w' := by
  go_enter Tryd.func8, Tryd.ntmps8
  go_wp2_with fail
  refine (text_any _ _ (by decide) hT).mono ?_
  rintro e w2 ⟨⟨v, rfl, hv⟩, hb⟩
  have hv2 : v = ⟨#[38, 108, 116, 59]⟩ := by
    refine ba_ext (hv.trans ?_)
    decide +kernel
  subst hv2
  clear hv
  go_wp2_with fail
  go_ret
  exact ⟨rfl, hb⟩
end Go.Proofs.YtolamblmfejhoaaDoor
