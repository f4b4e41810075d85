/- The package's text in attribute values without quotes, and the reference's reader of them. -/
import Derived.Test.YteheelcppgjeaaaDoorBareA
import Derived.Test.YteheelcppgjeaaaDoorHtmlB
import Derived.Test.YteheelcppgjeaaaDoorSpecM
import Derived.Test.YteheelcppgjeaaaDoorLawH
namespace Go.Proofs.YteheelcppgjeaaaDoor
open Go.Shelf Go.RowKit
set_option linter.unusedVariables false
set_option linter.unusedSimpArgs false

set_option maxRecDepth 100000 in
theorem bareTab_any (w : World) :
    Calls Tryd.prog 61 #[] w fun e w' => e = .returned (.slice (some ⟨w.heap.size, 0, none⟩) 97 97) ∧ w' = w.alloc (.cells (tabCells bareTab 97).toArray 9) := by
  go_enter Tryd.func61, Tryd.ntmps61
  go_wp2_with fail
  go_ret
  exact ⟨rfl, rfl⟩
theorem bareTab_calls (w : World) :
    Calls Tryd.prog 61 #[] w fun e w' => e = .returned (.slice (some ⟨w.heap.size, 0, none⟩) 97 97) ∧ TabW 97 bareTab w w' :=
  (bareTab_any w).mono fun e w' h => ⟨h.1, h.2 ▸ tabW 97 bareTab w⟩
set_option maxRecDepth 100000 in
theorem zzBare_any (s : ByteArray) (w : World) (hs : (s.size : Int) ≤ 4294967296) (hT : Tabs w) (hB : Bruijn w) :
    Calls Tryd.prog 38 #[.string s] w fun e w' => RetStr (bareL s.data.toList) e ∧ Below w.heap.size w w' := by
  have HS := Lib.hid hs; clear hs
  have HB := Lib.hid hB; clear hB
  go_enter Tryd.func38, Tryd.ntmps38
  go_wp2_with fail
  refine (bareTab_calls _).mono ?_
  rintro e w1 ⟨rfl, h1⟩
  have hT1 := hT.keep h1.below (Nat.le_refl _)
  have HB1 := Lib.hid (HB.out.keep h1.below)
  have hlt : w.heap.size < w1.heap.size := by have := h1.size; omega
  have htab := h1.tab
  have hb1 := h1.below
  have HW := Lib.hid h1; clear h1
  go_wp2_with fail
  refine (replacer_bare bareTab 97 w.heap.size 97 s w1 HS.out (by decide) bareTab_le htab (by decide) hT1 HB1.out hlt).mono ?_
  rintro e w2 ⟨⟨v, rfl, hv⟩, hb2⟩
  have HV := Lib.hid hv; clear hv
  have hb := hb1.trans (hb2.mono hb1.size)
  go_wp2_with fail
  go_ret
  exact ⟨⟨_, rfl, HV.out⟩, hb⟩
theorem bare_any (s : ByteArray) (w : World) (hs : (s.size : Int) ≤ 4294967296) (hT : Tabs w) (hB : Bruijn w) :
    Calls Tryd.prog 15 #[.string s] w fun e w' => RetStr (bareL s.data.toList) e ∧ Below w.heap.size w w' := by
  have H := Lib.hid (zzBare_any s w hs hT hB)
  clear hs
  go_enter Tryd.func15, Tryd.ntmps15
  go_wp2_with (go_at_call 38; refine H.out.mono ?_; rintro e w2 ⟨⟨v, rfl, hv⟩, hb⟩; have HV := Lib.hid hv; clear hv)
  go_ret
  exact ⟨⟨_, rfl, HV.out⟩, hb⟩

/-- The reader of values without quotes, where the value is one. -/
theorem readUnq_ok (s : ByteArray) (w : World) (hs : (s.size : Int) ≤ 17179869184) (h : readUnqBad s.data.toList = false) :
    Calls Tryd.prog 14 #[.string s] w fun e w' => RetStrB (unescL s.data.toList true) true e ∧ Below w.heap.size w w' := by
  unfold readUnqBad at h
  rw [Bool.or_eq_false_iff, Bool.or_eq_false_iff, Bool.or_eq_false_iff] at h
  obtain ⟨⟨⟨h1, h2⟩, h3⟩, h4⟩ := h
  have H2 := Lib.hid (fun w => valid_any s w (maxLen_of hs))
  have H3 := Lib.hid (fun w => known_any s w (maxLen_of hs))
  have H4 := Lib.hid (fun w => hasAny_any s ⟨#[32, 9, 10, 12, 13, 62, 34, 39, 60, 61, 96, 0]⟩ w (maxLen_of hs) (by decide))
  have H5 := Lib.hid (fun w => unescaped_any s true w hs)
  have H4' : Hid (∀ w, Calls Tryd.prog 26 #[.string s, .string ⟨#[32, 9, 10, 12, 13, 62, 34, 39, 60, 61, 96, 0]⟩] w fun e w' => e = .returned (.bool false) ∧ w = w') := Lib.hid (fun w => by
    have := H4.out w
    rw [show hasAnyB s.data.toList (⟨#[32, 9, 10, 12, 13, 62, 34, 39, 60, 61, 96, 0]⟩ : ByteArray).data.toList = false from h2] at this
    exact this)
  rw [show validL s.data.toList = true by simpa using h3] at H2
  rw [show knownL s.data.toList = true by simpa using h4] at H3
  have e1 : s.toList.isEmpty = false := by rw [Lib.toList_data]; exact h1
  have e2 : (s.toList = []) = False := by rw [Lib.toList_data]; simpa using h1
  clear h1 h2 h3 h4 H4 hs
  go_enter Tryd.func14, Tryd.ntmps14
  go_wp2_with (first
      | (go_at_call 23; refine (H2.out _).mono ?_; rintro e w1 ⟨rfl, rfl⟩)
      | (go_at_call 36; refine (H3.out _).mono ?_; rintro e w1 ⟨rfl, hbk⟩)
      | (go_at_call 26; refine (H4'.out _).mono ?_; rintro e w1 ⟨rfl, rfl⟩)
      | (go_at_call 37; refine (H5.out _).mono ?_; rintro e w2 ⟨⟨v, rfl, hv⟩, hbu⟩; have HV := Lib.hid hv; clear hv))
  go_ret2
  exact ⟨⟨_, rfl, HV.out⟩, hbk.trans (hbu.mono hbk.size)⟩
end Go.Proofs.YteheelcppgjeaaaDoor
