/- The package's escapers of URLs. -/
import Derived.Test.YtolamblmfejhoaaDoorUrlD
import Derived.Test.YtolamblmfejhoaaDoorHtmlB
namespace Go.Proofs.YtolamblmfejhoaaDoor
open Go.Shelf Go.RowKit
set_option linter.unusedVariables false
set_option linter.unusedSimpArgs false

set_option maxRecDepth 100000 in
theorem processor_any (norm : Bool) (s : ByteArray) (w : World) (hs : (s.size : Int) ≤ 17179869184) :
    Calls Tryd.prog 39 #[.bool norm, .string s, .int .u8 0] w fun e w' => RetStr (urlL norm s.data.toList) e ∧ Below w.heap.size w w' := by
  have HS := Lib.hid hs; clear hs
  obtain ⟨c, hc⟩ : ∃ c, urlCh norm s.data.toList = c := ⟨_, rfl⟩
  have HN : Hid (c = false → urlL norm s.data.toList = s.data.toList) := Lib.hid fun h => urlCh_none norm _ (hc.trans h)
  have hf : ∀ w : World, Fresh w.heap.size (w.alloc (.cells #[.pointer none, .slice none 0 0] 43)) := fun w => heap_alloc_new w _
  have hpr := fun (w' : World) (h : Fresh w.heap.size w') => process_ok s norm w.heap.size [] w' HS.out (by simp) (grow_calls w.heap.size (s.size + 16) w' h (by have := HS.out; omega))
  rw [hc] at hpr
  have HP := Lib.hid hpr
  have HF := Lib.hid hf
  clear hc hpr hf
  have HB : Hid (∀ o, Below w.heap.size w (w.alloc o)) := Lib.hid fun o => (Below.refl _ _).alloc (Nat.le_refl _) _
  go_enter Tryd.func39, Tryd.ntmps39
  go_wp2_with fail
  refine (HP.out _ (HF.out w)).mono ?_
  rintro e w1 ⟨rfl, hB1, hb1⟩
  have hb := (HB.out _).trans hb1
  cases c
  · go_wp2_with fail
    go_ret
    exact ⟨⟨_, rfl, (HN.out (by trivial)).symm⟩, hb⟩
  · go_wp2_with fail
    refine (string_calls _ _ _ hB1).mono ?_
    rintro e w2 ⟨rfl, hb2⟩
    have hb3 := hb.trans hb2
    go_wp2_with fail
    go_ret
    exact ⟨⟨_, rfl, by simp⟩, hb3⟩

theorem unrm_any (s : ByteArray) (w : World) (hs : (s.size : Int) ≤ 17179869184) :
    Calls Tryd.prog 29 #[.string s, .int .u8 0] w fun e w' => RetStr (urlL true s.data.toList) e ∧ Below w.heap.size w w' := by
  have H := Lib.hid (processor_any true s w hs)
  clear hs
  go_enter Tryd.func29, Tryd.ntmps29
  go_wp2_with (go_at_call 39; refine H.out.mono ?_; rintro e w2 ⟨⟨v, rfl, hv⟩, hb⟩; have HV := Lib.hid hv; clear hv)
  go_ret
  exact ⟨⟨_, rfl, HV.out⟩, hb⟩

theorem zznrm_any (s : ByteArray) (w : World) (hs : (s.size : Int) ≤ 17179869184) :
    Calls Tryd.prog 20 #[.string s] w fun e w' => RetStr (urlL true s.data.toList) e ∧ Below w.heap.size w w' := by
  have H := Lib.hid (unrm_any s w hs)
  clear hs
  go_enter Tryd.func20, Tryd.ntmps20
  go_wp2_with (go_at_call 29; refine H.out.mono ?_; rintro e w2 ⟨⟨v, rfl, hv⟩, hb⟩; have HV := Lib.hid hv; clear hv)
  go_ret
  exact ⟨⟨_, rfl, HV.out⟩, hb⟩

theorem inrm_any (s : ByteArray) (w : World) (hs : (s.size : Int) ≤ 17179869184) :
    Calls Tryd.prog 12 #[.string s] w fun e w' => RetStr (urlL true s.data.toList) e ∧ Below w.heap.size w w' := by
  have H := Lib.hid (zznrm_any s w hs)
  clear hs
  go_enter Tryd.func12, Tryd.ntmps12
  go_wp2_with (go_at_call 20; refine H.out.mono ?_; rintro e w2 ⟨⟨v, rfl, hv⟩, hb⟩; have HV := Lib.hid hv; clear hv)
  go_ret
  exact ⟨⟨_, rfl, HV.out⟩, hb⟩

/-- A text as a string. -/
def strOf (l : Bytes) : ByteArray := ⟨l.toArray⟩
theorem strOf_list (l : Bytes) : (strOf l).data.toList = l := rfl
theorem strOf_self (s : ByteArray) : strOf s.data.toList = s := ba_ext rfl
theorem strOf_app (a b : Bytes) : strOf a ++ strOf b = strOf (a ++ b) := ba_ext (by simp [strOf])
theorem strOf_size (l : Bytes) : (strOf l).size = l.length := by simp [strOf, ByteArray.size]
theorem ret_strOf {l : Bytes} {e : Ending} (h : RetStr l e) : e = .returned (.string (strOf l)) := by
  obtain ⟨v, rfl, hv⟩ := h
  rw [← hv, strOf_self]
theorem normal_calls (s : ByteArray) (w : World) (hs : (s.size : Int) ≤ 17179869184) :
    Calls Tryd.prog 12 #[.string s] w fun e w' => e = .returned (.string (strOf (urlL true s.data.toList))) ∧ Below w.heap.size w w' :=
  (inrm_any s w hs).mono fun e w' h => ⟨ret_strOf h.1, h.2⟩
theorem url_size (norm : Bool) (s : ByteArray) (hs : (s.size : Int) ≤ 4294967294) : ((strOf (urlL norm s.data.toList)).size : Int) ≤ 17179869184 := by
  have h := urlL_le norm s.data.toList
  rw [strOf_size]
  have h2 : s.data.toList.length = s.size := by simp
  omega
end Go.Proofs.YtolamblmfejhoaaDoor
