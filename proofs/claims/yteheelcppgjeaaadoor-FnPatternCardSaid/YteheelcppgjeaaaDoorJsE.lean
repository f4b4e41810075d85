/- The package's tables and escapers for literals of ECMAScript. -/
import Derived.Test.YteheelcppgjeaaaDoorJsD
namespace Go.Proofs.YteheelcppgjeaaaDoor
open Go.Shelf Go.RowKit
set_option linter.unusedVariables false
set_option linter.unusedSimpArgs false

theorem jsRepl_le (T : Nat → Bytes) (h : ∀ r, (T r).length ≤ 8) (r : Nat) : (jsRepl T r).length ≤ 8 := by
  unfold jsRepl
  split
  · unfold lowTab
    repeat' split
    all_goals simp [hex4]
  · split
    · exact h r
    · repeat' split
      all_goals simp
theorem strTab_le (r : Nat) : (strTab r).length ≤ 8 := by
  rcases Nat.lt_or_ge r 128 with h | h
  · have : ∀ r, r < 128 → (strTab r).length ≤ 8 := by decide +kernel
    exact this r h
  · rw [strTab_high r h]; simp
theorem bqTab_le (r : Nat) : (bqTab r).length ≤ 8 := by
  rcases Nat.lt_or_ge r 128 with h | h
  · have : ∀ r, r < 128 → (bqTab r).length ≤ 8 := by decide +kernel
    exact this r h
  · rw [bqTab_high r h]; simp
theorem rxTab_le (r : Nat) : (rxTab r).length ≤ 8 := by
  rcases Nat.lt_or_ge r 128 with h | h
  · have : ∀ r, r < 128 → (rxTab r).length ≤ 8 := by decide +kernel
    exact this r h
  · rw [rxTab_high r h]; simp
theorem strTab_n (r : Nat) (h : 93 ≤ r) : strTab r = [] ∨ r = 96 := by
  rcases Nat.lt_or_ge r 128 with h' | h'
  · have : ∀ r, r < 128 → 93 ≤ r → strTab r = [] ∨ r = 96 := by decide +kernel
    exact this r h' h
  · exact .inl (strTab_high r h')
theorem jsL_le (T : Nat → Bytes) (hT : ∀ r, (T r).length ≤ 8) (l : Bytes) : (jsL T l).length ≤ 8 * l.length := by
  unfold jsL
  generalize hn : l.length = n
  induction n using Nat.strongRecOn generalizing l with
  | _ n ih =>
    by_cases hl : l = []
    · subst hl; simp [replL_nil]
    · have hp := decL_pos l
      have hle := decL_le l hl
      rw [replL_step _ _ _ l hl, List.length_append]
      have h1 := ih (l.drop (decL l).2).length (by rw [List.length_drop]; omega) (l.drop (decL l).2) rfl
      rw [List.length_drop] at h1
      have h2 : (replOne (jsRepl T) jsN true l).length ≤ 8 * (decL l).2 := by
        have ht : (l.take (decL l).2).length ≤ 8 * (decL l).2 := by rw [List.length_take]; omega
        have := jsRepl_le T hT (decL l).1
        unfold replOne
        repeat' split
        all_goals first | omega | simp_all
      omega

set_option maxRecDepth 100000 in
theorem strTab_any (w : World) :
    Calls Tryd.prog 89 #[] w fun e w' => e = .returned (.slice (some ⟨w.heap.size, 0, none⟩) 97 97) ∧ w' = w.alloc (.cells (tabCells strTab 97).toArray 9) := by
  go_enter Tryd.func89, Tryd.ntmps89
  go_wp2_with fail
  go_ret
  exact ⟨rfl, rfl⟩
theorem strTab_calls (w : World) :
    Calls Tryd.prog 89 #[] w fun e w' => e = .returned (.slice (some ⟨w.heap.size, 0, none⟩) 97 97) ∧ TabW 97 strTab w w' :=
  (strTab_any w).mono fun e w' h => ⟨h.1, h.2 ▸ tabW 97 strTab w⟩

set_option maxRecDepth 100000 in
theorem bqTab_any (w : World) :
    Calls Tryd.prog 84 #[] w fun e w' => e = .returned (.slice (some ⟨w.heap.size, 0, none⟩) 126 126) ∧ w' = w.alloc (.cells (tabCells bqTab 126).toArray 9) := by
  go_enter Tryd.func84, Tryd.ntmps84
  go_wp2_with fail
  go_ret
  exact ⟨rfl, rfl⟩
theorem bqTab_calls (w : World) :
    Calls Tryd.prog 84 #[] w fun e w' => e = .returned (.slice (some ⟨w.heap.size, 0, none⟩) 126 126) ∧ TabW 126 bqTab w w' :=
  (bqTab_any w).mono fun e w' h => ⟨h.1, h.2 ▸ tabW 126 bqTab w⟩

set_option maxRecDepth 100000 in
theorem rxTab_any (w : World) :
    Calls Tryd.prog 87 #[] w fun e w' => e = .returned (.slice (some ⟨w.heap.size, 0, none⟩) 126 126) ∧ w' = w.alloc (.cells (tabCells rxTab 126).toArray 9) := by
  go_enter Tryd.func87, Tryd.ntmps87
  go_wp2_with fail
  go_ret
  exact ⟨rfl, rfl⟩
theorem rxTab_calls (w : World) :
    Calls Tryd.prog 87 #[] w fun e w' => e = .returned (.slice (some ⟨w.heap.size, 0, none⟩) 126 126) ∧ TabW 126 rxTab w w' :=
  (rxTab_any w).mono fun e w' h => ⟨h.1, h.2 ▸ tabW 126 rxTab w⟩

theorem strTab_97 (r : Nat) (h : 97 ≤ r) : strTab r = [] := by
  rcases strTab_n r (by omega) with h' | h'
  · exact h'
  · omega
theorem bqTab_126 (r : Nat) (h : 126 ≤ r) : bqTab r = [] := by
  rcases Nat.lt_or_ge r 128 with h' | h'
  · have : ∀ r, r < 128 → 126 ≤ r → bqTab r = [] := by decide +kernel
    exact this r h' h
  · exact bqTab_high r h'
theorem rxTab_126 (r : Nat) (h : 126 ≤ r) : rxTab r = [] := by
  rcases Nat.lt_or_ge r 128 with h' | h'
  · have : ∀ r, r < 128 → 126 ≤ r → rxTab r = [] := by decide +kernel
    exact this r h' h
  · exact rxTab_high r h'

set_option maxRecDepth 100000 in
theorem strEsc_any (s : ByteArray) (w : World) (hs : (s.size : Int) ≤ 4294967296) (hT : Tabs w) (hL : Lows w) :
    Calls Tryd.prog 72 #[.string s, .int .u8 0] w fun e w' => RetStr (jsL strTab s.data.toList) e ∧ Below w.heap.size w w' := by
  have HS := Lib.hid hs; clear hs
  have HLW := Lib.hid hL; clear hL
  go_enter Tryd.func72, Tryd.ntmps72
  go_wp2_with fail
  refine (strTab_calls _).mono ?_
  rintro e w1 ⟨rfl, h1⟩
  have hT1 := hT.keep h1.below (Nat.le_refl _)
  have HL1 := Lib.hid (HLW.out.keep h1.below (Nat.le_refl _))
  have hlt : w.heap.size < w1.heap.size := by have := h1.size; omega
  have htab := h1.tab
  have hb1 := h1.below
  have HW := Lib.hid h1; clear h1
  go_wp2_with fail
  refine (replace_ok strTab 97 w.heap.size 97 s w1 HS.out (by decide) (jsRepl_le _ strTab_le) strTab_97 htab hT1 HL1.out hlt).mono ?_
  rintro e w2 ⟨⟨v, rfl, hv⟩, hb2⟩
  have HV := Lib.hid hv; clear hv
  have hb := hb1.trans (hb2.mono hb1.size)
  go_wp2_with fail
  go_ret
  exact ⟨⟨_, rfl, HV.out⟩, hb⟩

set_option maxRecDepth 100000 in
theorem tmplEsc_any (s : ByteArray) (w : World) (hs : (s.size : Int) ≤ 4294967296) (hT : Tabs w) (hL : Lows w) :
    Calls Tryd.prog 66 #[.string s] w fun e w' => RetStr (jsL bqTab s.data.toList) e ∧ Below w.heap.size w w' := by
  have HS := Lib.hid hs; clear hs
  have HLW := Lib.hid hL; clear hL
  go_enter Tryd.func66, Tryd.ntmps66
  go_wp2_with fail
  refine (bqTab_calls _).mono ?_
  rintro e w1 ⟨rfl, h1⟩
  have hT1 := hT.keep h1.below (Nat.le_refl _)
  have HL1 := Lib.hid (HLW.out.keep h1.below (Nat.le_refl _))
  have hlt : w.heap.size < w1.heap.size := by have := h1.size; omega
  have htab := h1.tab
  have hb1 := h1.below
  have HW := Lib.hid h1; clear h1
  go_wp2_with fail
  refine (replace_ok bqTab 126 w.heap.size 126 s w1 HS.out (by decide) (jsRepl_le _ bqTab_le) bqTab_126 htab hT1 HL1.out hlt).mono ?_
  rintro e w2 ⟨⟨v, rfl, hv⟩, hb2⟩
  have HV := Lib.hid hv; clear hv
  have hb := hb1.trans (hb2.mono hb1.size)
  go_wp2_with fail
  go_ret
  exact ⟨⟨_, rfl, HV.out⟩, hb⟩

def rxL (l : Bytes) : Bytes := if jsL rxTab l = [] then [40, 63, 58, 41] else jsL rxTab l
set_option maxRecDepth 100000 in
theorem rxEsc_any (s : ByteArray) (w : World) (hs : (s.size : Int) ≤ 4294967296) (hT : Tabs w) (hL : Lows w) :
    Calls Tryd.prog 70 #[.string s] w fun e w' => RetStr (rxL s.data.toList) e ∧ Below w.heap.size w w' := by
  have HS := Lib.hid hs; clear hs
  have HLW := Lib.hid hL; clear hL
  go_enter Tryd.func70, Tryd.ntmps70
  go_wp2_with fail
  refine (rxTab_calls _).mono ?_
  rintro e w1 ⟨rfl, h1⟩
  have hT1 := hT.keep h1.below (Nat.le_refl _)
  have HL1 := Lib.hid (HLW.out.keep h1.below (Nat.le_refl _))
  have hlt : w.heap.size < w1.heap.size := by have := h1.size; omega
  have htab := h1.tab
  have hb1 := h1.below
  have HW := Lib.hid h1; clear h1
  go_wp2_with fail
  refine (replace_ok rxTab 126 w.heap.size 126 s w1 HS.out (by decide) (jsRepl_le _ rxTab_le) rxTab_126 htab hT1 HL1.out hlt).mono ?_
  rintro e w2 ⟨⟨v, rfl, hv⟩, hb2⟩
  have hb := hb1.trans (hb2.mono hb1.size)
  by_cases hne : v.data.toList = []
  · have e1 : v.toList.isEmpty = true := by rw [Lib.toList_data, hne]; rfl
    have e2 : (v.toList = []) = True := by rw [Lib.toList_data, hne]; simp
    have HV : Hid (rxL s.data.toList = [40, 63, 58, 41]) := Lib.hid <| by unfold rxL; rw [← hv, if_pos hne]
    clear hv hne
    go_wp2_with fail
    go_ret
    exact ⟨⟨_, rfl, HV.out.symm⟩, hb⟩
  · have e1 : v.toList.isEmpty = false := by rw [Lib.toList_data, List.isEmpty_eq_false_iff]; exact hne
    have e2 : (v.toList = []) = False := by rw [Lib.toList_data]; exact eq_false hne
    have HV : Hid (rxL s.data.toList = v.data.toList) := Lib.hid <| by unfold rxL; rw [← hv, if_neg hne]
    clear hv hne
    go_wp2_with fail
    go_ret
    exact ⟨⟨_, rfl, HV.out.symm⟩, hb⟩

theorem zzStr_any (s : ByteArray) (w : World) (hs : (s.size : Int) ≤ 4294967296) (hT : Tabs w) (hL : Lows w) :
    Calls Tryd.prog 49 #[.string s] w fun e w' => RetStr (jsL strTab s.data.toList) e ∧ Below w.heap.size w w' := by
  have H := Lib.hid (strEsc_any s w hs hT hL)
  clear hs
  go_enter Tryd.func49, Tryd.ntmps49
  go_wp2_with (go_at_call 72; refine H.out.mono ?_; rintro e w2 ⟨⟨v, rfl, hv⟩, hb⟩; have HV := Lib.hid hv; clear hv)
  go_ret
  exact ⟨⟨_, rfl, HV.out⟩, hb⟩

theorem jsString_any (s : ByteArray) (w : World) (hs : (s.size : Int) ≤ 4294967296) (hT : Tabs w) (hL : Lows w) :
    Calls Tryd.prog 29 #[.string s] w fun e w' => RetStr (jsL strTab s.data.toList) e ∧ Below w.heap.size w w' := by
  have H := Lib.hid (zzStr_any s w hs hT hL)
  clear hs
  go_enter Tryd.func29, Tryd.ntmps29
  go_wp2_with (go_at_call 49; refine H.out.mono ?_; rintro e w2 ⟨⟨v, rfl, hv⟩, hb⟩; have HV := Lib.hid hv; clear hv)
  go_ret
  exact ⟨⟨_, rfl, HV.out⟩, hb⟩

theorem zzTmpl_any (s : ByteArray) (w : World) (hs : (s.size : Int) ≤ 4294967296) (hT : Tabs w) (hL : Lows w) :
    Calls Tryd.prog 44 #[.string s] w fun e w' => RetStr (jsL bqTab s.data.toList) e ∧ Below w.heap.size w w' := by
  have H := Lib.hid (tmplEsc_any s w hs hT hL)
  clear hs
  go_enter Tryd.func44, Tryd.ntmps44
  go_wp2_with (go_at_call 66; refine H.out.mono ?_; rintro e w2 ⟨⟨v, rfl, hv⟩, hb⟩; have HV := Lib.hid hv; clear hv)
  go_ret
  exact ⟨⟨_, rfl, HV.out⟩, hb⟩

theorem jsTmpl_any (s : ByteArray) (w : World) (hs : (s.size : Int) ≤ 4294967296) (hT : Tabs w) (hL : Lows w) :
    Calls Tryd.prog 24 #[.string s] w fun e w' => RetStr (jsL bqTab s.data.toList) e ∧ Below w.heap.size w w' := by
  have H := Lib.hid (zzTmpl_any s w hs hT hL)
  clear hs
  go_enter Tryd.func24, Tryd.ntmps24
  go_wp2_with (go_at_call 44; refine H.out.mono ?_; rintro e w2 ⟨⟨v, rfl, hv⟩, hb⟩; have HV := Lib.hid hv; clear hv)
  go_ret
  exact ⟨⟨_, rfl, HV.out⟩, hb⟩

theorem zzRx_any (s : ByteArray) (w : World) (hs : (s.size : Int) ≤ 4294967296) (hT : Tabs w) (hL : Lows w) :
    Calls Tryd.prog 46 #[.string s] w fun e w' => RetStr (rxL s.data.toList) e ∧ Below w.heap.size w w' := by
  have H := Lib.hid (rxEsc_any s w hs hT hL)
  clear hs
  go_enter Tryd.func46, Tryd.ntmps46
  go_wp2_with (go_at_call 70; refine H.out.mono ?_; rintro e w2 ⟨⟨v, rfl, hv⟩, hb⟩; have HV := Lib.hid hv; clear hv)
  go_ret
  exact ⟨⟨_, rfl, HV.out⟩, hb⟩

theorem jsRx_any (s : ByteArray) (w : World) (hs : (s.size : Int) ≤ 4294967296) (hT : Tabs w) (hL : Lows w) :
    Calls Tryd.prog 27 #[.string s] w fun e w' => RetStr (rxL s.data.toList) e ∧ Below w.heap.size w w' := by
  have H := Lib.hid (zzRx_any s w hs hT hL)
  clear hs
  go_enter Tryd.func27, Tryd.ntmps27
  go_wp2_with (go_at_call 46; refine H.out.mono ?_; rintro e w2 ⟨⟨v, rfl, hv⟩, hb⟩; have HV := Lib.hid hv; clear hv)
  go_ret
  exact ⟨⟨_, rfl, HV.out⟩, hb⟩
end Go.Proofs.YteheelcppgjeaaaDoor
