/- srcsetFilterAndEscaper, Srcset. -/
import Derived.Test.YtolamblmfejhoaaDoorSrcB
import Derived.Test.YtolamblmfejhoaaDoorUrlE
namespace Go.Proofs.YtolamblmfejhoaaDoor
open Go.Shelf Go.RowKit
set_option linter.unusedVariables false
set_option linter.unusedSimpArgs false

theorem part_self (s : ByteArray) (k : Nat) : partL s k k = [] := by unfold partL; simp
theorem part_succ (s : ByteArray) (j k : Nat) (h1 : j ≤ k) (h2 : k < s.size) : partL s j (k + 1) = partL s j k ++ [s[k]] := by
  have e := part_at s j (k + 1) k h1 (by omega) (by omega)
  have h := List.take_append_drop (k - j) (partL s j (k + 1))
  rw [e] at h
  have e2 : (partL s j (k + 1)).take (k - j) = partL s j k := by
    unfold partL
    rw [List.take_take]
    congr 1
    omega
  have e3 : (partL s j (k + 1)).drop (k + 1 - j) = [] := part_end s j (k + 1) (by omega)
  rw [e2, e3] at h
  exact h.symm
theorem src_step_no (s : ByteArray) (j k : Nat) (acc : Bytes) (h1 : j ≤ k) (h2 : k < s.size) (hc : s[k] ≠ 44) (h : acc ++ srcGo (partL s j k) (s.data.toList.drop k) = srcL s.data.toList) : acc ++ srcGo (partL s j (k + 1)) (s.data.toList.drop (k + 1)) = srcL s.data.toList := by
  rw [drop_cons s k h2, srcGo, if_neg hc] at h
  rw [part_succ s j k h1 h2]
  exact h
theorem src_step_yes (s : ByteArray) (j k : Nat) (acc : Bytes) (h1 : j ≤ k) (h2 : k < s.size) (hc : s[k] = 44) (h : acc ++ srcGo (partL s j k) (s.data.toList.drop k) = srcL s.data.toList) : acc ++ elemL (partL s j k) ++ [44] ++ srcGo (partL s (k + 1) (k + 1)) (s.data.toList.drop (k + 1)) = srcL s.data.toList := by
  rw [drop_cons s k h2, srcGo, if_pos hc] at h
  rw [part_self, ← h]
  simp
theorem src_end (s : ByteArray) (j k : Nat) (acc : Bytes) (h2 : k = s.size) (h : acc ++ srcGo (partL s j k) (s.data.toList.drop k) = srcL s.data.toList) : acc ++ elemL (partL s j s.size) = srcL s.data.toList := by
  subst h2
  rw [List.drop_eq_nil_of_le (by simp)] at h
  exact h

set_option maxRecDepth 100000 in
set_option maxHeartbeats 4000000 in
theorem srcset_any (s : ByteArray) (w : World) (hs : (s.size : Int) ≤ 17179869184) (hF : FoldOk w) :
    Calls Tryd.prog 28 #[.string s, .int .u8 0] w fun e w' => RetStr (srcL s.data.toList) e ∧ Below w.heap.size w w' := by
  have HSZ := Lib.hid hs
  have HF := Lib.hid hF
  have HFR : Hid (∀ (w : World), Fresh w.heap.size (w.alloc (.cells #[.pointer none, .slice none 0 0] 43))) := Lib.hid fun w => heap_alloc_new w _
  have HB0 : Hid (∀ o, Below w.heap.size w (w.alloc o)) := Lib.hid fun o => (Below.refl _ _).alloc (Nat.le_refl _) _
  clear hs hF
  have hz0 : s.size ≤ 17179869184 := by have := HSZ.out; omega
  go_enter Tryd.func28, Tryd.ntmps28
  go_wp2_with fail
  go_loopg [7, 8] s.size (fun g s7 s8 wr => ∃ (j k : Nat) (acc : Bytes), j ≤ k ∧ k + g = s.size ∧ s7 = .int .i64 j ∧ s8 = .int .i64 k ∧ Below w.heap.size w wr ∧ Hid (acc ++ srcGo (partL s j k) (s.data.toList.drop k) = srcL s.data.toList) ∧ acc.length ≤ 13 * j ∧ Bld w.heap.size acc wr)
  case atStart => exact ⟨0, 0, [], Nat.le_refl _, by omega, rfl, rfl, HB0.out _, Lib.hid (by rw [part_self]; rfl), by simp, (HFR.out w).bld⟩
  case round =>
    obtain ⟨j, k, acc, hj, hk, rfl, rfl, hb, HI, hl, hB⟩ := hrel
    have HB := Lib.hid hB
    clear hB
    cases gk with
    | zero =>
      have hn : ¬ ((k : Int) < (s.size : Int)) := by omega
      have HE := Lib.hid (elem_any s j s.size w.heap.size acc wr (by omega) (by omega) (Nat.le_refl _) HB.out (by omega) w hb (Nat.le_refl _) HF.out)
      rw [src_end s j k acc (by omega) HI.out] at HE
      go_wp2_with (first
        | (go_at_call 37; refine HE.out.mono ?_; rintro e w1 ⟨rfl, hB1, hb1⟩)
        | (go_at_call 35; refine (string_calls _ _ _ hB1).mono ?_; rintro e w2 ⟨rfl, hb2⟩))
      go_ret
      exact ⟨⟨_, rfl, by simp⟩, (hb.trans hb1).trans hb2⟩
    | succ g =>
      have hlt : (k : Int) < (s.size : Int) := by omega
      have hltn : k < s.size := by omega
      by_cases hc : s[k] = 44
      · have hcn : s[k].toNat = 44 := by rw [hc]; rfl
        have HE := Lib.hid (elem_any s j k w.heap.size acc wr (by omega) hj (by omega) HB.out (by omega) w hb (Nat.le_refl _) HF.out)
        have hpl : (elemL (partL s j k)).length ≤ 3 * (k - j) + 9 := by have := elemL_len (partL s j k); rwa [part_len s j k hj (by omega)] at this
        have HW : Hid (∀ w1, Bld w.heap.size (acc ++ elemL (partL s j k)) w1 → Calls Tryd.prog 38 #[.pointer (some ⟨w.heap.size, 0, none⟩), .string ⟨#[44]⟩] w1 fun e w' => e = .returned (.tuple #[.int .i64 1, .nilIface]) ∧ Bld w.heap.size (acc ++ elemL (partL s j k) ++ [44]) w' ∧ Below w.heap.size w1 w') := Lib.hid fun w1 h => write_calls _ _ ⟨#[44]⟩ w1 h (by rw [List.length_append]; show acc.length + (elemL (partL s j k)).length + 1 ≤ _; omega)
        have HN := Lib.hid (src_step_yes s j k acc hj hltn hc HI.out)
        have HLN : Hid ((acc ++ elemL (partL s j k) ++ [44]).length ≤ 13 * (k + 1)) := Lib.hid (by rw [List.length_append, List.length_append, List.length_singleton]; omega)
        clear hpl hc
        go_wp2_with (first
          | (go_at_call 37; refine HE.out.mono ?_; rintro e w1 ⟨rfl, hB1, hb1⟩)
          | (go_at_call 38; refine (HW.out _ hB1).mono ?_; rintro e w2 ⟨rfl, hB2, hb2⟩))
        go_roundg g
        case measure => omega
        case rel => exact ⟨k + 1, k + 1, _, Nat.le_refl _, by omega, by first | rfl | simp, by first | rfl | simp, (hb.trans hb1).trans hb2, HN, HLN.out, hB2⟩
      · have hcn : ¬ (s[k].toNat : Int) = 44 := fun h => hc (UInt8.toNat_inj.1 (by simpa using (by omega : s[k].toNat = 44)))
        have HN := Lib.hid (src_step_no s j k acc hj hltn hc HI.out)
        clear hc
        go_wp2_with fail
        go_roundg g
        case measure => omega
        case rel => exact ⟨j, k + 1, acc, by omega, by omega, rfl, by first | rfl | simp, hb, HN, hl, HB.out⟩

set_option maxRecDepth 100000 in
theorem zzsrcset_any (s : ByteArray) (w : World) (hs : (s.size : Int) ≤ 17179869184) (hF : FoldOk w) :
    Calls Tryd.prog 19 #[.string s] w fun e w' => RetStr (srcL s.data.toList) e ∧ Below w.heap.size w w' := by
  have H := Lib.hid (srcset_any s w hs hF)
  clear hs hF
  go_enter Tryd.func19, Tryd.ntmps19
  go_wp2_with (go_at_call 28; refine H.out.mono ?_; rintro e w2 ⟨⟨v, rfl, hv⟩, hb⟩; have HV := Lib.hid hv; clear hv)
  go_ret
  exact ⟨⟨_, rfl, HV.out⟩, hb⟩
set_option maxRecDepth 100000 in
theorem isrcset_any (s : ByteArray) (w : World) (hs : (s.size : Int) ≤ 17179869184) (hF : FoldOk w) :
    Calls Tryd.prog 10 #[.string s] w fun e w' => RetStr (srcL s.data.toList) e ∧ Below w.heap.size w w' := by
  have H := Lib.hid (zzsrcset_any s w hs hF)
  clear hs hF
  go_enter Tryd.func10, Tryd.ntmps10
  go_wp2_with (go_at_call 19; refine H.out.mono ?_; rintro e w2 ⟨⟨v, rfl, hv⟩, hb⟩; have HV := Lib.hid hv; clear hv)
  go_ret
  exact ⟨⟨_, rfl, HV.out⟩, hb⟩
end Go.Proofs.YtolamblmfejhoaaDoor
