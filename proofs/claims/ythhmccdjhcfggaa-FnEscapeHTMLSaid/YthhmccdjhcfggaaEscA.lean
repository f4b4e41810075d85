/- text/template's zzIndexAny and zzContainsAny at the escaper's set. -/
import Derived.Test.YthhmccdjhcfggaaLawEsc
import Derived.Test.YthhmccdjhcfggaaCom
import Derived.Test.YthhmccdjhcfggaaChr
import Derived.Lib.OthersKept
import Derived.LoopTactic
namespace Go.Proofs.Ythhmccdjhcfggaa
open Go.RowKit
set_option linter.unusedVariables false
set_option linter.unusedSimpArgs false

theorem get!_at0 (s : ByteArray) (k i : Nat) (h : k + i < s.size ∨ s.size ≤ k + i) : (s.get! (k + i)).toNat = at0 (s.data.toList.drop k) i := by
  unfold at0
  rw [List.getD_eq_getElem?_getD, List.getElem?_drop]
  cases s with
  | mk d =>
    show (d[k + i]!).toNat = _
    rw [getElem!_def]
    simp only [Array.getElem?_toList]
    cases d[k + i]? <;> rfl
theorem decode_at0 (s : ByteArray) (k : Nat) (hk : k ≤ s.size) : Utf8.decode s k = decL (s.data.toList.drop k) := by
  rw [Lib.decode_at]
  unfold decL
  have e := get!_at0 s k 0 (by omega)
  rw [Nat.add_zero] at e
  rw [e, get!_at0 s k 1 (by omega), get!_at0 s k 2 (by omega), get!_at0 s k 3 (by omega), List.length_drop]
  simp

theorem set_high (n : Nat) (h : 63 ≤ n) : hasB escSet n = false := by
  unfold hasB escSet
  simp
  omega
/-- A character whose number is not in the set has no byte in it. -/
theorem none_of (l : Bytes) (hne : l ≠ []) (hs : sizeL l ≠ 0) (h : hasB escSet (decL l).1 = false) : hasAnyB (l.take (sizeL l)) escSet = false := by
  obtain ⟨hc, hlen⟩ := isChar_take l hne hs
  rcases hc.bytes with ⟨x, hx, hx1⟩ | hall
  · have h3 : at0 l 0 = x.toNat := by
      rw [← at0_take l (sizeL l) 0 (by rw [← hlen, hx]; simp), hx]; simp [at0]
    have h4 : (decL l).1 = x.toNat := by
      unfold decL Go.Lib.decodeN
      rw [if_pos (by omega)]; exact h3
    rw [hx]
    rw [h4] at h
    simp [hasAnyB, h]
  · unfold hasAnyB
    rw [List.any_eq_false]
    intro b hb
    rw [set_high _ (by have := hall b hb; omega)]
    decide
/-- What the outer loop carries on. -/
theorem step_of (s : ByteArray) (pos : Nat) (hp : pos < s.size) (hv : validL (s.data.toList.drop pos) = true) (hz : hasAnyB (s.data.toList.take pos) escSet = false) (hr : hasB escSet (Utf8.decode s pos).1 = false) :
    validL (s.data.toList.drop (pos + (Utf8.decode s pos).2)) = true ∧ hasAnyB (s.data.toList.take (pos + (Utf8.decode s pos).2)) escSet = false ∧ pos + (Utf8.decode s pos).2 ≤ s.size ∧ 0 < (Utf8.decode s pos).2 := by
  rw [decode_at0 s pos (by omega)] at hr ⊢
  have hne : s.data.toList.drop pos ≠ [] := by
    intro h
    have := congrArg List.length h
    rw [List.length_drop] at this
    simp at this
    have e : s.data.size = s.size := rfl
    omega
  have hst := validL_step _ hne
  rw [hv] at hst
  have h2 := (Bool.and_eq_true _ _ ▸ hst.symm : (sizeL (s.data.toList.drop pos) != 0) = true ∧ validL ((s.data.toList.drop pos).drop (sizeL (s.data.toList.drop pos))) = true)
  have hs : sizeL (s.data.toList.drop pos) ≠ 0 := by simpa using h2.1
  have hle := sizeL_le _ hne
  rw [size_dec _ hs]
  rw [List.length_drop] at hle
  have e : s.data.toList.length = s.size := by simp
  refine ⟨?_, ?_, by omega, by omega⟩
  · rw [← List.drop_drop]; exact h2.2
  · rw [List.take_add, hasAnyB_app, hz, none_of _ hne hs hr]; rfl
theorem set_take (q r : Nat) (hq : q < 6) (h : hasB (escSet.take q) r = false) (hn : (escSet.getD q 0).toNat ≠ r) : hasB (escSet.take (q + 1)) r = false := by
  have : escSet.take (q + 1) = escSet.take q ++ [escSet.getD q 0] := by
    rcases (by omega : q = 0 ∨ q = 1 ∨ q = 2 ∨ q = 3 ∨ q = 4 ∨ q = 5) with rfl | rfl | rfl | rfl | rfl | rfl <;> rfl
  rw [this, hasB_app, h]
  simpa [hasB, List.getD_eq_getElem?_getD] using hn
theorem set_at (C : ByteArray) (hC : C.data.toList = escSet) (q : Nat) (h : q < C.size) : C[q].toNat = (escSet.getD q 0).toNat ∧ C[q].toNat < 128 ∧ q < 6 := by
  have hl : C.size = 6 := by
    have := congrArg List.length hC
    simp at this
    exact this
  have e : C[q].toNat = (escSet.getD q 0).toNat := by
    rw [get_list C q h, hC]; rfl
  refine ⟨e, ?_, by omega⟩
  rw [e]
  rcases (by omega : q = 0 ∨ q = 1 ∨ q = 2 ∨ q = 3 ∨ q = 4 ∨ q = 5) with rfl | rfl | rfl | rfl | rfl | rfl <;> decide

set_option maxRecDepth 100000 in
set_option maxHeartbeats 2000000 in
theorem zzIndexAny_any (s C : ByteArray) (hC : C.data.toList = escSet) (hv : validL s.data.toList = true) (w : World) (hs : s.size ≤ maxLen) :
    Calls Try.prog 22 #[.string s, .string C] w fun e w' => (∃ i : Int, e = .returned (.int .i64 i) ∧ ((0 ≤ i ∧ 0 < s.size) ∨ hasAnyB s.data.toList escSet = false)) ∧ Below w.heap.size w w' := by
  unfold maxLen at hs
  go_enter Try.func22, Try.ntmps22
  go_wp2
  go_loopw [] (fun wr => ∃ pos : Nat, Hid (pos ≤ s.size) ∧ wr.heap[w.heap.size]? = some (.stringIter s pos) ∧ Below w.heap.size w wr ∧ Hid (validL (s.data.toList.drop pos) = true ∧ hasAnyB (s.data.toList.take pos) escSet = false)) (fun wr => s.size - wr.iterPos w.heap.size)
  case atStart =>
    refine ⟨0, Lib.hid (Nat.zero_le _), World.iter_heap w s 0, (Below.refl _ w).alloc (Nat.le_refl _) _, Lib.hid ⟨hv, rfl⟩⟩
  case round =>
    obtain ⟨pos, hps, hit, hbw, hz⟩ := hrel
    by_cases hp : pos < s.size
    · have hpos0 : wr.iterPos w.heap.size = pos := by simp [World.iterPos, hit]
      have hnx : ∀ ty, (Instr.next (.pointer (some ⟨w.heap.size, 0, none⟩)) true ty).run Try.prog wr = _ := fun ty => Lib.run_next_any_at wr w.heap.size s pos ty hit hp
      have hit1 := Lib.iterAt_heap wr w.heap.size s pos (pos + (Utf8.decode s pos).2) hit
      have hb1 := Lib.below_iterAt hbw (Nat.le_refl _) s (pos + (Utf8.decode s pos).2)
      have hsz := hb1.size
      generalize wr.iterAt w.heap.size s (pos + (Utf8.decode s pos).2) = w1 at hnx hit1 hb1 hsz
      go_wp2
      obtain ⟨wo, rfl⟩ : ∃ wo : World, wo = wr := ⟨_, rfl⟩
      go_loopw [] (fun wx => ∃ q : Nat, wx = w1.iter C q ∧ Hid (q ≤ 6 ∧ hasB (escSet.take q) (Utf8.decode s pos).1 = false)) (fun wx => 6 - wx.iterPos w1.heap.size)
      case atStart => exact ⟨0, rfl, Lib.hid ⟨by omega, rfl⟩⟩
      case round =>
        obtain ⟨q, rfl, hq⟩ := hrel
        by_cases hqc : q < C.size
        · obtain ⟨e1, e2, e3⟩ := set_at C hC q hqc
          have hnx2 : ∀ ty, (Instr.next (.pointer (some ⟨w1.heap.size, 0, none⟩)) true ty).run Try.prog (w1.iter C q) = _ := fun ty => run_next_ascii w1 C q ty hqc e2
          go_wp2
          · go_ret
            refine ⟨⟨_, rfl, .inl ⟨by omega, by omega⟩⟩, ?_⟩
            exact hb1.alloc hsz _
          · go_roundw
            case rel =>
              refine ⟨q + 1, rfl, Lib.hid ⟨by omega, set_take q _ e3 hq.2 ?_⟩⟩
              intro e
              have h9 : ((((Utf8.decode s pos).1 : Nat) : Int) == (((escSet[q]?.getD 0).toNat : Nat) : Int)) = false := by assumption
              rw [List.getD_eq_getElem?_getD] at e
              rw [e] at h9
              simp at h9
            case measure =>
              rw [World.iterPos_iter, World.iterPos_iter]
              omega
        · have hnx2 : ∀ ty, (Instr.next (.pointer (some ⟨w1.heap.size, 0, none⟩)) true ty).run Try.prog (w1.iter C q) = _ := fun ty => run_next_end w1 C q ty hqc
          go_wp2
          have hr : hasB escSet (Utf8.decode s pos).1 = false := by
            have h6 : C.size = 6 := by
              have := congrArg List.length hC
              simp at this
              exact this
            have h7 : escSet.take q = escSet := List.take_of_length_le (by show 6 ≤ q; omega)
            rw [← h7]; exact hq.2
          obtain ⟨s1, s2, s3, s4⟩ := step_of s pos hp hz.1 hz.2 hr
          have hit2 : (w1.iter C q).heap[w.heap.size]? = some (.stringIter s (pos + (Utf8.decode s pos).2)) := (Lib.alloc_old w1 _ _ (Array.getElem?_eq_some_iff.1 hit1).1).trans hit1
          go_roundw
          case rel => exact ⟨_, Lib.hid s3, hit2, hb1.alloc hsz _, Lib.hid ⟨s1, s2⟩⟩
          case measure =>
            rw [hpos0]
            have : (w1.iter C q).iterPos w.heap.size = pos + (Utf8.decode s pos).2 := by simp [World.iterPos, hit2]
            rw [this]
            omega
    · have hnx : ∀ ty, (Instr.next (.pointer (some ⟨w.heap.size, 0, none⟩)) true ty).run Try.prog wr = _ := fun ty => Lib.run_next_end_at wr w.heap.size s pos ty hit hp
      go_wp2
      go_ret
      refine ⟨⟨_, rfl, .inr ?_⟩, hbw⟩
      have h8 := hz.2
      rw [List.take_of_length_le (by simp; omega)] at h8
      exact h8

set_option maxRecDepth 100000 in
theorem zzContainsAny_any (s C : ByteArray) (hC : C.data.toList = escSet) (hv : validL s.data.toList = true) (w : World) (hs : s.size ≤ maxLen) :
    Calls Try.prog 15 #[.string s, .string C] w fun e w' => (∃ b : Bool, e = .returned (.bool b) ∧ ((b = true ∧ 0 < s.size) ∨ hasAnyB s.data.toList escSet = false)) ∧ Below w.heap.size w w' := by
  go_enter Try.func15, Try.ntmps15
  go_wp2_with (go_at_call 22; refine (zzIndexAny_any s C hC hv _ hs).mono ?_; rintro e w' ⟨⟨i, rfl, hi⟩, hb⟩)
  have HI := Lib.hid hi; clear hi
  go_wp2
  go_ret
  refine ⟨⟨_, rfl, ?_⟩, hb⟩
  rcases (show _ from HI) with h | h
  · left; exact ⟨by simpa using h.1, h.2⟩
  · exact .inr h
end Go.Proofs.Ythhmccdjhcfggaa
