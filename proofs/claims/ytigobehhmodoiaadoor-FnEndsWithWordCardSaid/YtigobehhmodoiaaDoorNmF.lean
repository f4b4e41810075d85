/- The filter of names; the reference's ASCII, Alphanumeric, Lower. -/
import Derived.Test.YtigobehhmodoiaaDoorAtt
import Derived.Test.YtigobehhmodoiaaDoorLawNm
import Derived.Test.YtigobehhmodoiaaDoorLow
import Derived.Lib.OthersKept
namespace Go.Proofs.YtigobehhmodoiaaDoor
open Go.RowKit
set_option linter.unusedVariables false
set_option linter.unusedSimpArgs false

theorem all_step (p : UInt8 → Bool) (s : ByteArray) (k : Nat) (hlt : k < s.size) (h : (s.data.toList.take k).all p = true) (hc : p s[k] = true) : (s.data.toList.take (k + 1)).all p = true := by
  rw [take_snoc s k hlt, List.all_append, h]; simp [hc]
theorem all_not (p : UInt8 → Bool) (s : ByteArray) (k : Nat) (hlt : k < s.size) (hc : p s[k] = false) : s.data.toList.all p = false := by
  rw [List.all_eq_false]; exact ⟨s[k], mem_get s k hlt, by rw [hc]; decide⟩
theorem all_end (p : UInt8 → Bool) (s : ByteArray) (k : Nat) (hk : s.size ≤ k) (h : (s.data.toList.take k).all p = true) : s.data.toList.all p = true := by
  rwa [List.take_of_length_le (by simp; omega)] at h

set_option maxRecDepth 100000 in
theorem ascii_any (s : ByteArray) (w : World) (hs : s.size ≤ maxLen) :
    Calls Tryd.prog 40 #[.string s] w fun e w' => e = .returned (.bool (asciiL s.data.toList)) ∧ w = w' := by
  unfold maxLen at hs
  go_enter Tryd.func40, Tryd.ntmps40
  go_wp2_with fail
  go_loop [6] (fun i => ∃ k : Nat, k ≤ s.size ∧ i = .int .i64 k ∧ Hid ((s.data.toList.take k).all (fun b => decide (b.toNat < 128)) = true)) (fun i => s.size - (intOf i).toNat)
  case atStart => exact ⟨0, Nat.zero_le _, rfl, Lib.hid rfl⟩
  case round =>
    obtain ⟨k, hk, rfl, H⟩ := hrel
    by_cases hlt : k < s.size
    · by_cases hc : (s[k].toNat : Int) < 128
      · have HR := Lib.hid (all_step _ s k hlt H.out (by simp; omega))
        go_wp2_with fail
        go_round
        case rel => exact ⟨k + 1, by omega, by go_num, HR⟩
        case measure => simp [intOf]; omega
      · have HR : Hid (asciiL s.data.toList = false) := Lib.hid (all_not _ s k hlt (by simp; omega))
        go_wp2_with fail
        go_ret
        exact ⟨ret_bool HR.out.symm, rfl⟩
    · have HR : Hid (asciiL s.data.toList = true) := Lib.hid (all_end _ s k (by omega) H.out)
      go_wp2_with fail
      go_ret
      exact ⟨ret_bool HR.out.symm, rfl⟩

set_option maxRecDepth 100000 in
theorem alnumq_any (s : ByteArray) (w : World) (hs : s.size ≤ maxLen) :
    Calls Tryd.prog 41 #[.string s] w fun e w' => e = .returned (.bool (alnumL s.data.toList)) ∧ w = w' := by
  unfold maxLen at hs
  go_enter Tryd.func41, Tryd.ntmps41
  go_wp2_with fail
  go_loop [6] (fun i => ∃ k : Nat, k ≤ s.size ∧ i = .int .i64 k ∧ Hid ((s.data.toList.take k).all (fun b => isAlnumB b.toNat) = true)) (fun i => s.size - (intOf i).toNat)
  case atStart => exact ⟨0, Nat.zero_le _, rfl, Lib.hid rfl⟩
  case round =>
    obtain ⟨k, hk, rfl, H⟩ := hrel
    by_cases hlt : k < s.size
    · by_cases hc : isAlnumB s[k].toNat = true
      · have HR := Lib.hid (all_step (fun b => isAlnumB b.toNat) s k hlt H.out hc)
        go_wp2_with (go_at_call 50; refine (isAlnum_any _ _).mono ?_; rintro e w' ⟨rfl, rfl⟩)
        go_round
        case rel => exact ⟨k + 1, by omega, by go_num, HR⟩
        case measure => simp [intOf]; omega
      · have hc' : isAlnumB s[k].toNat = false := by simpa using hc
        have HR : Hid (alnumL s.data.toList = false) := Lib.hid (all_not (fun b => isAlnumB b.toNat) s k hlt hc')
        clear hc
        go_wp2_with (go_at_call 50; refine (isAlnum_any _ _).mono ?_; rintro e w' ⟨rfl, rfl⟩)
        go_ret
        exact ⟨ret_bool HR.out.symm, rfl⟩
    · have HR : Hid (alnumL s.data.toList = true) := Lib.hid (all_end _ s k (by omega) H.out)
      go_wp2_with (go_at_call 50; refine (isAlnum_any _ _).mono ?_; rintro e w' ⟨rfl, rfl⟩)
      go_ret
      exact ⟨ret_bool HR.out.symm, rfl⟩

set_option maxRecDepth 100000 in
theorem lowerq_any (s : ByteArray) (w : World) (hs : (s.size : Int) ≤ 17179869184) :
    Calls Tryd.prog 27 #[.string s] w fun e w' => RetStr (Lib.toLowerA s.data.toList) e ∧ Below w.heap.size w w' := by
  have HC := Lib.hid (fun w => lower_any s w hs)
  clear hs
  go_enter Tryd.func27, Tryd.ntmps27
  go_wp2_with (go_at_call 52; refine (HC.out _).mono ?_; rintro e w' ⟨⟨v, rfl, hv⟩, hb⟩)
  go_ret
  exact ⟨⟨v, rfl, hv⟩, hb⟩

theorem ascii_at (s : ByteArray) (h : asciiL s.data.toList = true) (k : Nat) (hk : k < s.size) : s[k].toNat < 128 := by
  unfold asciiL at h
  rw [List.all_eq_true] at h
  simpa using h s[k] (mem_get s k hk)

set_option maxRecDepth 100000 in
set_option maxHeartbeats 4000000 in
theorem nameFilter_any (s : ByteArray) (w : World) (hs : (s.size : Int) ≤ 2147483647) (ha : asciiL s.data.toList = true) :
    Calls Tryd.prog 79 #[.string s, .int .u8 0] w fun e w' => RetStr (nameL s.data.toList) e ∧ Below w.heap.size w w' := by
  have hl : s.data.toList.length = s.size := by simp
  by_cases h0 : s.size = 0
  · have HR : Hid (nameL s.data.toList = failName) := Lib.hid <| by
      have : s.data.toList = [] := List.eq_nil_of_length_eq_zero (by omega)
      rw [this]; rfl
    have q0 : ((s.size : Int) == 0) = true := beq_iff_eq.2 (by omega)
    clear h0 hl ha
    go_enter Tryd.func79, Tryd.ntmps79
    go_wp2_with fail
    go_ret
    exact ⟨⟨_, rfl, by rw [HR.out]; rfl⟩, Below.refl _ _⟩
  · have q0 : ((s.size : Int) == 0) = false := beq_eq_false_iff_ne.2 (by omega)
    obtain ⟨v, hv⟩ : ∃ v : ByteArray, v = ⟨(Lib.toLowerA s.data.toList).toArray⟩ := ⟨_, rfl⟩
    have hvl : v.data.toList = Lib.toLowerA s.data.toList := by rw [hv]
    have hvs : v.size = s.size := by
      have := congrArg List.length hvl
      simp [Lib.toLowerA] at this
      exact this
    have HT : Hid (∀ w, Calls Tryd.prog 107 #[.string s] w fun e w' => e = .returned (.string v) ∧ Below w.heap.size w w') := Lib.hid fun w => by
      have := Tryd.strings_ToLower_ascii s w (by omega) (fun j b hj => by
        have hm : b ∈ s.data.toList := List.mem_of_getElem? hj
        unfold asciiL at ha
        rw [List.all_eq_true] at ha
        simpa using ha b hm)
      rw [← hv] at this; exact this
    have HA := Lib.hid (fun w => attrType_any v w (by omega))
    have HAS : Hid (∀ (k : Nat) (hk : k < v.size), v[k].toNat < 128) := Lib.hid (ascii_at v (by rw [hvl]; exact asciiL_lower _ ha))
    obtain ⟨t, ht⟩ : ∃ t : Nat, t = attrTypeL v.data.toList := ⟨_, rfl⟩
    have HN : Hid (nameL s.data.toList = if (t == 0) = true then (if smallL v.data.toList = true then v.data.toList else failName) else failName) := Lib.hid <| by
      unfold nameL
      have : s.data.toList.isEmpty = false := by
        cases e : s.data.toList with
        | nil => rw [e] at hl; simp at hl; omega
        | cons _ _ => rfl
      rw [this, if_neg (by decide), ht, hvl]
    rw [← ht] at HA
    have HZ : Hid ((v.size : Int) ≤ 2147483647) := Lib.hid (by omega)
    clear hv hvl hvs ht ha hl h0 hs
    cases htz : (t == 0)
    · have q1 : ((t : Int) != 0) = true := by simpa using htz
      have q2 : ((t : Int) == 0) = false := by simpa using htz
      have HR : Hid (nameL s.data.toList = failName) := Lib.hid (by rw [HN.out, htz]; rfl)
      clear htz
      go_enter Tryd.func79, Tryd.ntmps79
      go_wp2_with (first
        | (go_at_call 107; refine (HT.out _).mono ?_; rintro e w1 ⟨rfl, hb1⟩)
        | (go_at_call 78; refine (HA.out _).mono ?_; rintro e w2 ⟨rfl, hb2⟩))
      go_ret
      exact ⟨⟨_, rfl, by rw [HR.out]; rfl⟩, hb1.trans (hb2.mono hb1.size)⟩
    · have q1 : ((t : Int) != 0) = false := by simpa using htz
      have q2 : ((t : Int) == 0) = true := by simpa using htz
      have HR : Hid (nameL s.data.toList = if smallL v.data.toList = true then v.data.toList else failName) := Lib.hid (by rw [HN.out, htz, if_pos rfl])
      clear htz
      go_enter Tryd.func79, Tryd.ntmps79
      go_wp2_with (first
        | (go_at_call 107; refine (HT.out _).mono ?_; rintro e w1 ⟨rfl, hb1⟩)
        | (go_at_call 78; refine (HA.out _).mono ?_; rintro e w2 ⟨rfl, hb2⟩))
      have hb : Below w.heap.size w w2 := hb1.trans (hb2.mono hb1.size)
      have hsz := hb.size
      clear hb1 hb2 q0
      go_loopw [] (fun wx => ∃ q : Nat, wx = w2.iter v q ∧ q ≤ v.size ∧ Hid ((v.data.toList.take q).all (fun b => smallB b.toNat) = true)) (fun wx => v.size - wx.iterPos w2.heap.size)
      case atStart => exact ⟨0, rfl, Nat.zero_le _, Lib.hid rfl⟩
      case round =>
        obtain ⟨q, rfl, hq, H⟩ := hrel
        by_cases hqc : q < v.size
        · have e2 := HAS.out q hqc
          have hnx2 : ∀ ty, (Instr.next (.pointer (some ⟨w2.heap.size, 0, none⟩)) true ty).run Tryd.prog (w2.iter v q) = _ := fun ty => run_next_ascii w2 v q ty hqc e2
          have HS1 : Hid (smallB v[q].toNat = true → (v.data.toList.take (q + 1)).all (fun b => smallB b.toNat) = true) := Lib.hid (fun h => all_step (fun b => smallB b.toNat) v q hqc H.out h)
          have HS0 : Hid (smallB v[q].toNat = false → smallL v.data.toList = false) := Lib.hid (fun h => all_not (fun b => smallB b.toNat) v q hqc h)
          by_cases d1 : (48 : Int) ≤ v[q].toNat
          · by_cases d2 : (v[q].toNat : Int) ≤ 57
            · have HX := Lib.hid (HS1.out (by unfold smallB; simp; omega))
              go_wp2_with fail
              go_roundw
              case rel => exact ⟨q + 1, rfl, by omega, HX⟩
              case measure => rw [World.iterPos_iter, World.iterPos_iter]; omega
            · by_cases d3 : (97 : Int) ≤ v[q].toNat
              · by_cases d4 : (v[q].toNat : Int) ≤ 122
                · have HX := Lib.hid (HS1.out (by unfold smallB; simp; omega))
                  go_wp2_with fail
                  go_roundw
                  case rel => exact ⟨q + 1, rfl, by omega, HX⟩
                  case measure => rw [World.iterPos_iter, World.iterPos_iter]; omega
                · have HX := Lib.hid (HS0.out (by unfold smallB; simp; omega))
                  go_wp2_with fail
                  go_ret
                  exact ⟨⟨_, rfl, by rw [HR.out, HX.out]; rfl⟩, hb.alloc hsz _⟩
              · have HX := Lib.hid (HS0.out (by unfold smallB; simp; omega))
                go_wp2_with fail
                go_ret
                exact ⟨⟨_, rfl, by rw [HR.out, HX.out]; rfl⟩, hb.alloc hsz _⟩
          · have d3 : ¬ (97 : Int) ≤ v[q].toNat := by omega
            have HX := Lib.hid (HS0.out (by unfold smallB; simp; omega))
            go_wp2_with fail
            go_ret
            exact ⟨⟨_, rfl, by rw [HR.out, HX.out]; rfl⟩, hb.alloc hsz _⟩
        · have hnx2 : ∀ ty, (Instr.next (.pointer (some ⟨w2.heap.size, 0, none⟩)) true ty).run Tryd.prog (w2.iter v q) = _ := fun ty => run_next_end w2 v q ty hqc
          have HX : Hid (smallL v.data.toList = true) := Lib.hid (all_end (fun b => smallB b.toNat) v q (by omega) H.out)
          go_wp2_with fail
          go_ret
          exact ⟨⟨_, rfl, by rw [HR.out, HX.out]; rfl⟩, hb.alloc hsz _⟩

set_option maxRecDepth 100000 in
theorem zzName_any (s : ByteArray) (w : World) (hs : (s.size : Int) ≤ 2147483647) (ha : asciiL s.data.toList = true) :
    Calls Tryd.prog 65 #[.string s] w fun e w' => RetStr (nameL s.data.toList) e ∧ Below w.heap.size w w' := by
  have HC := Lib.hid (fun w => nameFilter_any s w hs ha)
  clear hs ha
  go_enter Tryd.func65, Tryd.ntmps65
  go_wp2_with (go_at_call 79; refine (HC.out _).mono ?_; rintro e w' ⟨⟨v, rfl, hv⟩, hb⟩)
  go_ret
  exact ⟨⟨v, rfl, hv⟩, hb⟩
set_option maxRecDepth 100000 in
theorem implName_any (s : ByteArray) (w : World) (hs : (s.size : Int) ≤ 2147483647) (ha : asciiL s.data.toList = true) :
    Calls Tryd.prog 42 #[.string s] w fun e w' => RetStr (nameL s.data.toList) e ∧ Below w.heap.size w w' := by
  have HC := Lib.hid (fun w => zzName_any s w hs ha)
  clear hs ha
  go_enter Tryd.func42, Tryd.ntmps42
  go_wp2_with (go_at_call 65; refine (HC.out _).mono ?_; rintro e w' ⟨⟨v, rfl, hv⟩, hb⟩)
  go_ret
  exact ⟨⟨v, rfl, hv⟩, hb⟩
end Go.Proofs.YtigobehhmodoiaaDoor
