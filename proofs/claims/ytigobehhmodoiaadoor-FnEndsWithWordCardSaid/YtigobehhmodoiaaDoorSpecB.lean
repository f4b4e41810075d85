/- The reference's readers of UTF-8 and words. -/
import Derived.Test.YtigobehhmodoiaaDoorSpecA
namespace Go.Proofs.YtigobehhmodoiaaDoor
open Go.RowKit
set_option linter.unusedVariables false
set_option linter.unusedSimpArgs false

theorem ba_ext {a b : ByteArray} (h : a.data.toList = b.data.toList) : a = b := by
  cases a; cases b; simp only at h; rw [Array.toList_inj.1 h]

theorem at0_get (s : ByteArray) (k : Nat) (h : k < s.size) : at0 s.data.toList k = s[k].toNat := by
  have e : s.data.toList.getD k 0 = s[k] := by
    have h1 : k < s.data.toList.length := by simpa using h
    rw [List.getD_eq_getElem?_getD, List.getElem?_eq_getElem h1]; rfl
  unfold at0
  rw [e]

theorem mem_get (s : ByteArray) (k : Nat) (h : k < s.size) : s[k] ∈ s.data.toList := by
  have : s[k] ∈ s.data := Array.getElem_mem _
  simpa using this

theorem hasAny_any (s m : ByteArray) (w : World) (hs : s.size ≤ maxLen) (hm : m.size ≤ maxLen) :
    Calls Tryd.prog 20 #[.string s, .string m] w fun e w' => e = .returned (.bool (hasAnyB s.data.toList m.data.toList)) ∧ w = w' := by
  have hs0 := hs
  unfold maxLen at hs
  go_enter Tryd.func20, Tryd.ntmps20
  go_wp2
  go_loop [8] (fun i => ∃ k : Nat, k ≤ s.size ∧ i = .int .i64 k ∧ hasAnyB (s.data.toList.take k) m.data.toList = false) (fun i => s.size - (intOf i).toNat)
  case atStart => exact ⟨0, Nat.zero_le _, rfl, rfl⟩
  case round =>
    obtain ⟨k, hk, rfl, hf⟩ := hrel
    have H := Lib.hid hf; clear hf
    by_cases hlt : k < s.size
    · by_cases hc : hasB m.data.toList s[k].toNat = true
      · have HR : Hid (hasAnyB s.data.toList m.data.toList = true) := Lib.hid <| List.any_eq_true.2 ⟨s[k], mem_get s k hlt, hc⟩
        go_wp2_with (go_at_call 16; refine (has_any m _ _ hm).mono ?_; rintro e w' ⟨rfl, rfl⟩)
        go_ret
        exact ⟨ret_bool HR.out.symm, rfl⟩
      · have hc' : hasB m.data.toList s[k].toNat = false := by simpa using hc
        have HR : Hid (hasAnyB (s.data.toList.take (k + 1)) m.data.toList = false) := Lib.hid <| by
          have h1 := H.out
          unfold hasAnyB at h1 ⊢
          rw [take_snoc s k hlt, List.any_append, h1]
          simp [hc']
        clear hc
        go_wp2_with (go_at_call 16; refine (has_any m _ _ hm).mono ?_; rintro e w' ⟨rfl, rfl⟩)
        go_round
        case rel => exact ⟨k + 1, by omega, by go_num, HR.out⟩
        case measure => simp [intOf]; omega
    · have HR : Hid (hasAnyB s.data.toList m.data.toList = false) := Lib.hid <| by
        have h1 := H.out
        rwa [List.take_of_length_le (by simp; omega)] at h1
      go_wp2_with (go_at_call 16; refine (has_any m _ _ hm).mono ?_; rintro e w' ⟨rfl, rfl⟩)
      go_ret
      exact ⟨ret_bool HR.out.symm, rfl⟩


theorem ret_int {k : IntKind} {a b : Int} (h : a = b) : Ending.returned (.int k a) = .returned (.int k b) := by rw [h]

set_option maxRecDepth 100000 in
set_option maxHeartbeats 1000000 in
theorem size_w1 (s : ByteArray) (w : World) (hs : s.size ≤ maxLen) (h0 : 0 < s.size) (c1 : (s[0].toNat : Int) < 128) :
    Calls Tryd.prog 43 #[.string s] w fun e w' => e = .returned (.int .i64 (1 : Nat)) ∧ w = w' := by
  unfold maxLen at hs
  go_enter Tryd.func43, Tryd.ntmps43
  go_wp2_with fail
  go_ret
  exact ⟨rfl, rfl⟩

set_option maxRecDepth 100000 in
set_option maxHeartbeats 1000000 in
theorem size_w0a (s : ByteArray) (w : World) (hs : s.size ≤ maxLen) (h0 : 0 < s.size) (c1 : 128 ≤ (s[0].toNat : Int)) (c2 : (s[0].toNat : Int) < 194) :
    Calls Tryd.prog 43 #[.string s] w fun e w' => e = .returned (.int .i64 (0 : Nat)) ∧ w = w' := by
  unfold maxLen at hs
  go_enter Tryd.func43, Tryd.ntmps43
  go_wp2_with fail
  go_ret
  exact ⟨rfl, rfl⟩

set_option maxRecDepth 100000 in
set_option maxHeartbeats 1000000 in
theorem size_w0b (s : ByteArray) (w : World) (hs : s.size ≤ maxLen) (h0 : 0 < s.size) (c1 : 245 ≤ (s[0].toNat : Int)) (c2 : (s[0].toNat : Int) < 256) :
    Calls Tryd.prog 43 #[.string s] w fun e w' => e = .returned (.int .i64 (0 : Nat)) ∧ w = w' := by
  unfold maxLen at hs
  go_enter Tryd.func43, Tryd.ntmps43
  go_wp2_with fail
  go_ret
  exact ⟨rfl, rfl⟩

set_option maxRecDepth 100000 in
set_option maxHeartbeats 1000000 in
theorem size_w2short (s : ByteArray) (w : World) (hs : s.size ≤ maxLen) (h0 : 0 < s.size) (c1 : 194 ≤ (s[0].toNat : Int)) (c2 : (s[0].toNat : Int) < 224) (hl : s.size < 2) :
    Calls Tryd.prog 43 #[.string s] w fun e w' => e = .returned (.int .i64 (0 : Nat)) ∧ w = w' := by
  unfold maxLen at hs
  go_enter Tryd.func43, Tryd.ntmps43
  go_wp2_with fail
  go_ret
  exact ⟨rfl, rfl⟩

set_option maxRecDepth 100000 in
set_option maxHeartbeats 1000000 in
theorem size_w2bad1 (s : ByteArray) (w : World) (hs : s.size ≤ maxLen) (h0 : 0 < s.size) (c1 : 194 ≤ (s[0].toNat : Int)) (c2 : (s[0].toNat : Int) < 224) (hl : 2 ≤ s.size)  (t1 : s[1].toNat / 64 ≠ 2) :
    Calls Tryd.prog 43 #[.string s] w fun e w' => e = .returned (.int .i64 (0 : Nat)) ∧ w = w' := by
  unfold maxLen at hs
  obtain ⟨C, hC1, hC2⟩ : ∃ C : Nat, bits .and .i64 (s[0].toNat : Int) 31 = (C : Int) ∧ C < 32 := ⟨s[0].toNat % 32, and31 _ (by omega), by omega⟩
  have k1 : (bits .and .u8 (s[1].toNat : Int) 192 != 128) = true := by rw [and192 _ (s[1].toNat_lt)]; simpa using t1
  clear t1
  go_enter Tryd.func43, Tryd.ntmps43
  go_wp2_with fail
  refine wp_loop_rounds 2 ?_; rw [rounds_succ]
  go_wp2_with fail
  go_ret
  exact ⟨rfl, rfl⟩

set_option maxRecDepth 100000 in
set_option maxHeartbeats 1000000 in
theorem size_w3short (s : ByteArray) (w : World) (hs : s.size ≤ maxLen) (h0 : 0 < s.size) (c1 : 224 ≤ (s[0].toNat : Int)) (c2 : (s[0].toNat : Int) < 240) (hl : s.size < 3) :
    Calls Tryd.prog 43 #[.string s] w fun e w' => e = .returned (.int .i64 (0 : Nat)) ∧ w = w' := by
  unfold maxLen at hs
  go_enter Tryd.func43, Tryd.ntmps43
  go_wp2_with fail
  go_ret
  exact ⟨rfl, rfl⟩

set_option maxRecDepth 100000 in
set_option maxHeartbeats 1000000 in
theorem size_w3bad1 (s : ByteArray) (w : World) (hs : s.size ≤ maxLen) (h0 : 0 < s.size) (c1 : 224 ≤ (s[0].toNat : Int)) (c2 : (s[0].toNat : Int) < 240) (hl : 3 ≤ s.size)  (t1 : s[1].toNat / 64 ≠ 2) :
    Calls Tryd.prog 43 #[.string s] w fun e w' => e = .returned (.int .i64 (0 : Nat)) ∧ w = w' := by
  unfold maxLen at hs
  obtain ⟨C, hC1, hC2⟩ : ∃ C : Nat, bits .and .i64 (s[0].toNat : Int) 15 = (C : Int) ∧ C < 16 := ⟨s[0].toNat % 16, and15 _ (by omega), by omega⟩
  have k1 : (bits .and .u8 (s[1].toNat : Int) 192 != 128) = true := by rw [and192 _ (s[1].toNat_lt)]; simpa using t1
  clear t1
  go_enter Tryd.func43, Tryd.ntmps43
  go_wp2_with fail
  refine wp_loop_rounds 3 ?_; rw [rounds_succ]
  go_wp2_with fail
  go_ret
  exact ⟨rfl, rfl⟩

set_option maxRecDepth 100000 in
set_option maxHeartbeats 1000000 in
theorem size_w3bad2 (s : ByteArray) (w : World) (hs : s.size ≤ maxLen) (h0 : 0 < s.size) (c1 : 224 ≤ (s[0].toNat : Int)) (c2 : (s[0].toNat : Int) < 240) (hl : 3 ≤ s.size) (t1 : s[1].toNat / 64 = 2) (t2 : s[2].toNat / 64 ≠ 2) :
    Calls Tryd.prog 43 #[.string s] w fun e w' => e = .returned (.int .i64 (0 : Nat)) ∧ w = w' := by
  unfold maxLen at hs
  obtain ⟨C, hC1, hC2⟩ : ∃ C : Nat, bits .and .i64 (s[0].toNat : Int) 15 = (C : Int) ∧ C < 16 := ⟨s[0].toNat % 16, and15 _ (by omega), by omega⟩
  have k1 : (bits .and .u8 (s[1].toNat : Int) 192 != 128) = false := by rw [and192 _ (s[1].toNat_lt)]; simpa using t1
  obtain ⟨y1, hy1, hz1⟩ : ∃ y : Nat, bits .and .u8 (s[1].toNat : Int) 63 = (y : Int) ∧ y < 64 := ⟨s[1].toNat % 64, and63b _ (s[1].toNat_lt), by omega⟩
  have o1 : bits .or .i64 ((C : Int) * 64) (y1 : Int) = (C : Int) * 64 + (y1 : Int) := by
    have := or6 (C) y1 (by omega) hz1
    exact_mod_cast this
  have k2 : (bits .and .u8 (s[2].toNat : Int) 192 != 128) = true := by rw [and192 _ (s[2].toNat_lt)]; simpa using t2
  clear t1 t2
  go_enter Tryd.func43, Tryd.ntmps43
  go_wp2_with fail
  refine wp_loop_rounds 3 ?_; rw [rounds_succ]
  go_wp2_with fail
  rw [rounds_succ]
  go_wp2_with fail
  go_ret
  exact ⟨rfl, rfl⟩

set_option maxRecDepth 100000 in
set_option maxHeartbeats 1000000 in
theorem size_w4short (s : ByteArray) (w : World) (hs : s.size ≤ maxLen) (h0 : 0 < s.size) (c1 : 240 ≤ (s[0].toNat : Int)) (c2 : (s[0].toNat : Int) < 245) (hl : s.size < 4) :
    Calls Tryd.prog 43 #[.string s] w fun e w' => e = .returned (.int .i64 (0 : Nat)) ∧ w = w' := by
  unfold maxLen at hs
  go_enter Tryd.func43, Tryd.ntmps43
  go_wp2_with fail
  go_ret
  exact ⟨rfl, rfl⟩

set_option maxRecDepth 100000 in
set_option maxHeartbeats 1000000 in
theorem size_w4bad1 (s : ByteArray) (w : World) (hs : s.size ≤ maxLen) (h0 : 0 < s.size) (c1 : 240 ≤ (s[0].toNat : Int)) (c2 : (s[0].toNat : Int) < 245) (hl : 4 ≤ s.size)  (t1 : s[1].toNat / 64 ≠ 2) :
    Calls Tryd.prog 43 #[.string s] w fun e w' => e = .returned (.int .i64 (0 : Nat)) ∧ w = w' := by
  unfold maxLen at hs
  obtain ⟨C, hC1, hC2⟩ : ∃ C : Nat, bits .and .i64 (s[0].toNat : Int) 7 = (C : Int) ∧ C < 8 := ⟨s[0].toNat % 8, and7 _ (by omega), by omega⟩
  have k1 : (bits .and .u8 (s[1].toNat : Int) 192 != 128) = true := by rw [and192 _ (s[1].toNat_lt)]; simpa using t1
  clear t1
  go_enter Tryd.func43, Tryd.ntmps43
  go_wp2_with fail
  refine wp_loop_rounds 4 ?_; rw [rounds_succ]
  go_wp2_with fail
  go_ret
  exact ⟨rfl, rfl⟩

set_option maxRecDepth 100000 in
set_option maxHeartbeats 1000000 in
theorem size_w4bad2 (s : ByteArray) (w : World) (hs : s.size ≤ maxLen) (h0 : 0 < s.size) (c1 : 240 ≤ (s[0].toNat : Int)) (c2 : (s[0].toNat : Int) < 245) (hl : 4 ≤ s.size) (t1 : s[1].toNat / 64 = 2) (t2 : s[2].toNat / 64 ≠ 2) :
    Calls Tryd.prog 43 #[.string s] w fun e w' => e = .returned (.int .i64 (0 : Nat)) ∧ w = w' := by
  unfold maxLen at hs
  obtain ⟨C, hC1, hC2⟩ : ∃ C : Nat, bits .and .i64 (s[0].toNat : Int) 7 = (C : Int) ∧ C < 8 := ⟨s[0].toNat % 8, and7 _ (by omega), by omega⟩
  have k1 : (bits .and .u8 (s[1].toNat : Int) 192 != 128) = false := by rw [and192 _ (s[1].toNat_lt)]; simpa using t1
  obtain ⟨y1, hy1, hz1⟩ : ∃ y : Nat, bits .and .u8 (s[1].toNat : Int) 63 = (y : Int) ∧ y < 64 := ⟨s[1].toNat % 64, and63b _ (s[1].toNat_lt), by omega⟩
  have o1 : bits .or .i64 ((C : Int) * 64) (y1 : Int) = (C : Int) * 64 + (y1 : Int) := by
    have := or6 (C) y1 (by omega) hz1
    exact_mod_cast this
  have k2 : (bits .and .u8 (s[2].toNat : Int) 192 != 128) = true := by rw [and192 _ (s[2].toNat_lt)]; simpa using t2
  clear t1 t2
  go_enter Tryd.func43, Tryd.ntmps43
  go_wp2_with fail
  refine wp_loop_rounds 4 ?_; rw [rounds_succ]
  go_wp2_with fail
  rw [rounds_succ]
  go_wp2_with fail
  go_ret
  exact ⟨rfl, rfl⟩

set_option maxRecDepth 100000 in
set_option maxHeartbeats 1000000 in
theorem size_w4bad3 (s : ByteArray) (w : World) (hs : s.size ≤ maxLen) (h0 : 0 < s.size) (c1 : 240 ≤ (s[0].toNat : Int)) (c2 : (s[0].toNat : Int) < 245) (hl : 4 ≤ s.size) (t1 : s[1].toNat / 64 = 2) (t2 : s[2].toNat / 64 = 2) (t3 : s[3].toNat / 64 ≠ 2) :
    Calls Tryd.prog 43 #[.string s] w fun e w' => e = .returned (.int .i64 (0 : Nat)) ∧ w = w' := by
  unfold maxLen at hs
  obtain ⟨C, hC1, hC2⟩ : ∃ C : Nat, bits .and .i64 (s[0].toNat : Int) 7 = (C : Int) ∧ C < 8 := ⟨s[0].toNat % 8, and7 _ (by omega), by omega⟩
  have k1 : (bits .and .u8 (s[1].toNat : Int) 192 != 128) = false := by rw [and192 _ (s[1].toNat_lt)]; simpa using t1
  obtain ⟨y1, hy1, hz1⟩ : ∃ y : Nat, bits .and .u8 (s[1].toNat : Int) 63 = (y : Int) ∧ y < 64 := ⟨s[1].toNat % 64, and63b _ (s[1].toNat_lt), by omega⟩
  have o1 : bits .or .i64 ((C : Int) * 64) (y1 : Int) = (C : Int) * 64 + (y1 : Int) := by
    have := or6 (C) y1 (by omega) hz1
    exact_mod_cast this
  have k2 : (bits .and .u8 (s[2].toNat : Int) 192 != 128) = false := by rw [and192 _ (s[2].toNat_lt)]; simpa using t2
  obtain ⟨y2, hy2, hz2⟩ : ∃ y : Nat, bits .and .u8 (s[2].toNat : Int) 63 = (y : Int) ∧ y < 64 := ⟨s[2].toNat % 64, and63b _ (s[2].toNat_lt), by omega⟩
  have o2 : bits .or .i64 (((C : Int) * 64 + (y1 : Int)) * 64) (y2 : Int) = ((C : Int) * 64 + (y1 : Int)) * 64 + (y2 : Int) := by
    have := or6 ((C * 64 + (y1))) y2 (by omega) hz2
    exact_mod_cast this
  have k3 : (bits .and .u8 (s[3].toNat : Int) 192 != 128) = true := by rw [and192 _ (s[3].toNat_lt)]; simpa using t3
  clear t1 t2 t3
  go_enter Tryd.func43, Tryd.ntmps43
  go_wp2_with fail
  refine wp_loop_rounds 4 ?_; rw [rounds_succ]
  go_wp2_with fail
  rw [rounds_succ]
  go_wp2_with fail
  rw [rounds_succ]
  go_wp2_with fail
  go_ret
  exact ⟨rfl, rfl⟩

set_option maxRecDepth 100000 in
set_option maxHeartbeats 1000000 in
theorem size_w2good (s : ByteArray) (w : World) (hs : s.size ≤ maxLen) (h0 : 0 < s.size) (c1 : 194 ≤ (s[0].toNat : Int)) (c2 : (s[0].toNat : Int) < 224) (hl : 2 ≤ s.size) (t1 : s[1].toNat / 64 = 2) :
    Calls Tryd.prog 43 #[.string s] w fun e w' => e = .returned (.int .i64 (sizeL s.data.toList : Nat)) ∧ w = w' := by
  unfold maxLen at hs
  obtain ⟨C, hC1, hC2, hCx⟩ : ∃ C : Nat, bits .and .i64 (s[0].toNat : Int) 31 = (C : Int) ∧ C < 32 ∧ Hid (C = s[0].toNat % 32) := ⟨s[0].toNat % 32, and31 _ (by omega), by omega, rfl⟩
  have HS := Lib.hid (sizeL_2 s.data.toList (by rw [at0_get s 0 h0]; omega) (by rw [at0_get s 0 h0]; omega))
  have q1 := Lib.hid t1
  have k1 : (bits .and .u8 (s[1].toNat : Int) 192 != 128) = false := by rw [and192 _ (s[1].toNat_lt)]; simpa using t1
  obtain ⟨y1, hy1, hz1, hx1⟩ : ∃ y : Nat, bits .and .u8 (s[1].toNat : Int) 63 = (y : Int) ∧ y < 64 ∧ Hid (y = s[1].toNat % 64) := ⟨s[1].toNat % 64, and63b _ (s[1].toNat_lt), by omega, rfl⟩
  have o1 : bits .or .i64 ((C : Int) * 64) (y1 : Int) = (C : Int) * 64 + (y1 : Int) := by
    have := or6 (C) y1 (by omega) hz1
    exact_mod_cast this
  have hlo : (128 : Int) ≤ (C : Int) * 64 + (y1 : Int) := by have := hCx.out; omega
  clear t1
  go_enter Tryd.func43, Tryd.ntmps43
  go_wp2_with fail
  refine wp_loop_rounds 2 ?_; rw [rounds_succ]
  go_wp2_with fail
  rw [rounds_succ]
  go_wp2_with fail
  all_goals
    go_ret
    refine ⟨ret_int ?_, rfl⟩
    have h := HS.out
    have e0 := at0_get s 0 h0
    have e1 := at0_get s 1 (by omega)
    have x0 := hCx.out
    have x1 := hx1.out
    have r1 := q1.out
    have hlen : s.data.toList.length = s.size := by simp
    rw [h]
    first | (rw [if_pos (by omega)]; rfl) | (rw [if_neg (by omega)]; rfl)

set_option maxRecDepth 100000 in
set_option maxHeartbeats 1000000 in
theorem size_w3good (s : ByteArray) (w : World) (hs : s.size ≤ maxLen) (h0 : 0 < s.size) (c1 : 224 ≤ (s[0].toNat : Int)) (c2 : (s[0].toNat : Int) < 240) (hl : 3 ≤ s.size) (t1 : s[1].toNat / 64 = 2) (t2 : s[2].toNat / 64 = 2) :
    Calls Tryd.prog 43 #[.string s] w fun e w' => e = .returned (.int .i64 (sizeL s.data.toList : Nat)) ∧ w = w' := by
  unfold maxLen at hs
  obtain ⟨C, hC1, hC2, hCx⟩ : ∃ C : Nat, bits .and .i64 (s[0].toNat : Int) 15 = (C : Int) ∧ C < 16 ∧ Hid (C = s[0].toNat % 16) := ⟨s[0].toNat % 16, and15 _ (by omega), by omega, rfl⟩
  have HS := Lib.hid (sizeL_3 s.data.toList (by rw [at0_get s 0 h0]; omega) (by rw [at0_get s 0 h0]; omega))
  have q1 := Lib.hid t1
  have k1 : (bits .and .u8 (s[1].toNat : Int) 192 != 128) = false := by rw [and192 _ (s[1].toNat_lt)]; simpa using t1
  obtain ⟨y1, hy1, hz1, hx1⟩ : ∃ y : Nat, bits .and .u8 (s[1].toNat : Int) 63 = (y : Int) ∧ y < 64 ∧ Hid (y = s[1].toNat % 64) := ⟨s[1].toNat % 64, and63b _ (s[1].toNat_lt), by omega, rfl⟩
  have o1 : bits .or .i64 ((C : Int) * 64) (y1 : Int) = (C : Int) * 64 + (y1 : Int) := by
    have := or6 (C) y1 (by omega) hz1
    exact_mod_cast this
  have q2 := Lib.hid t2
  have k2 : (bits .and .u8 (s[2].toNat : Int) 192 != 128) = false := by rw [and192 _ (s[2].toNat_lt)]; simpa using t2
  obtain ⟨y2, hy2, hz2, hx2⟩ : ∃ y : Nat, bits .and .u8 (s[2].toNat : Int) 63 = (y : Int) ∧ y < 64 ∧ Hid (y = s[2].toNat % 64) := ⟨s[2].toNat % 64, and63b _ (s[2].toNat_lt), by omega, rfl⟩
  have o2 : bits .or .i64 (((C : Int) * 64 + (y1 : Int)) * 64) (y2 : Int) = ((C : Int) * 64 + (y1 : Int)) * 64 + (y2 : Int) := by
    have := or6 ((C * 64 + (y1))) y2 (by omega) hz2
    exact_mod_cast this
  clear t1 t2
  go_enter Tryd.func43, Tryd.ntmps43
  go_wp2_with fail
  refine wp_loop_rounds 3 ?_; rw [rounds_succ]
  go_wp2_with fail
  rw [rounds_succ]
  go_wp2_with fail
  rw [rounds_succ]
  go_wp2_with fail
  all_goals
    go_ret
    refine ⟨ret_int ?_, rfl⟩
    have h := HS.out
    have e0 := at0_get s 0 h0
    have e1 := at0_get s 1 (by omega)
    have e2 := at0_get s 2 (by omega)
    have x0 := hCx.out
    have x1 := hx1.out
    have x2 := hx2.out
    have r1 := q1.out
    have r2 := q2.out
    have hlen : s.data.toList.length = s.size := by simp
    rw [h]
    first | (rw [if_pos (by omega)]; rfl) | (rw [if_neg (by omega)]; rfl)

set_option maxRecDepth 100000 in
set_option maxHeartbeats 1000000 in
theorem size_w4good (s : ByteArray) (w : World) (hs : s.size ≤ maxLen) (h0 : 0 < s.size) (c1 : 240 ≤ (s[0].toNat : Int)) (c2 : (s[0].toNat : Int) < 245) (hl : 4 ≤ s.size) (t1 : s[1].toNat / 64 = 2) (t2 : s[2].toNat / 64 = 2) (t3 : s[3].toNat / 64 = 2) :
    Calls Tryd.prog 43 #[.string s] w fun e w' => e = .returned (.int .i64 (sizeL s.data.toList : Nat)) ∧ w = w' := by
  unfold maxLen at hs
  obtain ⟨C, hC1, hC2, hCx⟩ : ∃ C : Nat, bits .and .i64 (s[0].toNat : Int) 7 = (C : Int) ∧ C < 8 ∧ Hid (C = s[0].toNat % 8) := ⟨s[0].toNat % 8, and7 _ (by omega), by omega, rfl⟩
  have HS := Lib.hid (sizeL_4 s.data.toList (by rw [at0_get s 0 h0]; omega) (by rw [at0_get s 0 h0]; omega))
  have q1 := Lib.hid t1
  have k1 : (bits .and .u8 (s[1].toNat : Int) 192 != 128) = false := by rw [and192 _ (s[1].toNat_lt)]; simpa using t1
  obtain ⟨y1, hy1, hz1, hx1⟩ : ∃ y : Nat, bits .and .u8 (s[1].toNat : Int) 63 = (y : Int) ∧ y < 64 ∧ Hid (y = s[1].toNat % 64) := ⟨s[1].toNat % 64, and63b _ (s[1].toNat_lt), by omega, rfl⟩
  have o1 : bits .or .i64 ((C : Int) * 64) (y1 : Int) = (C : Int) * 64 + (y1 : Int) := by
    have := or6 (C) y1 (by omega) hz1
    exact_mod_cast this
  have q2 := Lib.hid t2
  have k2 : (bits .and .u8 (s[2].toNat : Int) 192 != 128) = false := by rw [and192 _ (s[2].toNat_lt)]; simpa using t2
  obtain ⟨y2, hy2, hz2, hx2⟩ : ∃ y : Nat, bits .and .u8 (s[2].toNat : Int) 63 = (y : Int) ∧ y < 64 ∧ Hid (y = s[2].toNat % 64) := ⟨s[2].toNat % 64, and63b _ (s[2].toNat_lt), by omega, rfl⟩
  have o2 : bits .or .i64 (((C : Int) * 64 + (y1 : Int)) * 64) (y2 : Int) = ((C : Int) * 64 + (y1 : Int)) * 64 + (y2 : Int) := by
    have := or6 ((C * 64 + (y1))) y2 (by omega) hz2
    exact_mod_cast this
  have q3 := Lib.hid t3
  have k3 : (bits .and .u8 (s[3].toNat : Int) 192 != 128) = false := by rw [and192 _ (s[3].toNat_lt)]; simpa using t3
  obtain ⟨y3, hy3, hz3, hx3⟩ : ∃ y : Nat, bits .and .u8 (s[3].toNat : Int) 63 = (y : Int) ∧ y < 64 ∧ Hid (y = s[3].toNat % 64) := ⟨s[3].toNat % 64, and63b _ (s[3].toNat_lt), by omega, rfl⟩
  have o3 : bits .or .i64 ((((C : Int) * 64 + (y1 : Int)) * 64 + (y2 : Int)) * 64) (y3 : Int) = (((C : Int) * 64 + (y1 : Int)) * 64 + (y2 : Int)) * 64 + (y3 : Int) := by
    have := or6 (((C * 64 + (y1)) * 64 + (y2))) y3 (by omega) hz3
    exact_mod_cast this
  clear t1 t2 t3
  go_enter Tryd.func43, Tryd.ntmps43
  go_wp2_with fail
  refine wp_loop_rounds 4 ?_; rw [rounds_succ]
  go_wp2_with fail
  rw [rounds_succ]
  go_wp2_with fail
  rw [rounds_succ]
  go_wp2_with fail
  rw [rounds_succ]
  go_wp2_with fail
  all_goals
    go_ret
    refine ⟨ret_int ?_, rfl⟩
    have h := HS.out
    have e0 := at0_get s 0 h0
    have e1 := at0_get s 1 (by omega)
    have e2 := at0_get s 2 (by omega)
    have e3 := at0_get s 3 (by omega)
    have x0 := hCx.out
    have x1 := hx1.out
    have x2 := hx2.out
    have x3 := hx3.out
    have r1 := q1.out
    have r2 := q2.out
    have r3 := q3.out
    have hlen : s.data.toList.length = s.size := by simp
    rw [h]
    first | (rw [if_pos (by omega)]; rfl) | (rw [if_neg (by omega)]; rfl)

theorem size_any (s : ByteArray) (w : World) (hs : s.size ≤ maxLen) (h0 : 0 < s.size) :
    Calls Tryd.prog 43 #[.string s] w fun e w' => e = .returned (.int .i64 (sizeL s.data.toList)) ∧ w = w' := by
  have hb : s[0].toNat < 256 := s[0].toNat_lt
  have g0 := at0_get s 0 h0
  have hlen : s.data.toList.length = s.size := by simp
  by_cases c1 : s[0].toNat < 128
  · rw [sizeL_1 _ (by omega)]; exact size_w1 s w hs h0 (by omega)
  by_cases c2 : s[0].toNat < 194
  · rw [sizeL_0 _ (by omega)]; exact size_w0a s w hs h0 (by omega) (by omega)
  by_cases c3 : 245 ≤ s[0].toNat
  · rw [sizeL_0 _ (by omega)]; exact size_w0b s w hs h0 (by omega) (by omega)
  by_cases c4 : s[0].toNat < 224
  · by_cases hl : s.size < 2
    · rw [sizeL_2 _ (by omega) (by omega), if_neg (by omega)]; exact size_w2short s w hs h0 (by omega) (by omega) hl
    have g1 := at0_get s 1 (by omega)
    by_cases t1 : s[1].toNat / 64 ≠ 2
    · rw [sizeL_2 _ (by omega) (by omega), if_neg (by omega)]; exact size_w2bad1 s w hs h0 (by omega) (by omega) (by omega)  t1
    exact size_w2good s w hs h0 (by omega) (by omega) (by omega) (by omega)
  by_cases c5 : s[0].toNat < 240
  · by_cases hl : s.size < 3
    · rw [sizeL_3 _ (by omega) (by omega), if_neg (by omega)]; exact size_w3short s w hs h0 (by omega) (by omega) hl
    have g1 := at0_get s 1 (by omega)
    by_cases t1 : s[1].toNat / 64 ≠ 2
    · rw [sizeL_3 _ (by omega) (by omega), if_neg (by omega)]; exact size_w3bad1 s w hs h0 (by omega) (by omega) (by omega)  t1
    have g2 := at0_get s 2 (by omega)
    by_cases t2 : s[2].toNat / 64 ≠ 2
    · rw [sizeL_3 _ (by omega) (by omega), if_neg (by omega)]; exact size_w3bad2 s w hs h0 (by omega) (by omega) (by omega) (by omega) t2
    exact size_w3good s w hs h0 (by omega) (by omega) (by omega) (by omega) (by omega)
  by_cases hl : s.size < 4
  · rw [sizeL_4 _ (by omega) (by omega), if_neg (by omega)]; exact size_w4short s w hs h0 (by omega) (by omega) hl
  have g1 := at0_get s 1 (by omega)
  by_cases t1 : s[1].toNat / 64 ≠ 2
  · rw [sizeL_4 _ (by omega) (by omega), if_neg (by omega)]; exact size_w4bad1 s w hs h0 (by omega) (by omega) (by omega)  t1
  have g2 := at0_get s 2 (by omega)
  by_cases t2 : s[2].toNat / 64 ≠ 2
  · rw [sizeL_4 _ (by omega) (by omega), if_neg (by omega)]; exact size_w4bad2 s w hs h0 (by omega) (by omega) (by omega) (by omega) t2
  have g3 := at0_get s 3 (by omega)
  by_cases t3 : s[3].toNat / 64 ≠ 2
  · rw [sizeL_4 _ (by omega) (by omega), if_neg (by omega)]; exact size_w4bad3 s w hs h0 (by omega) (by omega) (by omega) (by omega) (by omega) t3
  exact size_w4good s w hs h0 (by omega) (by omega) (by omega) (by omega) (by omega) (by omega)

end Go.Proofs.YtigobehhmodoiaaDoor
