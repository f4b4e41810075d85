/- The reference's escape of ECMAScript, where it is one. -/
import Derived.Test.YteheelcppgjeaaaDoorJsA
namespace Go.Proofs.YteheelcppgjeaaaDoor
open Go.RowKit
set_option linter.unusedVariables false
set_option linter.unusedSimpArgs false

def RetEsc (x : Bytes) (n : Nat) (e : Ending) : Prop := ∃ v : ByteArray, e = .returned (.tuple #[.string v, .int .i64 n, .bool true]) ∧ v.data.toList = x
theorem list_ne (s : ByteArray) (c : UInt8) (t : Bytes) (h : s.data.toList = c :: t) : s.toList.isEmpty = false ∧ (s.toList = []) = False ∧ s.size = t.length + 1 := by
  rw [Lib.toList_data, h]
  refine ⟨rfl, by simp, ?_⟩
  have := congrArg List.length h
  simpa using this
theorem get_list (s : ByteArray) (k : Nat) (hk : k < s.size) : s[k].toNat = at0 s.data.toList k := (at0_get s k hk).symm

set_option maxRecDepth 100000 in
set_option maxHeartbeats 2000000 in
theorem escape_u (s : ByteArray) (a b c d : UInt8) (v : Nat) (r : Bytes) (hl : s.data.toList = 117 :: a :: b :: c :: d :: r) (ha : digitV a.toNat < 16) (hb : digitV b.toNat < 16) (hc : digitV c.toNat < 16) (hd : digitV d.toNat < 16)
    (hv : v = ((digitV a.toNat * 16 + digitV b.toNat) * 16 + digitV c.toNat) * 16 + digitV d.toNat) (hs : ¬ (0xd800 ≤ v ∧ v ≤ 0xdfff)) (w : World) (hz : s.size ≤ maxLen) :
    Calls Tryd.prog 45 #[.string s] w fun e w' => RetEsc (codedL v) 5 e ∧ Below w.heap.size w w' := by
  have hz0 := hz
  obtain ⟨e1, e2, e3⟩ := list_ne s _ _ hl
  simp only [List.length_cons] at e3
  have h0 : 0 < s.size := by omega
  have k0 : s[0].toNat = 117 := by rw [get_list s 0 h0, hl, at0_c0]; rfl
  have hle : lineEndL s.data.toList = false := by rw [hl]; exact lineEnd_ascii _ _ (by decide)
  have H1 := Lib.hid (fun w => lineEnd_no s w hz0 h0 hle)
  have hx : (s.extract 1 s.size).data.toList = a :: b :: c :: d :: r := by rw [extract_end, hl]; rfl
  have hxs : (s.extract 1 s.size).size = r.length + 4 := by
    have := congrArg List.length hx
    simpa using this
  have hhex := fun w => hex_ok (s.extract 1 s.size) 4 (by omega) (by omega) (fun k hk hk4 => by
    rw [get_list _ k hk, hx]
    match k, hk4 with
    | 0, _ => rw [at0_c0]; exact ha
    | 1, _ => rw [at0_c1]; exact hb
    | 2, _ => rw [at0_c2]; exact hc
    | 3, _ => rw [at0_c3]; exact hd) w (by unfold maxLen at hz ⊢; simp; omega)
  have hfold : hexFold ((s.extract 1 s.size).data.toList.take 4) = v := by
    rw [hx, hv]
    show hexFold [a, b, c, d] = _
    simp [hexFold]
  rw [hfold] at hhex
  have HH := Lib.hid hhex
  have HC := Lib.hid (fun w => coded_any v w (by omega))
  have q1 : ((s[0].toNat : Int) == 120) = false := by rw [k0]; rfl
  have q2 : ((s[0].toNat : Int) == 117) = true := by rw [k0]; rfl
  have hz1 : (1 : Int) ≤ s.size := by omega
  have hvd : (decide ((v : Int) < 55296) = true) ∨ (decide ((v : Int) < 55296) = false ∧ decide ((57343 : Int) < v) = true) := by
    simp only [decide_eq_true_eq, decide_eq_false_iff_not]
    omega
  have h0' : (0 : Int) < s.size := by omega
  clear hl hle hx hxs hhex hfold k0 hz ha hb hc hd hv hs e3
  unfold maxLen at hz0
  rcases hvd with d1 | ⟨d1, d2⟩
  all_goals
    go_enter Tryd.func45, Tryd.ntmps45
    go_wp2_with (first
      | (go_at_call 47; refine (H1.out _).mono ?_; rintro e w1 ⟨rfl, rfl⟩)
      | (go_at_call 67; refine (HH.out _).mono ?_; rintro e w1 ⟨rfl, rfl⟩)
      | (go_at_call 68; refine (HC.out _).mono ?_; rintro e w1 ⟨⟨x, rfl, hx⟩, hb⟩; have HV := Lib.hid hx; clear hx))
    go_ret3
    exact ⟨⟨_, rfl, HV.out⟩, hb⟩

set_option maxRecDepth 100000 in
set_option maxHeartbeats 2000000 in
theorem escape_single (s : ByteArray) (c : UInt8) (r : Bytes) (hl : s.data.toList = c :: r) (hc : singleV c.toNat ≠ 0) (w : World) (hz : s.size ≤ maxLen) :
    Calls Tryd.prog 45 #[.string s] w fun e w' => RetEsc (codedL (singleV c.toNat)) 1 e ∧ Below w.heap.size w w' := by
  have hz0 := hz
  obtain ⟨e1, e2, e3⟩ := list_ne s _ _ hl
  have h0 : 0 < s.size := by omega
  have k0 : s[0].toNat = c.toNat := by rw [get_list s 0 h0, hl, at0_c0]
  have hcs : c.toNat = 98 ∨ c.toNat = 116 ∨ c.toNat = 110 ∨ c.toNat = 118 ∨ c.toNat = 102 ∨ c.toNat = 114 := by
    by_cases g1 : c.toNat = 98
    · omega
    by_cases g2 : c.toNat = 116
    · omega
    by_cases g3 : c.toNat = 110
    · omega
    by_cases g4 : c.toNat = 118
    · omega
    by_cases g5 : c.toNat = 102
    · omega
    by_cases g6 : c.toNat = 114
    · omega
    exfalso
    apply hc
    unfold singleV
    rw [if_neg g1, if_neg g2, if_neg g3, if_neg g4, if_neg g5, if_neg g6]
  have hle : lineEndL s.data.toList = false := by rw [hl]; exact lineEnd_ascii _ _ (by omega)
  have H1 := Lib.hid (fun w => lineEnd_no s w hz0 h0 hle)
  have hsg := fun w => single_hit c.toNat hc w
  obtain ⟨v, hv⟩ : ∃ v, v = singleV c.toNat := ⟨_, rfl⟩
  have hv1 : v < 128 := by
    rw [hv]
    rcases hcs with h | h | h | h | h | h <;> rw [h] <;> decide
  rw [← hv] at hsg ⊢
  rw [← k0] at hsg
  have HS := Lib.hid hsg
  have HR : Hid (codedL v = [UInt8.ofNat v]) := Lib.hid <| by unfold codedL; rw [if_pos hv1]
  have hcv := conv_new w [v] (by simp; omega) w.heap.size 1 1 rfl rfl
  simp only [List.map_cons, List.map_nil] at hcv
  have q1 : ((s[0].toNat : Int) == 120) = false := by rw [k0, beq_eq_false_iff_ne]; omega
  have q2 : ((s[0].toNat : Int) == 117) = false := by rw [k0, beq_eq_false_iff_ne]; omega
  have q3 : ((s[0].toNat : Int) == 48) = false := by rw [k0, beq_eq_false_iff_ne]; omega
  have q4 : decide ((49 : Int) ≤ s[0].toNat) = true := by rw [k0, decide_eq_true_eq]; omega
  have q5 : decide ((s[0].toNat : Int) ≤ 57) = false := by rw [k0, decide_eq_false_iff_not]; omega
  have h0' : (0 : Int) < s.size := by omega
  clear hl hle hsg k0 hz hcs hc hv e3 hv1
  unfold maxLen at hz0
  go_enter Tryd.func45, Tryd.ntmps45
  go_wp2_with (first
      | (go_at_call 47; refine (H1.out _).mono ?_; rintro e w1 ⟨rfl, rfl⟩)
      | (go_at_call 69; refine (HS.out _).mono ?_; rintro e w1 ⟨rfl, rfl⟩))
  go_ret3
  exact ⟨⟨_, rfl, by rw [HR.out]⟩, (Below.refl _ _).alloc (Nat.le_refl _) _⟩

set_option maxRecDepth 100000 in
set_option maxHeartbeats 2000000 in
theorem escape_self (s : ByteArray) (c : UInt8) (r : Bytes) (hl : s.data.toList = c :: r) (hc : selfB c.toNat = true) (w : World) (hz : s.size ≤ maxLen) :
    Calls Tryd.prog 45 #[.string s] w fun e w' => RetEsc (codedL c.toNat) 1 e ∧ Below w.heap.size w w' := by
  have hz0 := hz
  obtain ⟨e1, e2, e3⟩ := list_ne s _ _ hl
  have h0 : 0 < s.size := by omega
  have k0 : s[0].toNat = c.toNat := by rw [get_list s 0 h0, hl, at0_c0]
  have hcs : c.toNat < 128 ∧ ¬ (97 ≤ c.toNat ∧ c.toNat ≤ 122) ∧ ¬ (48 ≤ c.toNat ∧ c.toNat ≤ 57) ∧ c.toNat ≠ 10 ∧ c.toNat ≠ 13 := by
    unfold selfB isAlnumB isAlphaB at hc
    simp at hc
    omega
  have hsv : singleV c.toNat = 0 := by
    unfold singleV
    rw [if_neg (by omega), if_neg (by omega), if_neg (by omega), if_neg (by omega), if_neg (by omega), if_neg (by omega)]
  have hle : lineEndL s.data.toList = false := by rw [hl]; exact lineEnd_ascii _ _ (by omega)
  have H1 := Lib.hid (fun w => lineEnd_no s w hz0 h0 hle)
  have hsg := fun w => single_none c.toNat hsv w
  rw [← k0] at hsg
  have HS := Lib.hid hsg
  have hsz := fun w => size_any s w hz0 h0
  have h1 : sizeL s.data.toList = 1 := sizeL_1 _ (by rw [hl, at0_c0]; exact hcs.1)
  rw [h1] at hsz
  have HZ := Lib.hid hsz
  have HR : Hid (codedL c.toNat = (s.extract 0 1).data.toList) := Lib.hid <| by
    rw [extract_mid0, hl]
    unfold codedL
    rw [if_pos hcs.1]; simp
  have q1 : ((s[0].toNat : Int) == 120) = false := by rw [k0, beq_eq_false_iff_ne]; omega
  have q2 : ((s[0].toNat : Int) == 117) = false := by rw [k0, beq_eq_false_iff_ne]; omega
  have q3 : ((s[0].toNat : Int) == 48) = false := by rw [k0, beq_eq_false_iff_ne]; omega
  have q4 : decide ((49 : Int) ≤ s[0].toNat) = false ∨ (decide ((49 : Int) ≤ s[0].toNat) = true ∧ decide ((s[0].toNat : Int) ≤ 57) = false) := by
    rw [k0]
    simp only [decide_eq_true_eq, decide_eq_false_iff_not]
    omega
  have h0' : (0 : Int) < s.size := by omega
  clear hl hle hsg k0 hz hcs hc hsv e3 hsz h1
  unfold maxLen at hz0
  rcases q4 with q4 | ⟨q4, q5⟩
  all_goals
    go_enter Tryd.func45, Tryd.ntmps45
    go_wp2_with (first
      | (go_at_call 47; refine (H1.out _).mono ?_; rintro e w1 ⟨rfl, rfl⟩)
      | (go_at_call 69; refine (HS.out _).mono ?_; rintro e w1 ⟨rfl, rfl⟩)
      | (go_at_call 43; refine (HZ.out _).mono ?_; rintro e w1 ⟨rfl, rfl⟩))
    go_ret3
    exact ⟨⟨_, rfl, by rw [HR.out]⟩, Below.refl _ _⟩

theorem escape_any (s : ByteArray) (x : Bytes) (n : Nat) (h : Esc s.data.toList x n) (w : World) (hz : s.size ≤ maxLen) :
    Calls Tryd.prog 45 #[.string s] w fun e w' => RetEsc x n e ∧ Below w.heap.size w w' := by
  generalize hl : s.data.toList = l at h
  cases h with
  | u a b c d v r ha hb hc hd hv hs => exact escape_u s a b c d v r hl ha hb hc hd hv hs w hz
  | single c r hc => exact escape_single s c r hl hc w hz
  | self c r hc => exact escape_self s c r hl hc w hz
theorem Esc.bounds {t x : Bytes} {n : Nat} (h : Esc t x n) : t ≠ [] ∧ 1 ≤ n ∧ n ≤ t.length ∧ x.length ≤ 4 := by
  have hc : ∀ m, (codedL m).length ≤ 4 := by
    intro m
    unfold codedL
    repeat' split
    all_goals simp
  cases h with
  | u a b c d v r _ _ _ _ _ _ => exact ⟨by simp, by omega, by simp, hc _⟩
  | single c r _ => exact ⟨by simp, by omega, by simp, hc _⟩
  | self c r _ => exact ⟨by simp, by omega, by simp, hc _⟩
end Go.Proofs.YteheelcppgjeaaaDoor
