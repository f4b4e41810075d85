/- The reference's Known. -/
import Derived.Test.YthhmccdjhcfggaaSpecE
namespace Go.Proofs.Ythhmccdjhcfggaa
open Go.RowKit
set_option linter.unusedVariables false
set_option linter.unusedSimpArgs false

def knownTo (t : Bytes) (n : Nat) : Bool := (wordL t).isEmpty || (ents.take n).any (entHit t (wordL t))
def strTo (t : Bytes) (n : Nat) : Bool := knownTo t 54 || (strangeL.take n).any (· == wordL t)
theorem vbool {a b : Bool} (h : a = b) : Value.bool a = .bool b := by rw [h]

theorem toList_data (s : ByteArray) : s.toList = s.data.toList := Lib.toList_data s
theorem wordL_le (t : Bytes) : (wordL t).length ≤ t.length := (List.takeWhile_prefix _).length_le

theorem take_get {α : Type} (l : List α) (n : Nat) (d : α) (h : n < l.length) : l.take (n + 1) = l.take n ++ [l.getD n d] := by
  rw [List.take_succ_eq_append_getElem h, List.getD_eq_getElem?_getD, List.getElem?_eq_getElem h]; rfl

theorem known_step (t : Bytes) (v : ByteArray) (hv : v.data.toList = wordL t) (n : Nat) (hn : n < 54) :
    knownTo t (n + 1) = (knownTo t n || (decide ((entName n).toList = v.toList) && (entLegacy n || (decide (v.size < t.length) && at0 t v.size == 59)))) := by
  have hvl : v.size = (wordL t).length := by rw [← hv]; simp
  unfold knownTo
  rw [take_get ents n ([], [], false) hn, List.any_append, ← Bool.or_assoc]
  congr 1
  simp only [List.any_cons, List.any_nil, Bool.or_false]
  unfold entHit
  rw [← hvl, toList_data, toList_data, hv]
  show (_ && (entLegacy n || _)) = _
  congr 1
  unfold entName
  rw [Bool.eq_iff_iff]
  simp [entAt]

theorem str_step (t : Bytes) (v : ByteArray) (hv : v.data.toList = wordL t) (n : Nat) (hn : n < 18) :
    strTo t (n + 1) = (strTo t n || decide ((strAt n).toList = v.toList)) := by
  unfold strTo
  rw [take_get strangeL n [] hn, List.any_append, ← Bool.or_assoc]
  congr 1
  simp only [List.any_cons, List.any_nil, Bool.or_false]
  rw [toList_data, toList_data, hv]
  unfold strAt
  rw [Bool.eq_iff_iff]
  simp

theorem str_end (t : Bytes) : strTo t 18 = knownAt t := by
  unfold strTo knownTo knownAt
  rw [List.take_of_length_le (by decide), List.take_of_length_le (by decide)]

theorem knownL_drop (l : Bytes) (k : Nat) (h : k < l.length) : knownL (l.drop k) = ((at0 l k != 38 || knownAt (l.drop (k + 1))) && knownL (l.drop (k + 1))) := by
  have e4 : at0 l k = l[k].toNat := by unfold at0; rw [List.getD_eq_getElem?_getD, List.getElem?_eq_getElem h]; rfl
  rw [List.drop_eq_getElem_cons h, e4]; rfl

theorem close1 {K x : Bool} (h : K = true) : true = (K || x) := by simp [h]
theorem close2 {K L y : Bool} {P : Prop} [Decidable P] (hp : P) (hl : L = true) : true = (K || decide P && (L || y)) := by simp [hp, hl]
theorem close3 {K L D y z : Bool} {P : Prop} [Decidable P] (hk : ¬K = true) (hp : P) (hl : ¬L = true) (hd : D = true) (hz : z = y) : z = (K || decide P && (L || D && y)) := by
  simp_all
theorem close4 {K L D y : Bool} {P : Prop} [Decidable P] (hk : ¬K = true) (hl : ¬L = true) (hd : D = false) : false = (K || decide P && (L || D && y)) := by
  simp_all
theorem close5 {K y : Bool} {P : Prop} [Decidable P] (hk : ¬K = true) (hp : ¬P) : false = (K || decide P && y) := by simp_all
theorem close6 {K : Bool} {P : Prop} [Decidable P] (hp : P) : true = (K || decide P) := by simp [hp]
theorem int_beq (a b : Nat) : ((a : Int) == (b : Int)) = (a == b) := by
  rw [Bool.eq_iff_iff]; simp only [beq_iff_eq]; omega
theorem beq_decide {α : Type} [BEq α] [LawfulBEq α] [DecidableEq α] (a b : α) : (a == b) = decide (a = b) := by
  rw [Bool.eq_iff_iff]; simp
theorem close7 {K x : Bool} {P : Prop} [Decidable P] (hk : ¬K = true) (hx : x = decide P) : x = (K || decide P) := by simp_all

set_option maxRecDepth 100000 in
set_option maxHeartbeats 4000000 in
theorem known_any (s : ByteArray) (w : World) (hs : s.size ≤ maxLen) :
    Calls Try.prog 12 #[.string s] w fun e w' => e = .returned (.bool (knownL s.data.toList)) ∧ Below w.heap.size w w' := by
  have hs0 := hs
  have HL : Hid (s.data.toList.length = s.size) := Lib.hid (by simp)
  unfold maxLen at hs
  go_enter Try.func12, Try.ntmps12
  go_wp2_with fail
  go_loopw [12] (fun i wr => ∃ k : Nat, k ≤ s.size ∧ i = .int .i64 k ∧ Below w.heap.size w wr ∧ knownL s.data.toList = knownL (s.data.toList.drop k)) (fun i _ => s.size - (intOf i).toNat)
  case atStart => exact ⟨0, Nat.zero_le _, rfl, Below.refl _ _, rfl⟩
  case round =>
    obtain ⟨k, hk, rfl, hb, hf⟩ := hrel
    have H := Lib.hid hf; clear hf
    by_cases hlt : k < s.size
    · have HD := Lib.hid (knownL_drop s.data.toList k (by rw [HL.out]; exact hlt))
      by_cases hc : s[k].toNat = 38
      · have hc1 : ((s[k].toNat : Int) != 38) = false := by simp [hc]
        have HC := Lib.hid hc; clear hc
        have hsz : (s.extract (k + 1) s.size).size ≤ maxLen := by simp; unfold maxLen; omega
        go_wp2_with (go_at_call 18; refine (word_any _ _ hsz).mono ?_; rintro e w' ⟨⟨v, rfl, hv⟩, rfl⟩)
        rw [extract_end] at hv
        have HV := Lib.hid hv; clear hv
        have hvs : (k : Int) + 1 + v.size ≤ s.size := by
          have h1 := wordL_le (s.data.toList.drop (k + 1))
          rw [← HV.out, List.length_drop, HL.out] at h1
          have h2 : v.data.toList.length = v.size := by simp
          omega
        have hbase : Hid (v.toList.isEmpty = knownTo (s.data.toList.drop (k + 1)) 0) := Lib.hid <| by
          rw [toList_data, HV.out]; simp [knownTo]
        have hidx : (h : k + 1 + v.size < s.size) → at0 (s.data.toList.drop (k + 1)) v.size = s[k + 1 + v.size].toNat := by
          intro h
          rw [← at0_get s _ h]
          unfold at0
          simp [List.getD_eq_getElem?_getD, List.getElem?_drop]
        have HI := Lib.hid hidx; clear hidx
        go_wp2_with (go_at_call 19; refine (entities_calls _).mono ?_; rintro e w1 ⟨rfl, hw1⟩)
        obtain ⟨wo, rfl⟩ : ∃ wo : World, wo = wr := ⟨_, rfl⟩
        have hsz1 := Lib.hid hw1.size
        go_loopw [5, 28] (fun kn i wx => ∃ n : Nat, n ≤ 54 ∧ i = .int .i64 n ∧ Below w1.heap.size w1 wx ∧ kn = .bool (knownTo (s.data.toList.drop (k + 1)) n)) (fun _ i _ => 54 - (intOf i).toNat)
        case atStart =>
          exact ⟨0, by omega, rfl, Below.refl _ _, vbool hbase.out⟩
        case round =>
          obtain ⟨n, hn, rfl, hbx, rfl⟩ := hrel
          have hsx := hbx.size
          by_cases hn54 : n < 54
          · have hlt1 : wo.heap.size < w1.heap.size := by rw [hsz1.out]; omega
            have e0 := (hbx.cell (p := ⟨wo.heap.size, n * 3, none⟩) hlt1).trans (hw1.cell0 n hn54)
            have e1 := (hbx.cell (p := ⟨wo.heap.size, n * 3 + 1, none⟩) hlt1).trans (hw1.cell1 n hn54)
            have e2 := (hbx.cell (p := ⟨wo.heap.size, n * 3 + 2, none⟩) hlt1).trans (hw1.cell2 n hn54)
            have HS := Lib.hid (known_step (s.data.toList.drop (k + 1)) v HV.out n hn54)
            go_wp2_with fail
            all_goals
              go_roundw
              case rel =>
                refine ⟨n + 1, by omega, by go_num, hbx.alloc (by omega) _, vbool ?_⟩
                rw [HS.out]
                first
                  | exact close1 (by assumption)
                  | exact close2 (by assumption) (by assumption)
                  | exact close5 (by assumption) (by assumption)
                  | exact close4 (by assumption) (by assumption) (by rw [decide_eq_false_iff_not, List.length_drop, HL.out]; omega)
                  | exact close3 (by assumption) (by assumption) (by assumption) (by rw [decide_eq_true_iff, List.length_drop, HL.out]; omega) (by rw [HI.out (by omega)]; exact int_beq _ 59)
              case measure => simp [intOf]; omega
          · obtain rfl : n = 54 := by omega
            have hlt1 : wo.heap.size < w1.heap.size := by rw [hsz1.out]; omega
            have hbs := hb.size
            have hb54 := (hb.trans (hw1.below.mono hb.size)).trans (hbx.mono (by omega))
            go_wp2_with (go_at_call 20; refine (strange_calls _).mono ?_; rintro e w2 ⟨rfl, hw2⟩)
            obtain ⟨wp, rfl⟩ : ∃ wp : World, wp = wr := ⟨_, rfl⟩
            have hbase2 : Hid (knownTo (s.data.toList.drop (k + 1)) 54 = strTo (s.data.toList.drop (k + 1)) 0) := Lib.hid <| by simp [strTo]
            have hsz2 := Lib.hid hw2.size
            have hb2 := hb54.trans (hw2.below.mono hb54.size)
            go_loop [5, 66] (fun kn i => ∃ n : Nat, n ≤ 18 ∧ i = .int .i64 n ∧ kn = .bool (strTo (s.data.toList.drop (k + 1)) n)) (fun _ i => 18 - (intOf i).toNat)
            case atStart => exact ⟨0, by omega, rfl, vbool hbase2.out⟩
            case round =>
              obtain ⟨n, hn, rfl, rfl⟩ := hrel
              by_cases hn18 : n < 18
              · have e0 := hw2.cell n hn18
                have HS := Lib.hid (str_step (s.data.toList.drop (k + 1)) v HV.out n hn18)
                go_wp2_with fail
                all_goals
                  go_round
                  case rel =>
                    refine ⟨n + 1, by omega, by go_num, vbool ?_⟩
                    rw [HS.out]
                    first
                      | exact close1 (by assumption)
                      | exact close7 (by assumption) (beq_decide _ _)
                  case measure => simp [intOf]; omega
              · obtain rfl : n = 18 := by omega
                have HE := Lib.hid (str_end (s.data.toList.drop (k + 1)))
                by_cases hka : strTo (s.data.toList.drop (k + 1)) 18 = true
                · have HR : Hid (knownL s.data.toList = knownL (s.data.toList.drop (k + 1))) := Lib.hid <| by
                    rw [H.out, HD.out, ← HE.out, hka]; simp
                  go_wp2_with fail
                  go_roundw
                  case rel => exact ⟨k + 1, by omega, by go_num, hb2, HR.out⟩
                  case measure => simp [intOf]; omega
                · have hka' : strTo (s.data.toList.drop (k + 1)) 18 = false := by simpa using hka
                  have HR : Hid (knownL s.data.toList = false) := Lib.hid <| by
                    rw [H.out, HD.out, ← HE.out, hka', at0_get s k hlt, HC.out]; rfl
                  clear hka
                  go_wp2_with fail
                  go_ret
                  exact ⟨ret_bool HR.out.symm, hb2⟩
      · have hc1 : ((s[k].toNat : Int) != 38) = true := by simp; omega
        have HR : Hid (knownL s.data.toList = knownL (s.data.toList.drop (k + 1))) := Lib.hid <| by
          rw [H.out, HD.out, at0_get s k hlt]; simp [hc]
        clear hc
        go_wp2_with fail
        go_roundw
        case rel => exact ⟨k + 1, by omega, by go_num, hb, HR.out⟩
        case measure => simp [intOf]; omega
    · have HR : Hid (knownL s.data.toList = true) := Lib.hid <| by
        rw [H.out, List.drop_of_length_le (by rw [HL.out]; omega)]; rfl
      go_wp2_with fail
      go_ret
      exact ⟨ret_bool HR.out.symm, hb⟩
end Go.Proofs.Ythhmccdjhcfggaa
