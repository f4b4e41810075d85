/- CSS: the package's hexDecode and skipCSSSpace. -/
import Derived.Test.YtigobehhmodoiaaDoorUrlC
import Derived.Test.YtigobehhmodoiaaDoorSpHex
import Derived.Test.YtigobehhmodoiaaDoorLawS
import Derived.Lib.SlBytesRow
import Derived.Shelf.Bytes.SlSearch0
namespace Go.Proofs.YtigobehhmodoiaaDoor
open Go.RowKit
set_option linter.unusedVariables false
set_option linter.unusedSimpArgs false

theorem ofInt_32 (a : Nat) (ha : a < 2147483648) : (BitVec.ofInt 32 (a : Int)).toNat = a := by
  rw [BitVec.ofInt_natCast, BitVec.toNat_ofNat]; exact Nat.mod_eq_of_lt (by omega)
theorem i32_or_nat (a b : Nat) (ha : a < 2147483648) (hb : b < 2147483648) : bits .or .i32 (a : Int) (b : Int) = ((a ||| b : Nat) : Int) := by
  have hx : a ||| b < 2 ^ 31 := Nat.or_lt_two_pow (by omega) (by omega)
  show IntKind.i32.wrap ((BitVec.ofInt 32 (a : Int) ||| BitVec.ofInt 32 (b : Int)).toNat : Int) = _
  rw [BitVec.toNat_or, ofInt_32 a ha, ofInt_32 b hb, IntKind.wrap_i32]
  omega
theorem or4_32 (a b : Nat) (ha : a < 33554432) (hb : b < 16) : bits .or .i32 ((a : Int) * 16) (b : Int) = (a : Int) * 16 + (b : Int) := by
  have h := i32_or_nat (a * 16) b (by omega) (by omega)
  rw [nat_join 4 (a * 16) b (by omega) hb] at h
  exact_mod_cast h

set_option maxRecDepth 100000 in
set_option maxHeartbeats 4000000 in
theorem hexDecode_any (T : ByteArray) (b o cap : Nat) (w : World) (hD : T.size ≤ 6) (hB : Lib.Bytes w b o T) (hh : ∀ (k : Nat) (h : k < T.size), digitV T[k].toNat < 16) :
    Calls Tryd.prog 90 #[.slice (some ⟨b, o, none⟩) T.size cap] w fun e w' => e = .returned (.int .i32 (hexFold T.data.toList : Int)) ∧ w = w' := by
  have HB := Lib.hid hB; clear hB
  have HH := Lib.hid hh; clear hh
  obtain ⟨D, hD0⟩ : ∃ D, D = T.size := ⟨_, rfl⟩
  have HD := Lib.hid hD0
  rw [← hD0] at hD ⊢
  have hd6 : (D : Int) ≤ 6 := by omega
  clear hD0
  go_enter Tryd.func90, Tryd.ntmps90
  go_wp2_with fail
  go_loop [3, 8] (fun n i => ∃ (k v : Nat), k ≤ D ∧ i = .int .i64 k ∧ n = .int .i32 v ∧ Hid (v = hexFold (T.data.toList.take k) ∧ v < 16 ^ k)) (fun _ i => D - (intOf i).toNat)
  case atStart => exact ⟨0, 0, Nat.zero_le _, rfl, rfl, Lib.hid ⟨rfl, by decide⟩⟩
  case round =>
    obtain ⟨k, v, hk, rfl, rfl, H⟩ := hrel
    by_cases hlt : k < D
    · have hks : k < T.size := by rw [← HD.out]; exact hlt
      have hc := HB.out k hks
      obtain ⟨c, hcc⟩ : ∃ c : Nat, c = T[k].toNat := ⟨_, rfl⟩
      rw [← hcc] at hc
      have hd := HH.out k hks
      rw [← hcc] at hd
      have hc256 : c < 256 := by rw [hcc]; exact T[k].toNat_lt
      have hvb : v < 1048576 := by
        have h2 := H.out.2
        have : (16 : Nat) ^ k ≤ 16 ^ 5 := Nat.pow_le_pow_right (by omega) (by omega)
        omega
      have HS : Hid (v * 16 + digitV c = hexFold (T.data.toList.take (k + 1)) ∧ v * 16 + digitV c < 16 ^ (k + 1)) := Lib.hid <| by
        refine ⟨?_, ?_⟩
        · rw [take_snoc T k hks, hexFold_snoc, ← H.out.1, hcc]
        · have h2 := H.out.2
          rw [Nat.pow_succ]; omega
      have hvI : (v : Int) < 1048576 := by omega
      by_cases d1 : 48 ≤ c ∧ c ≤ 57
      · have e1 : digitV c = c - 48 := by unfold digitV; rw [if_pos d1]
        obtain ⟨x, hx⟩ : ∃ x : Nat, x = c - 48 := ⟨_, rfl⟩
        have hcx : c = x + 48 := by omega
        rw [e1, ← hx] at HS
        have ho : bits .or .i32 ((v : Int) * 16) ((c : Int) - 48) = (v : Int) * 16 + (x : Int) := by
          rw [show ((c : Int) - 48) = (x : Int) by omega]; exact or4_32 v x (by omega) (by omega)
        have t1 : (48 : Int) ≤ c := by omega
        have t2 : (c : Int) ≤ 57 := by omega
        clear d1 hd e1 hx hcx hcc
        go_wp2_with fail
        go_round
        case rel => exact ⟨k + 1, v * 16 + x, by omega, by go_num, by go_num, HS⟩
        case measure => simp [intOf]; omega
      · by_cases d2 : 97 ≤ c ∧ c ≤ 102
        · have e1 : digitV c = c - 87 := by unfold digitV; rw [if_neg d1, if_pos d2]
          obtain ⟨x, hx⟩ : ∃ x : Nat, x = c - 87 := ⟨_, rfl⟩
          have hcx : c = x + 87 := by omega
          rw [e1, ← hx] at HS
          have ho : bits .or .i32 ((v : Int) * 16) (((c : Int) - 97) % 256 + 10) = (v : Int) * 16 + (x : Int) := by
            rw [show (((c : Int) - 97) % 256 + 10) = (x : Int) by omega]; exact or4_32 v x (by omega) (by omega)
          have q1 : decide ((48 : Int) ≤ c) = true := by simp; omega
          have q2 : decide ((c : Int) ≤ 57) = false := by simp; omega
          have q3 : decide ((97 : Int) ≤ c) = true := by simp; omega
          have q4 : decide ((c : Int) ≤ 102) = true := by simp; omega
          clear d1 d2 hd e1 hx hcx hcc hc256 hvb
          go_wp2_with fail
          go_round
          case rel => exact ⟨k + 1, v * 16 + x, by omega, by go_num, by go_num, HS⟩
          case measure => simp [intOf]; omega
        · have d3 : 65 ≤ c ∧ c ≤ 70 := by
            unfold digitV at hd
            rw [if_neg d1, if_neg d2] at hd
            split at hd
            · assumption
            · omega
          have e1 : digitV c = c - 55 := by unfold digitV; rw [if_neg d1, if_neg d2, if_pos d3]
          obtain ⟨x, hx⟩ : ∃ x : Nat, x = c - 55 := ⟨_, rfl⟩
          have hcx : c = x + 55 := by omega
          rw [e1, ← hx] at HS
          have ho : bits .or .i32 ((v : Int) * 16) (((c : Int) - 65) % 256 + 10) = (v : Int) * 16 + (x : Int) := by
            rw [show (((c : Int) - 65) % 256 + 10) = (x : Int) by omega]; exact or4_32 v x (by omega) (by omega)
          have q1 : decide ((48 : Int) ≤ c) = true := by simp; omega
          have q2 : decide ((c : Int) ≤ 57) = false := by simp; omega
          have q3 : decide ((97 : Int) ≤ c) = false := by simp; omega
          have q4 : decide ((65 : Int) ≤ c) = true := by simp; omega
          have q5 : decide ((c : Int) ≤ 70) = true := by simp; omega
          clear d1 d2 d3 hd e1 hx hcx hcc hc256 hvb
          go_wp2_with fail
          go_round
          case rel => exact ⟨k + 1, v * 16 + x, by omega, by go_num, by go_num, HS⟩
          case measure => simp [intOf]; omega
    · have hkD : k = D := by omega
      have HR : Hid (v = hexFold T.data.toList) := Lib.hid <| by
        rw [H.out.1, List.take_of_length_le]
        have : T.data.toList.length = T.size := by simp
        rw [this, ← HD.out]; omega
      clear hkD
      go_wp2_with fail
      go_ret
      exact ⟨ret_int (by rw [HR.out]), rfl⟩
end Go.Proofs.YtigobehhmodoiaaDoor
