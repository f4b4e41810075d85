/- The reference's word, and its lists of references. -/
import Derived.Test.YthhmccdjhcfggaaCom
namespace Go.Proofs.Ythhmccdjhcfggaa
open Go.RowKit
set_option linter.unusedVariables false
set_option linter.unusedSimpArgs false

theorem wordL_take (l : Bytes) (k : Nat) (hk : k ≤ l.length) (h1 : (l.take k).all (fun b => isAlnumB b.toNat) = true) (h2 : k < l.length → isAlnumB (at0 l k) = false) : wordL l = l.take k := by
  unfold wordL
  have e := List.take_append_drop k l
  have e1 : l.takeWhile (fun b => isAlnumB b.toNat) = (l.take k ++ l.drop k).takeWhile (fun b => isAlnumB b.toNat) := by rw [e]
  rw [e1, List.takeWhile_append_of_pos (by simpa using h1)]
  have e2 : (l.drop k).takeWhile (fun b => isAlnumB b.toNat) = [] := by
    by_cases hlt : k < l.length
    · have e3 : l.drop k = l[k] :: l.drop (k + 1) := List.drop_eq_getElem_cons hlt
      have e4 : at0 l k = l[k].toNat := by unfold at0; rw [List.getD_eq_getElem?_getD, List.getElem?_eq_getElem hlt]; rfl
      rw [e3, List.takeWhile_cons, ← e4, h2 hlt]; rfl
    · rw [List.drop_of_length_le (by omega)]; rfl
  rw [e2, List.append_nil]

theorem word_any (s : ByteArray) (w : World) (hs : s.size ≤ maxLen) :
    Calls Try.prog 18 #[.string s] w fun e w' => RetStr (wordL s.data.toList) e ∧ w = w' := by
  have hs0 := hs
  have hlen : s.data.toList.length = s.size := by simp
  have HL := Lib.hid hlen; clear hlen
  unfold maxLen at hs
  go_enter Try.func18, Try.ntmps18
  go_wp2_with fail
  go_loop [3] (fun i => ∃ k : Nat, k ≤ s.size ∧ i = .int .i64 k ∧ (s.data.toList.take k).all (fun b => isAlnumB b.toNat) = true) (fun i => s.size - (intOf i).toNat)
  case atStart => exact ⟨0, Nat.zero_le _, rfl, rfl⟩
  case round =>
    obtain ⟨k, hk, rfl, hf⟩ := hrel
    have H := Lib.hid hf; clear hf
    by_cases hlt : k < s.size
    · by_cases hc : isAlnumB s[k].toNat = true
      · have HR : Hid ((s.data.toList.take (k + 1)).all (fun b => isAlnumB b.toNat) = true) := Lib.hid <| by
          rw [take_snoc s k hlt, List.all_append, H.out]
          simp [hc]
        go_wp2_with (go_at_call 23; refine (isAlnum_any _ _).mono ?_; rintro e w' ⟨rfl, rfl⟩)
        go_round
        case rel => exact ⟨k + 1, by omega, by go_num, HR.out⟩
        case measure => simp [intOf]; omega
      · have hc' : isAlnumB s[k].toNat = false := by simpa using hc
        have HR := Lib.hid (wordL_take s.data.toList k (by rw [HL.out]; omega) H.out (fun _ => by rw [at0_get s k hlt]; exact hc'))
        clear hc
        go_wp2_with (go_at_call 23; refine (isAlnum_any _ _).mono ?_; rintro e w' ⟨rfl, rfl⟩)
        go_ret
        exact ⟨⟨_, rfl, by rw [HR.out]; exact extract_zero s k⟩, rfl⟩
    · have HR := Lib.hid (wordL_take s.data.toList k (by rw [HL.out]; omega) H.out (fun h => absurd h (by rw [HL.out]; omega)))
      obtain rfl : k = s.size := by omega
      go_wp2_with (go_at_call 23; refine (isAlnum_any _ _).mono ?_; rintro e w' ⟨rfl, rfl⟩)
      go_ret
      exact ⟨⟨_, rfl, by rw [HR.out]; exact (List.take_of_length_le (Nat.le_of_eq HL.out)).symm⟩, rfl⟩

set_option maxRecDepth 100000 in
theorem strange_any (w : World) :
    Calls Try.prog 20 #[] w fun e w' => e = .returned (.slice (some ⟨w.heap.size, 0, none⟩) 18 18) ∧ w' = w.alloc (.cells (strangeL.map (fun l => Value.string ⟨l.toArray⟩)).toArray 9) := by
  go_enter Try.func20, Try.ntmps20
  go_wp2_with fail
  go_ret
  exact ⟨rfl, rfl⟩

end Go.Proofs.Ythhmccdjhcfggaa
