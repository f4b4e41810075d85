/- The reference's is. -/
import Derived.Test.YtolamblmfejhoaaDoorCom
import Derived.LoopTactic
namespace Go.Proofs.YtolamblmfejhoaaDoor
open Go.RowKit
set_option linter.unusedVariables false
set_option linter.unusedSimpArgs false

/-- Block b holds the texts L. -/
def StrsAt (L : List Bytes) (b : Nat) (w : World) : Prop := ∀ k, k < L.length → w.cell? ⟨b, k, none⟩ = some (.string ⟨(L.getD k []).toArray⟩)
theorem strs_new (w : World) (L : List Bytes) (T : TypeId) : StrsAt L w.heap.size (w.alloc (.cells (L.map (fun l => Value.string ⟨l.toArray⟩)).toArray T)) := by
  intro k hk
  rw [World.cell?_alloc_new]
  simp [List.getElem?_eq_getElem hk, List.getD]
theorem is_step (L : List Bytes) (s : Bytes) (k : Nat) (hk : k < L.length) (h : (L.take k).any (· == s) = false) (hne : (L.getD k [] == s) = false) : (L.take (k + 1)).any (· == s) = false := by
  rw [List.take_succ_eq_append_getElem hk, List.any_append, h]
  simp [List.getD, List.getElem?_eq_getElem hk] at hne
  simp [hne]

set_option maxRecDepth 100000 in
set_option maxHeartbeats 2000000 in
theorem is_any (s : ByteArray) (L : List Bytes) (b n c : Nat) (hn : L.length = n) (hlen : (n : Int) ≤ 1000000) (w : World) (hc : StrsAt L b w) :
    Calls Tryd.prog 24 #[.string s, .slice (some ⟨b, 0, none⟩) n c] w fun e w' => e = .returned (.bool (L.any (· == s.data.toList))) ∧ w = w' := by
  have HC := Lib.hid hc; clear hc
  have HN := Lib.hid hn; clear hn
  go_enter Tryd.func24, Tryd.ntmps24
  go_wp2_with fail
  go_loop [9] (fun i => ∃ k : Nat, k ≤ n ∧ i = .int .i64 k ∧ Hid ((L.take k).any (· == s.data.toList) = false)) (fun i => n - (intOf i).toNat)
  case atStart => exact ⟨0, Nat.zero_le _, rfl, Lib.hid rfl⟩
  case round =>
    obtain ⟨k, hk, rfl, H⟩ := hrel
    by_cases hlt : k < n
    · have hck := HC.out k (by rw [HN.out]; exact hlt)
      obtain ⟨v, hv⟩ : ∃ v : ByteArray, v = ⟨(L.getD k []).toArray⟩ := ⟨_, rfl⟩
      rw [← hv] at hck
      have HV := Lib.hid hv; clear hv
      have HP : Hid ((L.getD k [] == s.data.toList) = (v.toList == s.toList)) := Lib.hid (by rw [Lib.toList_data, Lib.toList_data, HV.out])
      by_cases p : v.toList = s.toList
      · have HR : Hid (L.any (· == s.data.toList) = true) := Lib.hid <| by
          rw [List.any_eq_true]
          refine ⟨L.getD k [], ?_, by rw [HP.out]; simpa using p⟩
          have : k < L.length := by rw [HN.out]; exact hlt
          simp [List.getD, List.getElem?_eq_getElem this]
        go_wp2_with fail
        go_ret
        exact ⟨ret_bool HR.out.symm, rfl⟩
      · have q2 : (v.toList == s.toList) = false := by rw [beq_eq_false_iff_ne]; exact p
        have q4 : (v.toList = s.toList) = False := eq_false p
        have HR := Lib.hid (is_step L s.data.toList k (by rw [HN.out]; exact hlt) H.out (by rw [HP.out]; exact q2))
        clear p
        go_wp2_with fail
        go_round
        case rel => exact ⟨k + 1, by omega, by go_num, HR⟩
        case measure => simp [intOf]; omega
    · have HR : Hid (L.any (· == s.data.toList) = false) := Lib.hid <| by
        have h1 := H.out
        rwa [List.take_of_length_le (by rw [HN.out]; omega)] at h1
      go_wp2_with fail
      go_ret
      exact ⟨ret_bool HR.out.symm, rfl⟩
end Go.Proofs.YtolamblmfejhoaaDoor
