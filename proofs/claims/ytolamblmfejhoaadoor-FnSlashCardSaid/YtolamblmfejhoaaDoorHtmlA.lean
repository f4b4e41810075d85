/- The package's htmlReplacer, bad characters let by. -/
import Derived.Test.YtolamblmfejhoaaDoorMem
import Derived.Test.YtolamblmfejhoaaDoorCom
namespace Go.Proofs.YtolamblmfejhoaaDoor
open Go.Shelf Go.RowKit
set_option linter.unusedVariables false
set_option linter.unusedSimpArgs false

def Acct (T : Nat → Bytes) (n : Nat) (bad : Bool) (l acc : Bytes) (j k : Nat) : Prop :=
  acc ++ (l.drop j).take (k - j) ++ replL T n bad (l.drop k) = replL T n bad l ∧ acc.length ≤ 8 * k

theorem acct_next {T : Nat → Bytes} {n : Nat} {bad : Bool} {l acc : Bytes} {j k d z : Nat} (hl : l.length = z) (hd : d = (decL (l.drop k)).2) (hk : k < z) (hj : j ≤ k)
    (h : Acct T n bad l acc j k) (hs : replOne T n bad (l.drop k) = (l.drop k).take d) : Acct T n bad l acc j (k + d) := by
  subst hd
  exact ⟨acct_keep T n bad l acc j k (by omega) hj h.1 hs, by have := h.2; omega⟩
theorem acct_done {T : Nat → Bytes} {n : Nat} {bad : Bool} {l acc x : Bytes} {j k d z : Nat} (hl : l.length = z) (hd : d = (decL (l.drop k)).2) (hk : k < z) (hj : j ≤ k)
    (h : Acct T n bad l acc j k) (ha : acc.length ≤ 8 * j) (hs : replOne T n bad (l.drop k) = x) (hx : x.length ≤ 8) :
    Acct T n bad l (acc ++ (l.drop j).take (k - j) ++ x) (k + d) (k + d) ∧ (acc ++ (l.drop j).take (k - j) ++ x).length ≤ 8 * (k + d) := by
  have h1 := decL_pos (l.drop k)
  have h2 : (acc ++ (l.drop j).take (k - j) ++ x).length ≤ 8 * (k + d) := by
    have h3 : ((l.drop j).take (k - j)).length ≤ k - j := List.length_take_le _ _
    simp only [List.length_append]; omega
  refine ⟨⟨?_, h2⟩, h2⟩
  subst hd
  exact acct_put T n bad l acc x j k (by omega) hj h.1 hs

theorem extract_mid (s : ByteArray) (a b : Nat) : (s.extract a b).data.toList = (s.data.toList.drop a).take (b - a) := Lib.extract_data s a b

theorem keep_put (l acc x y : Bytes) (j k : Nat) (h : y.length ≤ k - j) (ha : acc.length ≤ 8 * j) (hx : x.length ≤ 8) (hj : j ≤ k) (d : Nat) (hd : 1 ≤ d) : (acc ++ y ++ x).length ≤ 8 * (k + d) := by
  simp only [List.length_append]; omega

set_option maxRecDepth 100000 in
set_option maxHeartbeats 4000000 in
theorem replacer_ok (T : Nat → Bytes) (n tb cp : Nat) (s : ByteArray) (w : World) (hs : (s.size : Int) ≤ 4294967296) (hn : n ≤ 128) (hT8 : ∀ r, (T r).length ≤ 8) (hTab : TabAt tb n T w) (hTabs : Tabs w) (htb : tb < w.heap.size) :
    Calls Tryd.prog 47 #[.string s, .slice (some ⟨tb, 0, none⟩) n cp, .bool true] w fun e w' => RetStr (replL T n true s.data.toList) e ∧ Below w.heap.size w w' := by
  have HL : Hid (s.data.toList.length = s.size) := Lib.hid (by simp)
  have hs0 : s.size ≤ 2 ^ 63 - 1 := by omega
  have HSZ := Lib.hid hs; clear hs
  go_enter Tryd.func47, Tryd.ntmps47
  go_wp2_with fail
  go_loopw [7, 11] (fun jn kn wr => ∃ (j k : Nat) (acc : Bytes), j ≤ k ∧ k ≤ s.size ∧ jn = .int .i64 j ∧ kn = .int .i64 k ∧ Below w.heap.size w wr ∧ Acct T n true s.data.toList acc j k ∧ acc.length ≤ 8 * j ∧ (j = 0 → Fresh w.heap.size wr ∧ acc = []) ∧ Bld w.heap.size acc wr) (fun _ kn _ => s.size - (intOf kn).toNat)
  case atStart =>
    have hf : Fresh w.heap.size (w.alloc (.cells #[.pointer none, .slice none 0 0] 43)) := heap_alloc_new w _
    exact ⟨0, 0, [], Nat.le_refl _, Nat.zero_le _, rfl, rfl, (Below.refl _ _).alloc (Nat.le_refl _) _, ⟨by simp, by simp⟩, by simp, fun _ => ⟨hf, rfl⟩, hf.bld⟩
  case round =>
    obtain ⟨j, k, acc, hj, hk, rfl, rfl, hb, ha, hal, hfr, hB⟩ := hrel
    have HA := Lib.hid ha; clear ha
    have HF := Lib.hid hfr; clear hfr
    have HT := Lib.hid (hTabs.keep hb (Nat.le_refl _))
    by_cases hlt : k < s.size
    · have hne : s.data.toList.drop k ≠ [] := by
        intro h; have := congrArg List.length h; rw [List.length_drop, HL.out] at this; simp at this; omega
      obtain ⟨r, hr⟩ : ∃ r, r = (decL (s.data.toList.drop k)).1 := ⟨_, rfl⟩
      obtain ⟨d, hd⟩ : ∃ d, d = (decL (s.data.toList.drop k)).2 := ⟨_, rfl⟩
      have hd1 : 1 ≤ d := by rw [hd]; exact decL_pos _
      have hd2 : (k : Int) + d ≤ s.size := by have := decL_le _ hne; rw [← hd, List.length_drop, HL.out] at this; omega
      have hr2 : (r : Int) ≤ 1114111 := by have := decL_lt (s.data.toList.drop k); rw [← hr] at this; omega
      have hdec := fun wx hx => decode_calls s k hlt wx hx
      rw [← hr, ← hd] at hdec
      have HDC := Lib.hid hdec; clear hdec
      have HRr := Lib.hid hr; clear hr
      have HDd := Lib.hid hd; clear hd
      have hbase := Lib.hid hb.size
      by_cases hrn : r < n
      · obtain ⟨tr, hc0, htr⟩ := hTab r hrn
        have HCELL : Hid (∀ w1, Below wr.heap.size wr w1 → w1.cell? ⟨tb, r, none⟩ = some (.string tr)) := Lib.hid <| fun w1 h1 =>
          ((hb.trans (h1.mono hb.size)).cell (p := ⟨tb, r, none⟩) htb).trans hc0
        clear hc0
        have HTR := Lib.hid htr; clear htr
        by_cases hz : tr.size = 0
        · have hz' : ((tr.size : Int) != 0) = false := by simp [hz]
          have HO : Hid (replOne T n true (s.data.toList.drop k) = (s.data.toList.drop k).take d) := Lib.hid <| by
            unfold replOne
            have hnil : T r = [] := by rw [← HTR.out]; exact List.eq_nil_of_length_eq_zero (by simpa using hz)
            rw [← HRr.out, ← HDd.out, if_pos hrn, if_pos hnil]
          clear hz
          go_wp2_with (go_at_call 61; refine (HDC.out _ HT.out).mono ?_; rintro e w1 ⟨rfl, hb1⟩; have hc1 := HCELL.out w1 hb1)
          go_roundw
          case rel =>
            exact ⟨j, k + d, acc, by omega, by omega, rfl, by go_num, hb.trans (hb1.mono hbase.out), acct_next HL.out HDd.out (by omega) hj HA.out HO.out, by omega, fun h0 => ⟨(HF.out h0).1.keep hb1, (HF.out h0).2⟩, hB.keep hb1⟩
          case measure => simp [intOf]; omega
        · have hz' : ((tr.size : Int) != 0) = true := by simp [hz]
          have HO : Hid (replOne T n true (s.data.toList.drop k) = T r) := Lib.hid <| by
            unfold replOne
            have hnil : T r ≠ [] := by
              intro h; rw [← HTR.out] at h; exact hz (by have := congrArg List.length h; simpa using this)
            rw [← HRr.out, if_pos hrn, if_neg hnil]
          have HX : Hid ((s.extract j k).data.toList = (s.data.toList.drop j).take (k - j)) := Lib.hid (extract_mid s j k)
          have HXL : Hid ((s.extract j k).size = k - j) := Lib.hid <| by simp; omega
          have HTL : Hid (tr.size ≤ 8) := Lib.hid <| by
            have h1 := hT8 r
            rw [← HTR.out] at h1; simpa using h1
          have hkd : ((k : Int) + d != 0) = true := by simp; omega
          clear hz
          have HGZ : Hid (s.size ≤ 281474976710656) := Lib.hid (by have := HSZ.out; omega)
          have HL1 : Hid (acc.length + (s.extract j k).size ≤ 140737488355328) := Lib.hid (by rw [HXL.out]; have := HSZ.out; omega)
          have HL2 : Hid ((acc ++ (s.extract j k).data.toList).length + tr.size ≤ 140737488355328) := Lib.hid <| by
            have h1 := HTL.out
            have h2 := HSZ.out
            have h3 : (s.extract j k).data.toList.length = k - j := by rw [← HXL.out]; exact Array.length_toList
            simp only [List.length_append, h3]; omega
          have HD := Lib.hid (acct_done HL.out HDd.out (by omega) hj HA.out hal HO.out (hT8 r))
          rw [← HX.out, ← HTR.out] at HD
          by_cases hj0 : j = 0
          · obtain ⟨hfr, hacc⟩ := HF.out hj0
            have HACC := Lib.hid hacc; clear hacc
            have hj1 : ((j : Int) == 0) = true := by simp [hj0]
            have HJ0 := Lib.hid hj0; clear hj0
            go_wp2_with (go_at_call 61; refine (HDC.out _ HT.out).mono ?_; rintro e w1 ⟨rfl, hb1⟩; have hc1 := HCELL.out w1 hb1)
            refine (grow_calls _ _ _ (hfr.keep hb1) HGZ.out).mono ?_
            rintro e w2 ⟨rfl, hB2, hb2⟩
            rw [← HACC.out] at hB2
            have hbx := hb.trans ((hb1.mono hbase.out).trans hb2)
            go_wp2_with fail
            refine (write_calls _ _ _ _ hB2 HL1.out).mono ?_
            rintro e w3 ⟨rfl, hB3, hb3⟩
            have hbx3 := hbx.trans hb3
            go_wp2_with fail
            refine (write_calls _ _ _ _ hB3 HL2.out).mono ?_
            rintro e w4 ⟨rfl, hB4, hb4⟩
            have hbx4 := hbx3.trans hb4
            go_wp2_with fail
            go_roundw
            case rel =>
              exact ⟨k + d, k + d, _, Nat.le_refl _, by omega, by go_num, by go_num, hbx4, HD.out.1, HD.out.2, fun h0 => absurd h0 (by omega), hB4⟩
            case measure => simp [intOf]; omega
          · have hj1 : ((j : Int) == 0) = false := by simp; omega
            clear hj0
            go_wp2_with (go_at_call 61; refine (HDC.out _ HT.out).mono ?_; rintro e w1 ⟨rfl, hb1⟩; have hc1 := HCELL.out w1 hb1)
            refine (write_calls _ _ _ _ (hB.keep hb1) HL1.out).mono ?_
            rintro e w3 ⟨rfl, hB3, hb3⟩
            have hbx3 := hb.trans ((hb1.mono hbase.out).trans hb3)
            go_wp2_with fail
            refine (write_calls _ _ _ _ hB3 HL2.out).mono ?_
            rintro e w4 ⟨rfl, hB4, hb4⟩
            have hbx4 := hbx3.trans hb4
            go_wp2_with fail
            go_roundw
            case rel =>
              exact ⟨k + d, k + d, _, Nat.le_refl _, by omega, by go_num, by go_num, hbx4, HD.out.1, HD.out.2, fun h0 => absurd h0 (by omega), hB4⟩
            case measure => simp [intOf]; omega
      · have hrn' : (r < n) = False := eq_false hrn
        have HO : Hid (replOne T n true (s.data.toList.drop k) = (s.data.toList.drop k).take d) := Lib.hid <| by
          unfold replOne
          rw [← HRr.out, ← HDd.out, if_neg hrn, if_pos rfl]
        clear hrn
        go_wp2_with (go_at_call 61; refine (HDC.out _ HT.out).mono ?_; rintro e w1 ⟨rfl, hb1⟩)
        go_roundw
        case rel =>
          exact ⟨j, k + d, acc, by omega, by omega, rfl, by go_num, hb.trans (hb1.mono hbase.out), acct_next HL.out HDd.out (by omega) hj HA.out HO.out, by omega, fun h0 => ⟨(HF.out h0).1.keep hb1, (HF.out h0).2⟩, hB.keep hb1⟩
        case measure => simp [intOf]; omega
    · have hks : k = s.size := by omega
      have HKS := Lib.hid hks; clear hks
      have HE : Hid (acc ++ (s.data.toList.drop j).take (k - j) = replL T n true s.data.toList) := Lib.hid <| by
        have h1 := HA.out.1
        have h2 : s.data.toList.drop k = [] := List.drop_of_length_le (by rw [HL.out, HKS.out]; exact Nat.le_refl _)
        rw [h2, replL_nil, List.append_nil] at h1
        exact h1
      have HY : Hid ((s.data.toList.drop j).take (k - j) = s.data.toList.drop j) := Lib.hid (List.take_of_length_le (by rw [List.length_drop, HL.out, HKS.out]; exact Nat.le_refl _))
      have hge : (s.size : Int) ≤ k := by omega
      by_cases hj0 : j = 0
      · obtain ⟨hfr, hacc⟩ := HF.out hj0
        have hj1 : ((j : Int) == 0) = true := by simp [hj0]
        have HR : Hid (s.data.toList = replL T n true s.data.toList) := Lib.hid <| by
          rw [← HE.out, HY.out, hacc, hj0]; rfl
        clear hj0 hacc
        go_wp2_with fail
        go_ret
        exact ⟨⟨_, rfl, HR.out⟩, hb⟩
      · have hj1 : ((j : Int) == 0) = false := by simp; omega
        have HL1 : Hid (acc.length + (s.extract j s.size).size ≤ 140737488355328) := Lib.hid (by
          have h1 : (s.extract j s.size).size ≤ s.size := by simp
          have := HSZ.out; omega)
        clear hj0
        go_wp2_with fail
        refine (write_calls _ _ _ _ hB HL1.out).mono ?_
        rintro e w3 ⟨rfl, hB3, hb3⟩
        have hbx3 := hb.trans hb3
        go_wp2_with fail
        refine (string_calls _ _ _ hB3).mono ?_
        rintro e w4 ⟨rfl, hb4⟩
        have hbx4 := hbx3.trans hb4
        go_wp2_with fail
        go_ret
        refine ⟨⟨_, rfl, ?_⟩, hbx4⟩
        have h5 : (s.data.toList.drop j).take (s.size - j) = s.data.toList.drop j := List.take_of_length_le (by rw [List.length_drop, HL.out]; exact Nat.le_refl _)
        show acc ++ _ = _
        first | rw [h5, ← HE.out, HY.out] | rw [extract_end, ← HE.out, HY.out]
end Go.Proofs.YtolamblmfejhoaaDoor
