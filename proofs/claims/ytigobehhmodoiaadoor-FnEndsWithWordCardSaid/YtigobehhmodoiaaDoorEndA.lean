/- The reference's LastIdentifier; the package's endsWithCSSKeyword. -/
import Derived.Test.YtigobehhmodoiaaDoorLawE3
import Derived.Test.YtigobehhmodoiaaDoorLowB
import Derived.Test.YtigobehhmodoiaaDoorDecD
namespace Go.Proofs.YtigobehhmodoiaaDoor
open Go.RowKit
set_option linter.unusedVariables false
set_option linter.unusedSimpArgs false

set_option maxRecDepth 100000 in
set_option maxHeartbeats 2000000 in
theorem lastId_any (s : ByteArray) (w : World) (hs : (s.size : Int) ≤ 17179869184) :
    Calls Tryd.prog 29 #[.string s] w fun e w' => (∃ v k, e = .returned (.string v) ∧ v.data.toList = s.data.toList.drop k ∧ IsLast s.data.toList k) ∧ w = w' := by
  have HL : Hid (s.data.toList.length = s.size) := Lib.hid (by simp)
  go_enter Tryd.func29, Tryd.ntmps29
  go_wp2_with fail
  go_loop [3] (fun s3 => ∃ k : Nat, s3 = .int .i64 k ∧ k ≤ s.size ∧ Hid (∀ i, k ≤ i → i < s.size → identB (at0 s.data.toList i) = true)) (fun s3 => (intOf s3).toNat)
  case atStart => exact ⟨s.size, rfl, Nat.le_refl _, Lib.hid (fun i h1 h2 => by omega)⟩
  case round =>
    obtain ⟨k, rfl, hk, H⟩ := hrel
    have hend : ∀ k, k ≤ s.size → (s.extract k s.size).data.toList = s.data.toList.drop k := fun k hk => by
      rw [Lib.extract_data]
      exact List.take_of_length_le (by simp)
    by_cases h0 : k = 0
    · subst h0
      have HF := Lib.hid (show IsLast s.data.toList 0 from ⟨Nat.zero_le _, fun i h1 h2 => H.out i h1 (by rw [← HL.out]; exact h2), .inl rfl⟩)
      clear H
      go_wp2_with fail
      go_ret
      first
        | exact ⟨⟨s, 0, rfl, by simp, HF.out⟩, rfl⟩
        | exact ⟨⟨s, rfl, 0, by simp, HF.out⟩, rfl⟩
        | exact ⟨⟨_, 0, rfl, by simpa using hend 0 (Nat.zero_le _), HF.out⟩, rfl⟩
    · have j1 : IntKind.i64.wrap ((k : Int) - 1) = (k : Int) - 1 := IntWalk.i64_in _ (by omega)
      have j2 : (0 : Int) ≤ (k : Int) - 1 := by omega
      have j3 : ((k : Int) - 1).toNat = k - 1 := by omega
      have j4 : (k : Int) - 1 < s.size := by omega
      have j5 : k - 1 < s.size := by omega
      have j6 : (0 : Int) < k := by omega
      obtain ⟨x, hx⟩ : ∃ x, x = at0 s.data.toList (k - 1) := ⟨_, rfl⟩
      have hgx : (s[k - 1]'j5).toNat = x := by rw [hx, at0_get s (k - 1) j5]
      have HN : Hid (identB x = true → ∀ i, k - 1 ≤ i → i < s.size → identB (at0 s.data.toList i) = true) := Lib.hid <| by
        intro h i h1 h2
        rcases Nat.lt_or_ge i k with h3 | h3
        · have : i = k - 1 := by omega
          rw [this, ← hx]; exact h
        · exact H.out i h3 h2
      have HF : Hid (identB x = false → IsLast s.data.toList k) := Lib.hid fun h => ⟨by rw [HL.out]; exact hk, fun i h1 h2 => H.out i h1 (by rw [← HL.out]; exact h2), .inr (by rw [← hx]; exact h)⟩
      have HA := Lib.hid (fun w => isAlnum_any x w)
      have HE := Lib.hid (hend k hk)
      clear hend H hx
      obtain ⟨a, ha⟩ : ∃ a, isAlnumB x = a := ⟨_, rfl⟩
      rw [ha] at HA
      cases a
      · by_cases c1 : (x : Int) = 45
        · have HI : Hid (identB x = true) := Lib.hid (by unfold identB; simp; omega)
          have q1 : ((x : Int) == 45) = true := by rw [beq_iff_eq]; exact c1
          clear c1 ha
          go_wp2_with (go_at_call 50; refine (by first | exact HA.out _ | (rw [hgx]; exact HA.out _) : Calls _ _ _ _ _).mono ?_; rintro e w' ⟨rfl, rfl⟩)
          go_round
          case rel => exact ⟨k - 1, by go_num, by omega, Lib.hid (HN.out HI.out)⟩
          case measure => simp [intOf]; omega
        · have q1 : ((x : Int) == 45) = false := by rw [beq_eq_false_iff_ne]; exact c1
          by_cases c2 : (x : Int) = 95
          · have HI : Hid (identB x = true) := Lib.hid (by unfold identB; simp; omega)
            have q2 : ((x : Int) == 95) = true := by rw [beq_iff_eq]; exact c2
            clear c1 c2 ha
            go_wp2_with (go_at_call 50; refine (by first | exact HA.out _ | (rw [hgx]; exact HA.out _) : Calls _ _ _ _ _).mono ?_; rintro e w' ⟨rfl, rfl⟩)
            go_round
            case rel => exact ⟨k - 1, by go_num, by omega, Lib.hid (HN.out HI.out)⟩
            case measure => simp [intOf]; omega
          · have q2 : ((x : Int) == 95) = false := by rw [beq_eq_false_iff_ne]; exact c2
            by_cases c3 : (128 : Int) ≤ x
            · have HI : Hid (identB x = true) := Lib.hid (by unfold identB; simp; omega)
              clear c1 c2 ha
              go_wp2_with (go_at_call 50; refine (by first | exact HA.out _ | (rw [hgx]; exact HA.out _) : Calls _ _ _ _ _).mono ?_; rintro e w' ⟨rfl, rfl⟩)
              go_round
              case rel => exact ⟨k - 1, by go_num, by omega, Lib.hid (HN.out HI.out)⟩
              case measure => simp [intOf]; omega
            · have HI : Hid (identB x = false) := Lib.hid (by unfold identB; rw [ha]; simp; omega)
              clear c1 c2 ha
              go_wp2_with (go_at_call 50; refine (by first | exact HA.out _ | (rw [hgx]; exact HA.out _) : Calls _ _ _ _ _).mono ?_; rintro e w' ⟨rfl, rfl⟩)
              go_ret
              exact ⟨⟨_, k, rfl, HE.out, HF.out HI.out⟩, rfl⟩
      · have HI : Hid (identB x = true) := Lib.hid (by unfold identB; rw [ha]; rfl)
        clear ha
        go_wp2_with (go_at_call 50; refine (by first | exact HA.out _ | (rw [hgx]; exact HA.out _) : Calls _ _ _ _ _).mono ?_; rintro e w' ⟨rfl, rfl⟩)
        go_round
        case rel => exact ⟨k - 1, by go_num, by omega, Lib.hid (HN.out HI.out)⟩
        case measure => simp [intOf]; omega

theorem get_bang (u : ByteArray) (j : Nat) (hj : j < u.size) : u.get! j = u[j] := by simp [ByteArray.get!, hj]; rfl
/-- bytes.ToLower of a part of what lies, and the text that it is. -/
theorem tail_any (b i cc : Nat) (T : ByteArray) (w : World) (hb : Lib.Bytes w b i T) (h0 : 0 < T.size) (hc : T.size ≤ cc) (hs : (T.size : Int) ≤ 17179869184) (hT : Tabs w) (hV : CaseTab4 w) :
    Calls Tryd.prog 95 #[.slice (some ⟨b, i, none⟩) T.size cc] w fun e w' => (∃ v', e = .returned v' ∧ (convert 34 9 v').run Tryd.prog w' = .ok (.string ⟨(Lib.toLowerD T.data.toList).toArray⟩) w') ∧ Below w.heap.size w w' := by
  by_cases ha : ∀ x ∈ T.data.toList, x.toNat < 128
  · refine (Tryd.bytes_ToLower_ascii b i cc T w hb h0 (by omega) (fun j x hx => ha x (List.mem_of_getElem? hx))).mono ?_
    rintro e w' ⟨v', rfl, ⟨g, cap, zs, rfl, k1, k2, k3, k4, k5, k6, k7, k8⟩, hbel⟩
    refine ⟨⟨_, rfl, ?_⟩, hbel⟩
    rw [Lib.toLowerD_ascii _ ha]
    refine run_convert_bytes_back _ _ _ 5 _ _ (Lib.toLowerA T.data.toList) Tryd.underlying34 Tryd.underlying5 Tryd.underlying9 (fun j hj => ?_)
    have e : Addr.add ⟨g, 0, none⟩ j = ⟨g, j, none⟩ := by
      by_cases h0 : j = 0
      · subst h0; rfl
      · simp [Addr.add, h0]
    have hz : j < zs.length := by omega
    have hg1 : zs.getD j 0 = zs[j] := by rw [List.getD_eq_getElem?_getD, List.getElem?_eq_getElem hz]; rfl
    have hr := k5 zs[j] (List.getElem_mem hz)
    have e3 : (Lib.toLowerA T.data.toList)[j]? = some (UInt8.ofNat zs[j].toNat) := by
      rw [← k6]
      unfold Lib.bytesOf
      rw [List.getElem?_map, List.getElem?_take_of_lt (by omega), List.getElem?_eq_getElem hz]
      rfl
    rw [List.getElem?_eq_getElem hj] at e3
    rw [e, k7 j (by omega), hg1, Option.some.inj e3]
    congr 2
    simp
    omega
  · have hex : ∃ x ∈ T.data.toList, 128 ≤ x.toNat := by
      apply Classical.byContradiction
      intro hn
      apply ha
      intro x hx
      rcases Nat.lt_or_ge x.toNat 128 with h | h
      · exact h
      · exact absurd ⟨x, hx, h⟩ hn
    obtain ⟨x, hx, hx2⟩ := hex
    obtain ⟨m, hm, rfl⟩ := List.getElem_of_mem hx
    refine (toLower_wide b i cc T w hb hc (by omega) hT hV m (by simpa using hm) hx2).mono ?_
    rintro e w' ⟨v', rfl, h1, h2⟩
    exact ⟨⟨v', rfl, h1.conv⟩, h2⟩

set_option maxRecDepth 100000 in
set_option maxHeartbeats 2000000 in
theorem ends_any (b c : Nat) (s kw : ByteArray) (w : World) (hb : Lib.Bytes w b 0 s) (hbl : b < w.heap.size) (hc : s.size ≤ c) (hcm : (c : Int) ≤ 9223372036854775807) (hs : (s.size : Int) ≤ 17179869184) (hk : (kw.size : Int) ≤ 17179869184) (hk0 : 0 < kw.size) (hT : Tabs w) (hV : CaseTab4 w) :
    Calls Tryd.prog 73 #[.slice (some ⟨b, 0, none⟩) s.size c, .string kw] w fun e w' => e = .returned (.bool (endsL s.data.toList kw.data.toList)) ∧ Below w.heap.size w w' := by
  have hL : s.data.toList.length = s.size := by simp
  have hK : kw.data.toList.length = kw.size := by simp
  have j0 : IntKind.i64.wrap ((s.size : Int) - kw.size) = (s.size : Int) - kw.size := IntWalk.i64_in _ (by omega)
  by_cases hlt : (s.size : Int) < kw.size
  · have HR : Hid (endsL s.data.toList kw.data.toList = false) := Lib.hid (by unfold endsL; rw [hL, hK, decide_eq_false (by omega)]; rfl)
    have j1 : (s.size : Int) - kw.size < 0 := by omega
    clear hT hV hb
    go_enter Tryd.func73, Tryd.ntmps73
    go_wp2_with fail
    go_ret
    exact ⟨ret_bool HR.out.symm, Below.refl _ _⟩
  · obtain ⟨i, hi⟩ : ∃ i : Nat, (s.size : Int) - kw.size = i := ⟨s.size - kw.size, by omega⟩
    rw [hi] at j0
    have hin : s.size - kw.size = i := by omega
    have hTz : (s.extract i s.size).size = kw.size := by simp; omega
    have hTl : (s.extract i s.size).data.toList = s.data.toList.drop i := by
      rw [Lib.extract_data]
      exact List.take_of_length_le (by simp)
    have hUz : (s.extract 0 i).size = i := by simp; omega
    have hUl : (s.extract 0 i).data.toList = s.data.toList.take i := extract_mid0 s i
    have hbT : ∀ w', Below w.heap.size w w' → Lib.Bytes w' b i (s.extract i s.size) := by
      intro w' hw' j hj
      have h1 := hb (i + j) (by omega)
      rw [Nat.zero_add] at h1
      rw [(hw'.cell (p := ⟨b, i + j, none⟩) hbl), h1]
      have e1 : (s.extract i s.size)[j].toNat = s[i + j].toNat := by
        rw [← at0_get _ j hj, ← at0_get s (i + j) (by omega), hTl]
        unfold at0; simp [List.getD_eq_getElem?_getD]
      rw [e1]
    have HTL : Hid (∀ w', Below w.heap.size w w' → Calls Tryd.prog 95 #[.slice (some ⟨b, i, none⟩) kw.size (c - i)] w' fun e w'' => (∃ v', e = .returned v' ∧ (convert 34 9 v').run Tryd.prog w'' = .ok (.string ⟨(Lib.toLowerD (s.data.toList.drop i)).toArray⟩) w'') ∧ Below w'.heap.size w' w'') := Lib.hid fun w' hw' => by
      have := tail_any b i (c - i) (s.extract i s.size) w' (hbT w' hw') (by omega) (by omega) (by omega) (hT.keep hw' (Nat.le_refl _)) (Lib.CaseVar_below hV hw')
      rw [hTz, hTl] at this
      exact this
    have HDL : Hid (Calls Tryd.prog 97 #[.slice (some ⟨b, 0, none⟩) i c] w fun e w' => e = .returned (.tuple #[.int .i32 (Lib.decodeLastL (s.data.toList.take i)).1, .int .i64 (Lib.decodeLastL (s.data.toList.take i)).2]) ∧ Below w.heap.size w w') := Lib.hid <| by
      have := Any7.utf8_DecodeLastRune Tryd.sev33 (s.extract 0 i) b 0 c w (by omega) (fun j hj => by
        have h1 := hb j (by omega)
        rw [h1]
        have e1 : (s.extract 0 i)[j].toNat = (s[j]'(by omega)).toNat := by
          rw [← at0_get _ j hj, ← at0_get s j (by omega), hUl, at0_take _ _ _ (by omega)]
        rw [show (s.extract 0 i).get! j = (s.extract 0 i)[j] from get_bang _ j hj, e1]) (by omega) hT
      rw [hUz, hUl] at this
      exact this
    obtain ⟨r, hr⟩ : ∃ r, (Lib.decodeLastL (s.data.toList.take i)).1 = r := ⟨_, rfl⟩
    obtain ⟨z, hz⟩ : ∃ z, (Lib.decodeLastL (s.data.toList.take i)).2 = z := ⟨_, rfl⟩
    have hrl : r ≤ 1114111 := by rw [← hr]; exact Lib.decodeLastL_rune _
    rw [hr, hz] at HDL
    have HNM := Lib.hid (fun w => nmchar_any r hrl w)
    obtain ⟨V, hV2⟩ : ∃ V : ByteArray, (⟨(Lib.toLowerD (s.data.toList.drop i)).toArray⟩ : ByteArray) = V := ⟨_, rfl⟩
    rw [hV2] at HTL
    have hVl : V.data.toList = Lib.toLowerD (s.data.toList.drop i) := by rw [← hV2]
    have hE : endsL s.data.toList kw.data.toList = ((decide (i = 0) || !nmR r) && (V.toList == kw.toList)) := by
      unfold endsL
      rw [hL, hK, hin, hr, decide_eq_true (show kw.size ≤ s.size by omega), Bool.true_and, Lib.toList_data, Lib.toList_data, hVl]
    obtain ⟨nb, hnb⟩ : ∃ nb, nmR r = nb := ⟨_, rfl⟩
    obtain ⟨vb, hvb⟩ : ∃ vb, (V.toList == kw.toList) = vb := ⟨_, rfl⟩
    rw [hnb, hvb] at hE
    rw [hnb] at HNM
    have HE := Lib.hid hE
    have k1 : (0 : Int) ≤ (i : Int) := by omega
    have k2 : (i : Int) ≤ c := by omega
    have k3 : (c = i) = False := eq_false (by omega)
    have k4 : (i : Int) ≤ s.size := by omega
    have k5 : s.size - i = kw.size := by omega
    have hvb2 : (V.toList = kw.toList) = (vb = true) := by rw [← hvb]; simp
    clear hT hV hb hbT hTz hTl hUz hUl hrl hV2 hVl hE hnb hr hz hin hL hK hlt
    by_cases h0 : i = 0
    · subst h0
      have h00 : ((0 : Nat) : Int) = 0 := rfl
      rw [h00] at hi j0
      go_enter Tryd.func73, Tryd.ntmps73
      go_wp2_with (go_at_call 95; refine (HTL.out _ (Below.refl _ _)).mono ?_; rintro e w2 ⟨⟨v', rfl, hcv⟩, hb2⟩)
      go_ret
      exact ⟨ret_bool (by rw [HE.out]; simp), hb2⟩
    · have n0 : ((i : Int) != 0) = true := by simp; omega
      have n1 : ((i : Int) == 0) = false := by simp; omega
      cases nb
      · go_enter Tryd.func73, Tryd.ntmps73
        go_wp2_with (first
          | (go_at_call 97; refine HDL.out.mono ?_; rintro e w1 ⟨rfl, hb1⟩)
          | (go_at_call 94; refine (HNM.out _).mono ?_; rintro e w3 ⟨rfl, rfl⟩)
          | (go_at_call 95; refine (HTL.out _ hb1).mono ?_; rintro e w2 ⟨⟨v', rfl, hcv⟩, hb2⟩))
        go_ret
        exact ⟨ret_bool (by rw [HE.out]; simp), hb1.trans (hb2.mono hb1.size)⟩
      · go_enter Tryd.func73, Tryd.ntmps73
        go_wp2_with (first
          | (go_at_call 97; refine HDL.out.mono ?_; rintro e w1 ⟨rfl, hb1⟩)
          | (go_at_call 94; refine (HNM.out _).mono ?_; rintro e w3 ⟨rfl, rfl⟩))
        go_ret
        exact ⟨ret_bool (by rw [HE.out]; simp [h0]), hb1⟩

set_option maxRecDepth 100000 in
theorem endsWord_any (s kw : ByteArray) (w : World) (hs : (s.size : Int) ≤ 17179869184) (hk : (kw.size : Int) ≤ 17179869184) (hk0 : 0 < kw.size) (hT : Tabs w) (hV : CaseTab4 w) :
    Calls Tryd.prog 28 #[.string s, .string kw] w fun e w' => e = .returned (.bool (endsL s.data.toList kw.data.toList)) ∧ Below w.heap.size w w' := by
  have HZ : Hid (Calls Tryd.prog 53 #[.string s, .string kw] w fun e w' => e = .returned (.bool (endsL s.data.toList kw.data.toList)) ∧ Below w.heap.size w w') := Lib.hid <| by
    have hcv1 := Lib.run_convert_string_bytes w 9 34 5 s Tryd.underlying9 Tryd.underlying34 Tryd.underlying5
    have hbw := bytes_below w s
    have hcl := grownCap_le_maxLen w s.size 0 5 (maxLen_of hs)
    have HC := Lib.hid (ends_any w.heap.size (grownCap w s.size 0 5) s kw (Lib.bytesWorld w 5 s) (ConvAt.new w s).bytes (by rw [Lib.bytesWorld_size]; omega) (grownCap_ge _ _ _ _) (by unfold maxLen at hcl; omega) hs hk hk0 (hT.keep hbw (Nat.le_refl _)) (Lib.CaseVar_below hV hbw))
    have HBW := Lib.hid hbw
    clear hs hk hk0 hT hV hbw hcl
    go_enter Tryd.func53, Tryd.ntmps53
    go_wp2_with (go_at_call 73; refine HC.out.mono ?_; rintro e w' ⟨rfl, hb⟩)
    go_ret
    exact ⟨rfl, HBW.out.trans (hb.mono HBW.out.size)⟩
  clear hs hk hk0 hT hV
  go_enter Tryd.func28, Tryd.ntmps28
  go_wp2_with (go_at_call 53; refine HZ.out.mono ?_; rintro e w' ⟨rfl, hb⟩)
  go_ret
  exact ⟨rfl, hb⟩
end Go.Proofs.YtigobehhmodoiaaDoor
