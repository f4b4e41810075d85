/- The package's cssEscaper. -/
import Derived.Test.YtigobehhmodoiaaDoorHtmlA
import Derived.Test.YtigobehhmodoiaaDoorLawS
import Derived.Test.YtigobehhmodoiaaDoorUrlC
namespace Go.Proofs.YtigobehhmodoiaaDoor
open Go.Shelf Go.RowKit
set_option linter.unusedVariables false
set_option linter.unusedSimpArgs false

theorem byte_calls (b : Nat) (l : Bytes) (c : UInt8) (w : World) (h : Bld b l w) (hlen : l.length + 1 ≤ 140737488355328) :
    Calls Tryd.prog 85 #[.pointer (some ⟨b, 0, none⟩), .int .u8 c.toNat] w fun e w' => e = .returned .nilIface ∧ Bld b (l ++ [c]) w' ∧ Below b w w' := by
  refine (writeByte_k b b _ c.toNat w h (by rw [Lib.byteCells_length]; exact hlen) (Nat.le_of_lt (Bld.lt h))).mono ?_
  rintro e w' ⟨rfl, h1, h2, _⟩
  refine ⟨rfl, .inr ?_, h2⟩
  rw [Lib.byteCells_append]
  exact h1
theorem cssSpace_any (c : Nat) (w : World) :
    Calls Tryd.prog 84 #[.int .u8 c] w fun e w' => e = .returned (.bool (isBlankB c)) ∧ w = w' := by
  by_cases h : c = 32 ∨ c = 9 ∨ c = 10 ∨ c = 12 ∨ c = 13
  · rcases h with rfl | rfl | rfl | rfl | rfl
    all_goals
      go_enter Tryd.func84, Tryd.ntmps84
      go_wp2
      go_ret
      exact ⟨rfl, rfl⟩
  · have k1 : ((c : Int) == 9) = false := by rw [beq_eq_false_iff_ne]; omega
    have k2 : ((c : Int) == 10) = false := by rw [beq_eq_false_iff_ne]; omega
    have k3 : ((c : Int) == 12) = false := by rw [beq_eq_false_iff_ne]; omega
    have k4 : ((c : Int) == 13) = false := by rw [beq_eq_false_iff_ne]; omega
    have k5 : ((c : Int) == 32) = false := by rw [beq_eq_false_iff_ne]; omega
    have HR : Hid (isBlankB c = false) := Lib.hid (by unfold isBlankB; simp; omega)
    clear h
    go_enter Tryd.func84, Tryd.ntmps84
    go_wp2
    go_ret
    exact ⟨ret_bool HR.out.symm, rfl⟩
theorem hexB_eq (c : Nat) : isHexB c = hexB c := rfl
/-- The table of CSS lies as the package lays it. -/
def CssTab (w : World) : Prop := TabAt 0 126 cssTab w
theorem CssTab.keep {B : Nat} {w w' : World} (h : CssTab w) (k : Below B w w') (hB : w.heap.size ≤ B) : CssTab w' := by
  obtain ⟨v, hc, _⟩ := h 0 (by decide)
  exact TabAt.keep h k (Nat.lt_of_lt_of_le (cell_lt hc) hB)
theorem cssOne_eq (l : Bytes) : cssOne l = if cssTab (decL l).1 = [] then l.take (decL l).2 else cssTab (decL l).1 ++ (if cssBlank (cssTab (decL l).1) (l.drop (decL l).2) = true then [32] else []) := rfl
theorem cssTab_126 (r : Nat) (h : 126 ≤ r) : cssTab r = [] := by
  rcases Nat.lt_or_ge r 128 with h' | h'
  · have : ∀ r, r < 128 → 126 ≤ r → cssTab r = [] := by decide +kernel
    exact this r h' h
  · exact cssTab_high r h'

set_option maxRecDepth 100000 in
set_option maxHeartbeats 8000000 in
theorem cssEscaper_any (s : ByteArray) (w : World) (hs : (s.size : Int) ≤ 4294967296) (hTabs : Tabs w) (hTab : CssTab w) :
    Calls Tryd.prog 66 #[.string s] w fun e w' => RetStr (cssL s.data.toList) e ∧ Below w.heap.size w w' := by
  have HL : Hid (s.data.toList.length = s.size) := Lib.hid (by simp)
  have hs0 : s.size ≤ 2 ^ 63 - 1 := by omega
  have HSZ := Lib.hid hs; clear hs
  unfold cssL
  go_enter Tryd.func66, Tryd.ntmps66
  go_wp2_with fail
  go_loopw [6, 7] (fun jn kn wr => ∃ (j k : Nat) (acc : Bytes), j ≤ k ∧ k ≤ s.size ∧ jn = .int .i64 j ∧ kn = .int .i64 k ∧ Below w.heap.size w wr ∧ GAcct cssOne s.data.toList acc j k ∧ acc.length ≤ 8 * j ∧ (j = 0 → Fresh w.heap.size wr ∧ acc = []) ∧ Bld w.heap.size acc wr) (fun _ kn _ => s.size - (intOf kn).toNat)
  case atStart =>
    have hf : Fresh w.heap.size (w.alloc (.cells #[.pointer none, .slice none 0 0] 52)) := heap_alloc_new w _
    exact ⟨0, 0, [], Nat.le_refl _, Nat.zero_le _, rfl, rfl, (Below.refl _ _).alloc (Nat.le_refl _) _, ⟨by simp, by simp⟩, by simp, fun _ => ⟨hf, rfl⟩, hf.bld⟩
  case round =>
    obtain ⟨j, k, acc, hj, hk, rfl, rfl, hb, ha, hal, hfr, hB⟩ := hrel
    have HA := Lib.hid ha; clear ha
    have HF := Lib.hid hfr; clear hfr
    have HT := Lib.hid (hTabs.keep hb (Nat.le_refl _))
    by_cases hlt : k < s.size
    · have hne : s.data.toList.drop k ≠ [] := by
        intro h; have := congrArg List.length h; rw [List.length_drop, HL.out] at this; simp at this; omega
      obtain ⟨r, hr⟩ : ∃ r, r = (decL (s.data.toList.drop k)).1 := ⟨_, rfl⟩
      obtain ⟨d, hd⟩ : ∃ d, d = (decL (s.data.toList.drop k)).2 := ⟨_, rfl⟩
      have hd1 : 1 ≤ d := by rw [hd]; exact decL_pos _
      have hd2 : (k : Int) + d ≤ s.size := by have := decL_le _ hne; rw [← hd, List.length_drop, HL.out] at this; omega
      have hr2 : (r : Int) ≤ 1114111 := by have := decL_lt (s.data.toList.drop k); rw [← hr] at this; omega
      have hdec := fun wx hx => decode_calls s k hlt wx hx
      rw [← hr, ← hd] at hdec
      have HDC := Lib.hid hdec; clear hdec
      have HONE : Hid (cssOne (s.data.toList.drop k) = if cssTab r = [] then (s.data.toList.drop k).take d else cssTab r ++ (if cssBlank (cssTab r) (s.data.toList.drop (k + d)) = true then [32] else [])) := Lib.hid <| by
        rw [cssOne_eq, ← hr, ← hd, List.drop_drop]
      have HDd := Lib.hid hd; clear hd hr
      have hbase := Lib.hid hb.size
      have HCELL : Hid (r < 126 → ∃ tr : ByteArray, tr.data.toList = cssTab r ∧ ∀ w1, Below wr.heap.size wr w1 → w1.cell? ⟨0, r, none⟩ = some (.string tr)) := Lib.hid <| fun hr32 => by
        obtain ⟨tr, hc0, htr⟩ := hTab r hr32
        exact ⟨tr, htr, fun w1 h1 => ((hb.trans (h1.mono hb.size)).cell (p := ⟨_, r, none⟩) (cell_lt hc0)).trans hc0⟩
      by_cases hz : cssTab r = []
      · have HO : Hid (cssOne (s.data.toList.drop k) = (s.data.toList.drop k).take d) := Lib.hid <| by rw [HONE.out, if_pos hz]
        by_cases hrn : r < 126
        · obtain ⟨tr, htr, hcell⟩ := HCELL.out hrn
          have HC := Lib.hid hcell
          have e1 : tr.toList.isEmpty = true := by rw [Lib.toList_data, htr, hz]; rfl
          have e2 : (tr.toList = []) = True := by rw [Lib.toList_data, htr, hz]; simp
          have q126 : (r : Int) < 126 := by omega
          have q126d : decide ((r : Int) < 126) = true := by rw [decide_eq_true_eq]; omega
          clear htr hcell hz hrn
          go_wp2_with (go_at_call 80; refine (HDC.out _ HT.out).mono ?_; rintro e w1 ⟨rfl, hb1⟩; have hc1 := HC.out w1 hb1)
          go_roundw
          case rel =>
            exact ⟨j, k + d, acc, by omega, by omega, rfl, by go_num, hb.trans (hb1.mono hbase.out), gacct_keep HL.out HDd.out (by omega) hj HA.out HO.out, by omega, fun h0 => ⟨(HF.out h0).1.keep hb1, (HF.out h0).2⟩, hB.keep hb1⟩
          case measure => simp [intOf]; omega
        · have q126d : decide ((r : Int) < 126) = false := by rw [decide_eq_false_iff_not]; omega
          clear hz hrn
          go_wp2_with (go_at_call 80; refine (HDC.out _ HT.out).mono ?_; rintro e w1 ⟨rfl, hb1⟩)
          go_roundw
          case rel =>
            exact ⟨j, k + d, acc, by omega, by omega, rfl, by go_num, hb.trans (hb1.mono hbase.out), gacct_keep HL.out HDd.out (by omega) hj HA.out HO.out, by omega, fun h0 => ⟨(HF.out h0).1.keep hb1, (HF.out h0).2⟩, hB.keep hb1⟩
          case measure => simp [intOf]; omega
      · have hrn : r < 126 := by
          rcases Nat.lt_or_ge r 126 with h | h
          · exact h
          · exact absurd (cssTab_126 r h) hz
        obtain ⟨tr, htr, hcell⟩ := HCELL.out hrn
        have HC := Lib.hid hcell
        have e1 : tr.toList.isEmpty = false := by rw [Lib.toList_data, htr, List.isEmpty_eq_false_iff]; exact hz
        have e2 : (tr.toList = []) = False := by rw [Lib.toList_data, htr]; exact eq_false hz
        have q126 : (r : Int) < 126 := by omega
        have q126d : decide ((r : Int) < 126) = true := by rw [decide_eq_true_eq]; omega
        obtain ⟨bl, hbl⟩ : ∃ bl, cssBlank (cssTab r) (s.data.toList.drop (k + d)) = bl := ⟨_, rfl⟩
        have HO : Hid (cssOne (s.data.toList.drop k) = tr.data.toList ++ (if bl = true then [32] else [])) := Lib.hid <| by rw [HONE.out, if_neg hz, htr, hbl]
        have HTL : Hid (tr.size ≤ 3) := Lib.hid <| by
          have h1 := cssTab_le r
          rw [← htr] at h1; simpa using h1
        have HX : Hid ((s.extract j k).data.toList = (s.data.toList.drop j).take (k - j)) := Lib.hid (extract_mid s j k)
        have HXL : Hid ((s.extract j k).size = k - j) := Lib.hid <| by simp; omega
        have HGZ : Hid (s.size ≤ 281474976710656) := Lib.hid (by have := HSZ.out; omega)
        have HL1 : Hid (acc.length + (s.extract j k).size ≤ 140737488355328) := Lib.hid (by rw [HXL.out]; have := HSZ.out; omega)
        have h3 : (s.extract j k).data.toList.length = k - j := by rw [← HXL.out]; exact Array.length_toList
        have HL2 : Hid ((acc ++ (s.extract j k).data.toList).length + tr.size ≤ 140737488355328) := Lib.hid <| by
          have h1 := HTL.out
          have h2 := HSZ.out
          simp only [List.length_append, h3]; omega
        have htl : tr.data.toList.length = tr.size := by simp
        have HL3 : Hid ((acc ++ (s.extract j k).data.toList ++ tr.data.toList).length + 1 ≤ 140737488355328) := Lib.hid <| by
          have h1 := HTL.out
          have h2 := HSZ.out
          simp only [List.length_append, h3, htl]; omega
        have HD0 := gacct_put HL.out HDd.out (by omega) hj HA.out hal HO.out (by
          have h1 := HTL.out
          rw [List.length_append, htl]
          split
          · simp; omega
          · simp; omega)
        rw [← HX.out] at HD0
        have HD := Lib.hid HD0
        have hkd : ((k : Int) + d == 0) = false := by rw [beq_eq_false_iff_ne]; omega
        have hlr : (s.data.toList.drop (k + d)).length = s.size - (k + d) := by rw [List.length_drop, HL.out]
        have hcs : (tr.toList = [92, 92] ∧ bl = false) ∨ (tr.toList ≠ [92, 92] ∧ k + d = s.size ∧ bl = true) ∨ (tr.toList ≠ [92, 92] ∧ ∃ hh : k + d < s.size, hexB s[k + d].toNat = true ∧ bl = true) ∨
            (tr.toList ≠ [92, 92] ∧ ∃ hh : k + d < s.size, hexB s[k + d].toNat = false ∧ isBlankB s[k + d].toNat = bl) := by
          rw [Lib.toList_data, htr]
          by_cases g1 : cssTab r = [92, 92]
          · exact .inl ⟨g1, by rw [← hbl]; unfold cssBlank; rw [g1]; rfl⟩
          · have g1' : (cssTab r != [92, 92]) = true := by simpa using g1
            right
            unfold cssBlank at hbl
            rw [g1', Bool.true_and] at hbl
            by_cases g2 : k + d = s.size
            · have : s.data.toList.drop (k + d) = [] := List.eq_nil_of_length_eq_zero (by rw [hlr]; omega)
              rw [this] at hbl
              exact .inl ⟨g1, g2, by rw [← hbl]; rfl⟩
            · have g3 : k + d < s.size := by omega
              right
              rw [drop_cons s (k + d) g3] at hbl
              rw [at0_c0, List.isEmpty_cons, Bool.false_or, hexB_eq] at hbl
              by_cases g4 : hexB s[k + d].toNat = true
              · rw [g4] at hbl
                exact .inl ⟨g1, g3, g4, hbl.symm⟩
              · have g4' : hexB s[k + d].toNat = false := by simpa using g4
                rw [g4'] at hbl
                exact .inr ⟨g1, g3, g4', hbl⟩
        clear hcell htr hz hrn hbl HD0 hlr h3 htl
        by_cases hj0 : j = 0
        · obtain ⟨hfr, hacc⟩ := HF.out hj0
          have HACC := Lib.hid hacc; clear hacc
          have hj1 : ((j : Int) == 0) = true := by simp [hj0]
          have HJ0 := Lib.hid hj0; clear hj0
          rcases hcs with ⟨g1, rfl⟩ | ⟨g1, g2, rfl⟩ | ⟨g1, g2, g3, rfl⟩ | ⟨g1, g2, g3, g4⟩
          · have HD2 : Hid (GAcct cssOne s.data.toList (acc ++ (s.extract j k).data.toList ++ tr.data.toList) (k + d) (k + d) ∧ (acc ++ (s.extract j k).data.toList ++ tr.data.toList).length ≤ 8 * (k + d)) := Lib.hid (by have h := HD.out; simpa using h)
            have e3 : (tr.toList = [92, 92]) = True := eq_true g1
            have e4 : (tr.toList == [92, 92]) = true := by rw [beq_iff_eq]; exact g1
            clear g1 HD
            go_wp2_with (go_at_call 80; refine (HDC.out _ HT.out).mono ?_; rintro e w1 ⟨rfl, hb1⟩; have hc1 := HC.out w1 hb1)
            refine (grow_calls _ _ _ (hfr.keep hb1) HGZ.out).mono ?_
            rintro e w2 ⟨rfl, hB2, hb2⟩
            rw [← HACC.out] at hB2
            have hbx := hb.trans ((hb1.mono hbase.out).trans hb2)
            go_wp2_with fail
            refine (write_calls _ _ _ _ hB2 HL1.out).mono ?_
            rintro e w3 ⟨rfl, hB3, hb3⟩
            have hbx3 := hbx.trans hb3
            go_wp2_with fail
            refine (write_calls _ _ _ _ hB3 HL2.out).mono ?_
            rintro e w4 ⟨rfl, hB4, hb4⟩
            have hbx4 := hbx3.trans hb4
            go_wp2_with fail
            go_roundw
            case rel =>
              exact ⟨k + d, k + d, _, Nat.le_refl _, by omega, by go_num, by go_num, hbx4, HD2.out.1, HD2.out.2, fun h0 => absurd h0 (by omega), hB4⟩
            case measure => simp [intOf]; omega
          · have HD2 : Hid (GAcct cssOne s.data.toList (acc ++ (s.extract j k).data.toList ++ tr.data.toList ++ [32]) (k + d) (k + d) ∧ (acc ++ (s.extract j k).data.toList ++ tr.data.toList ++ [32]).length ≤ 8 * (k + d)) := Lib.hid (by have h := HD.out; simpa [List.append_assoc] using h)
            have e3 : (tr.toList = [92, 92]) = False := eq_false g1
            have e4 : (tr.toList == [92, 92]) = false := by rw [beq_eq_false_iff_ne]; exact g1
            clear g1 HD
            have q2 : ((k : Int) + d == s.size) = true := by rw [beq_iff_eq]; omega
            clear g2
            go_wp2_with (go_at_call 80; refine (HDC.out _ HT.out).mono ?_; rintro e w1 ⟨rfl, hb1⟩; have hc1 := HC.out w1 hb1)
            refine (grow_calls _ _ _ (hfr.keep hb1) HGZ.out).mono ?_
            rintro e w2 ⟨rfl, hB2, hb2⟩
            rw [← HACC.out] at hB2
            have hbx := hb.trans ((hb1.mono hbase.out).trans hb2)
            go_wp2_with fail
            refine (write_calls _ _ _ _ hB2 HL1.out).mono ?_
            rintro e w3 ⟨rfl, hB3, hb3⟩
            have hbx3 := hbx.trans hb3
            go_wp2_with fail
            refine (write_calls _ _ _ _ hB3 HL2.out).mono ?_
            rintro e w4 ⟨rfl, hB4, hb4⟩
            have hbx4 := hbx3.trans hb4
            go_wp2_with fail
            refine (byte_calls _ _ 32 _ hB4 HL3.out).mono ?_
            rintro e w5 ⟨rfl, hB5, hb5⟩
            have hbx5 := hbx4.trans hb5
            go_wp2_with fail
            go_roundw
            case rel =>
              exact ⟨k + d, k + d, _, Nat.le_refl _, by omega, by go_num, by go_num, hbx5, HD2.out.1, HD2.out.2, fun h0 => absurd h0 (by omega), hB5⟩
            case measure => simp [intOf]; omega
          · have HD2 : Hid (GAcct cssOne s.data.toList (acc ++ (s.extract j k).data.toList ++ tr.data.toList ++ [32]) (k + d) (k + d) ∧ (acc ++ (s.extract j k).data.toList ++ tr.data.toList ++ [32]).length ≤ 8 * (k + d)) := Lib.hid (by have h := HD.out; simpa [List.append_assoc] using h)
            have e3 : (tr.toList = [92, 92]) = False := eq_false g1
            have e4 : (tr.toList == [92, 92]) = false := by rw [beq_eq_false_iff_ne]; exact g1
            clear g1 HD
            have q2 : ((k : Int) + d == s.size) = false := by rw [beq_eq_false_iff_ne]; omega
            have g2i : (k : Int) + d < s.size := by omega
            have hhx := fun w => isHex_any s[k + d].toNat w
            rw [g3] at hhx
            have HHX := Lib.hid hhx
            have hsp := fun w => cssSpace_any s[k + d].toNat w
            have HSP := Lib.hid hsp
            clear hhx hsp g3
            go_wp2_with (go_at_call 80; refine (HDC.out _ HT.out).mono ?_; rintro e w1 ⟨rfl, hb1⟩; have hc1 := HC.out w1 hb1)
            refine (grow_calls _ _ _ (hfr.keep hb1) HGZ.out).mono ?_
            rintro e w2 ⟨rfl, hB2, hb2⟩
            rw [← HACC.out] at hB2
            have hbx := hb.trans ((hb1.mono hbase.out).trans hb2)
            go_wp2_with fail
            refine (write_calls _ _ _ _ hB2 HL1.out).mono ?_
            rintro e w3 ⟨rfl, hB3, hb3⟩
            have hbx3 := hbx.trans hb3
            go_wp2_with fail
            refine (write_calls _ _ _ _ hB3 HL2.out).mono ?_
            rintro e w4 ⟨rfl, hB4, hb4⟩
            have hbx4 := hbx3.trans hb4
            go_wp2_with (first
              | (go_at_call 83; refine (HHX.out _).mono ?_; rintro e w' ⟨rfl, rfl⟩)
              | (go_at_call 84; refine (HSP.out _).mono ?_; rintro e w' ⟨rfl, rfl⟩))
            refine (byte_calls _ _ 32 _ hB4 HL3.out).mono ?_
            rintro e w5 ⟨rfl, hB5, hb5⟩
            have hbx5 := hbx4.trans hb5
            go_wp2_with fail
            go_roundw
            case rel =>
              exact ⟨k + d, k + d, _, Nat.le_refl _, by omega, by go_num, by go_num, hbx5, HD2.out.1, HD2.out.2, fun h0 => absurd h0 (by omega), hB5⟩
            case measure => simp [intOf]; omega
          · have q2 : ((k : Int) + d == s.size) = false := by rw [beq_eq_false_iff_ne]; omega
            have g2i : (k : Int) + d < s.size := by omega
            have hhx := fun w => isHex_any s[k + d].toNat w
            rw [g3] at hhx
            have HHX := Lib.hid hhx
            have hsp := fun w => cssSpace_any s[k + d].toNat w
            rw [g4] at hsp
            have HSP := Lib.hid hsp
            clear hhx hsp g3 g4
            cases bl
            · have HD2 : Hid (GAcct cssOne s.data.toList (acc ++ (s.extract j k).data.toList ++ tr.data.toList) (k + d) (k + d) ∧ (acc ++ (s.extract j k).data.toList ++ tr.data.toList).length ≤ 8 * (k + d)) := Lib.hid (by have h := HD.out; simpa using h)
              have e3 : (tr.toList = [92, 92]) = False := eq_false g1
              have e4 : (tr.toList == [92, 92]) = false := by rw [beq_eq_false_iff_ne]; exact g1
              clear g1 HD
              go_wp2_with (go_at_call 80; refine (HDC.out _ HT.out).mono ?_; rintro e w1 ⟨rfl, hb1⟩; have hc1 := HC.out w1 hb1)
              refine (grow_calls _ _ _ (hfr.keep hb1) HGZ.out).mono ?_
              rintro e w2 ⟨rfl, hB2, hb2⟩
              rw [← HACC.out] at hB2
              have hbx := hb.trans ((hb1.mono hbase.out).trans hb2)
              go_wp2_with fail
              refine (write_calls _ _ _ _ hB2 HL1.out).mono ?_
              rintro e w3 ⟨rfl, hB3, hb3⟩
              have hbx3 := hbx.trans hb3
              go_wp2_with fail
              refine (write_calls _ _ _ _ hB3 HL2.out).mono ?_
              rintro e w4 ⟨rfl, hB4, hb4⟩
              have hbx4 := hbx3.trans hb4
              go_wp2_with (first
                | (go_at_call 83; refine (HHX.out _).mono ?_; rintro e w' ⟨rfl, rfl⟩)
                | (go_at_call 84; refine (HSP.out _).mono ?_; rintro e w' ⟨rfl, rfl⟩))
              go_roundw
              case rel =>
                exact ⟨k + d, k + d, _, Nat.le_refl _, by omega, by go_num, by go_num, hbx4, HD2.out.1, HD2.out.2, fun h0 => absurd h0 (by omega), hB4⟩
              case measure => simp [intOf]; omega
            · have HD2 : Hid (GAcct cssOne s.data.toList (acc ++ (s.extract j k).data.toList ++ tr.data.toList ++ [32]) (k + d) (k + d) ∧ (acc ++ (s.extract j k).data.toList ++ tr.data.toList ++ [32]).length ≤ 8 * (k + d)) := Lib.hid (by have h := HD.out; simpa [List.append_assoc] using h)
              have e3 : (tr.toList = [92, 92]) = False := eq_false g1
              have e4 : (tr.toList == [92, 92]) = false := by rw [beq_eq_false_iff_ne]; exact g1
              clear g1 HD
              go_wp2_with (go_at_call 80; refine (HDC.out _ HT.out).mono ?_; rintro e w1 ⟨rfl, hb1⟩; have hc1 := HC.out w1 hb1)
              refine (grow_calls _ _ _ (hfr.keep hb1) HGZ.out).mono ?_
              rintro e w2 ⟨rfl, hB2, hb2⟩
              rw [← HACC.out] at hB2
              have hbx := hb.trans ((hb1.mono hbase.out).trans hb2)
              go_wp2_with fail
              refine (write_calls _ _ _ _ hB2 HL1.out).mono ?_
              rintro e w3 ⟨rfl, hB3, hb3⟩
              have hbx3 := hbx.trans hb3
              go_wp2_with fail
              refine (write_calls _ _ _ _ hB3 HL2.out).mono ?_
              rintro e w4 ⟨rfl, hB4, hb4⟩
              have hbx4 := hbx3.trans hb4
              go_wp2_with (first
                | (go_at_call 83; refine (HHX.out _).mono ?_; rintro e w' ⟨rfl, rfl⟩)
                | (go_at_call 84; refine (HSP.out _).mono ?_; rintro e w' ⟨rfl, rfl⟩))
              refine (byte_calls _ _ 32 _ hB4 HL3.out).mono ?_
              rintro e w5 ⟨rfl, hB5, hb5⟩
              have hbx5 := hbx4.trans hb5
              go_wp2_with fail
              go_roundw
              case rel =>
                exact ⟨k + d, k + d, _, Nat.le_refl _, by omega, by go_num, by go_num, hbx5, HD2.out.1, HD2.out.2, fun h0 => absurd h0 (by omega), hB5⟩
              case measure => simp [intOf]; omega
        · have hj1 : ((j : Int) == 0) = false := by simp; omega
          clear hj0
          rcases hcs with ⟨g1, rfl⟩ | ⟨g1, g2, rfl⟩ | ⟨g1, g2, g3, rfl⟩ | ⟨g1, g2, g3, g4⟩
          · have HD2 : Hid (GAcct cssOne s.data.toList (acc ++ (s.extract j k).data.toList ++ tr.data.toList) (k + d) (k + d) ∧ (acc ++ (s.extract j k).data.toList ++ tr.data.toList).length ≤ 8 * (k + d)) := Lib.hid (by have h := HD.out; simpa using h)
            have e3 : (tr.toList = [92, 92]) = True := eq_true g1
            have e4 : (tr.toList == [92, 92]) = true := by rw [beq_iff_eq]; exact g1
            clear g1 HD
            go_wp2_with (go_at_call 80; refine (HDC.out _ HT.out).mono ?_; rintro e w1 ⟨rfl, hb1⟩; have hc1 := HC.out w1 hb1)
            refine (write_calls _ _ _ _ (hB.keep hb1) HL1.out).mono ?_
            rintro e w3 ⟨rfl, hB3, hb3⟩
            have hbx3 := hb.trans ((hb1.mono hbase.out).trans hb3)
            go_wp2_with fail
            refine (write_calls _ _ _ _ hB3 HL2.out).mono ?_
            rintro e w4 ⟨rfl, hB4, hb4⟩
            have hbx4 := hbx3.trans hb4
            go_wp2_with fail
            go_roundw
            case rel =>
              exact ⟨k + d, k + d, _, Nat.le_refl _, by omega, by go_num, by go_num, hbx4, HD2.out.1, HD2.out.2, fun h0 => absurd h0 (by omega), hB4⟩
            case measure => simp [intOf]; omega
          · have HD2 : Hid (GAcct cssOne s.data.toList (acc ++ (s.extract j k).data.toList ++ tr.data.toList ++ [32]) (k + d) (k + d) ∧ (acc ++ (s.extract j k).data.toList ++ tr.data.toList ++ [32]).length ≤ 8 * (k + d)) := Lib.hid (by have h := HD.out; simpa [List.append_assoc] using h)
            have e3 : (tr.toList = [92, 92]) = False := eq_false g1
            have e4 : (tr.toList == [92, 92]) = false := by rw [beq_eq_false_iff_ne]; exact g1
            clear g1 HD
            have q2 : ((k : Int) + d == s.size) = true := by rw [beq_iff_eq]; omega
            clear g2
            go_wp2_with (go_at_call 80; refine (HDC.out _ HT.out).mono ?_; rintro e w1 ⟨rfl, hb1⟩; have hc1 := HC.out w1 hb1)
            refine (write_calls _ _ _ _ (hB.keep hb1) HL1.out).mono ?_
            rintro e w3 ⟨rfl, hB3, hb3⟩
            have hbx3 := hb.trans ((hb1.mono hbase.out).trans hb3)
            go_wp2_with fail
            refine (write_calls _ _ _ _ hB3 HL2.out).mono ?_
            rintro e w4 ⟨rfl, hB4, hb4⟩
            have hbx4 := hbx3.trans hb4
            go_wp2_with fail
            refine (byte_calls _ _ 32 _ hB4 HL3.out).mono ?_
            rintro e w5 ⟨rfl, hB5, hb5⟩
            have hbx5 := hbx4.trans hb5
            go_wp2_with fail
            go_roundw
            case rel =>
              exact ⟨k + d, k + d, _, Nat.le_refl _, by omega, by go_num, by go_num, hbx5, HD2.out.1, HD2.out.2, fun h0 => absurd h0 (by omega), hB5⟩
            case measure => simp [intOf]; omega
          · have HD2 : Hid (GAcct cssOne s.data.toList (acc ++ (s.extract j k).data.toList ++ tr.data.toList ++ [32]) (k + d) (k + d) ∧ (acc ++ (s.extract j k).data.toList ++ tr.data.toList ++ [32]).length ≤ 8 * (k + d)) := Lib.hid (by have h := HD.out; simpa [List.append_assoc] using h)
            have e3 : (tr.toList = [92, 92]) = False := eq_false g1
            have e4 : (tr.toList == [92, 92]) = false := by rw [beq_eq_false_iff_ne]; exact g1
            clear g1 HD
            have q2 : ((k : Int) + d == s.size) = false := by rw [beq_eq_false_iff_ne]; omega
            have g2i : (k : Int) + d < s.size := by omega
            have hhx := fun w => isHex_any s[k + d].toNat w
            rw [g3] at hhx
            have HHX := Lib.hid hhx
            have hsp := fun w => cssSpace_any s[k + d].toNat w
            have HSP := Lib.hid hsp
            clear hhx hsp g3
            go_wp2_with (go_at_call 80; refine (HDC.out _ HT.out).mono ?_; rintro e w1 ⟨rfl, hb1⟩; have hc1 := HC.out w1 hb1)
            refine (write_calls _ _ _ _ (hB.keep hb1) HL1.out).mono ?_
            rintro e w3 ⟨rfl, hB3, hb3⟩
            have hbx3 := hb.trans ((hb1.mono hbase.out).trans hb3)
            go_wp2_with fail
            refine (write_calls _ _ _ _ hB3 HL2.out).mono ?_
            rintro e w4 ⟨rfl, hB4, hb4⟩
            have hbx4 := hbx3.trans hb4
            go_wp2_with (first
              | (go_at_call 83; refine (HHX.out _).mono ?_; rintro e w' ⟨rfl, rfl⟩)
              | (go_at_call 84; refine (HSP.out _).mono ?_; rintro e w' ⟨rfl, rfl⟩))
            refine (byte_calls _ _ 32 _ hB4 HL3.out).mono ?_
            rintro e w5 ⟨rfl, hB5, hb5⟩
            have hbx5 := hbx4.trans hb5
            go_wp2_with fail
            go_roundw
            case rel =>
              exact ⟨k + d, k + d, _, Nat.le_refl _, by omega, by go_num, by go_num, hbx5, HD2.out.1, HD2.out.2, fun h0 => absurd h0 (by omega), hB5⟩
            case measure => simp [intOf]; omega
          · have q2 : ((k : Int) + d == s.size) = false := by rw [beq_eq_false_iff_ne]; omega
            have g2i : (k : Int) + d < s.size := by omega
            have hhx := fun w => isHex_any s[k + d].toNat w
            rw [g3] at hhx
            have HHX := Lib.hid hhx
            have hsp := fun w => cssSpace_any s[k + d].toNat w
            rw [g4] at hsp
            have HSP := Lib.hid hsp
            clear hhx hsp g3 g4
            cases bl
            · have HD2 : Hid (GAcct cssOne s.data.toList (acc ++ (s.extract j k).data.toList ++ tr.data.toList) (k + d) (k + d) ∧ (acc ++ (s.extract j k).data.toList ++ tr.data.toList).length ≤ 8 * (k + d)) := Lib.hid (by have h := HD.out; simpa using h)
              have e3 : (tr.toList = [92, 92]) = False := eq_false g1
              have e4 : (tr.toList == [92, 92]) = false := by rw [beq_eq_false_iff_ne]; exact g1
              clear g1 HD
              go_wp2_with (go_at_call 80; refine (HDC.out _ HT.out).mono ?_; rintro e w1 ⟨rfl, hb1⟩; have hc1 := HC.out w1 hb1)
              refine (write_calls _ _ _ _ (hB.keep hb1) HL1.out).mono ?_
              rintro e w3 ⟨rfl, hB3, hb3⟩
              have hbx3 := hb.trans ((hb1.mono hbase.out).trans hb3)
              go_wp2_with fail
              refine (write_calls _ _ _ _ hB3 HL2.out).mono ?_
              rintro e w4 ⟨rfl, hB4, hb4⟩
              have hbx4 := hbx3.trans hb4
              go_wp2_with (first
                | (go_at_call 83; refine (HHX.out _).mono ?_; rintro e w' ⟨rfl, rfl⟩)
                | (go_at_call 84; refine (HSP.out _).mono ?_; rintro e w' ⟨rfl, rfl⟩))
              go_roundw
              case rel =>
                exact ⟨k + d, k + d, _, Nat.le_refl _, by omega, by go_num, by go_num, hbx4, HD2.out.1, HD2.out.2, fun h0 => absurd h0 (by omega), hB4⟩
              case measure => simp [intOf]; omega
            · have HD2 : Hid (GAcct cssOne s.data.toList (acc ++ (s.extract j k).data.toList ++ tr.data.toList ++ [32]) (k + d) (k + d) ∧ (acc ++ (s.extract j k).data.toList ++ tr.data.toList ++ [32]).length ≤ 8 * (k + d)) := Lib.hid (by have h := HD.out; simpa [List.append_assoc] using h)
              have e3 : (tr.toList = [92, 92]) = False := eq_false g1
              have e4 : (tr.toList == [92, 92]) = false := by rw [beq_eq_false_iff_ne]; exact g1
              clear g1 HD
              go_wp2_with (go_at_call 80; refine (HDC.out _ HT.out).mono ?_; rintro e w1 ⟨rfl, hb1⟩; have hc1 := HC.out w1 hb1)
              refine (write_calls _ _ _ _ (hB.keep hb1) HL1.out).mono ?_
              rintro e w3 ⟨rfl, hB3, hb3⟩
              have hbx3 := hb.trans ((hb1.mono hbase.out).trans hb3)
              go_wp2_with fail
              refine (write_calls _ _ _ _ hB3 HL2.out).mono ?_
              rintro e w4 ⟨rfl, hB4, hb4⟩
              have hbx4 := hbx3.trans hb4
              go_wp2_with (first
                | (go_at_call 83; refine (HHX.out _).mono ?_; rintro e w' ⟨rfl, rfl⟩)
                | (go_at_call 84; refine (HSP.out _).mono ?_; rintro e w' ⟨rfl, rfl⟩))
              refine (byte_calls _ _ 32 _ hB4 HL3.out).mono ?_
              rintro e w5 ⟨rfl, hB5, hb5⟩
              have hbx5 := hbx4.trans hb5
              go_wp2_with fail
              go_roundw
              case rel =>
                exact ⟨k + d, k + d, _, Nat.le_refl _, by omega, by go_num, by go_num, hbx5, HD2.out.1, HD2.out.2, fun h0 => absurd h0 (by omega), hB5⟩
              case measure => simp [intOf]; omega
    · have hks : k = s.size := by omega
      have HKS := Lib.hid hks; clear hks
      have HE : Hid (acc ++ (s.data.toList.drop j).take (k - j) = genL cssOne s.data.toList) := Lib.hid <| by
        have h1 := HA.out.1
        have h2 : s.data.toList.drop k = [] := List.drop_of_length_le (by rw [HL.out, HKS.out]; exact Nat.le_refl _)
        rw [h2, genL_nil, List.append_nil] at h1
        exact h1
      have HY : Hid ((s.data.toList.drop j).take (k - j) = s.data.toList.drop j) := Lib.hid (List.take_of_length_le (by rw [List.length_drop, HL.out, HKS.out]; exact Nat.le_refl _))
      have hge : (s.size : Int) ≤ k := by omega
      by_cases hj0 : j = 0
      · obtain ⟨hfr, hacc⟩ := HF.out hj0
        have hj1 : ((j : Int) == 0) = true := by simp [hj0]
        have HR : Hid (s.data.toList = genL cssOne s.data.toList) := Lib.hid <| by
          rw [← HE.out, HY.out, hacc, hj0]; rfl
        clear hj0 hacc
        go_wp2_with fail
        go_ret
        exact ⟨⟨_, rfl, HR.out⟩, hb⟩
      · have hj1 : ((j : Int) == 0) = false := by simp; omega
        have HL1 : Hid (acc.length + (s.extract j s.size).size ≤ 140737488355328) := Lib.hid (by
          have h1 : (s.extract j s.size).size ≤ s.size := by simp
          have := HSZ.out; omega)
        clear hj0
        go_wp2_with fail
        refine (write_calls _ _ _ _ hB HL1.out).mono ?_
        rintro e w3 ⟨rfl, hB3, hb3⟩
        have hbx3 := hb.trans hb3
        go_wp2_with fail
        refine (string_calls _ _ _ hB3).mono ?_
        rintro e w4 ⟨rfl, hb4⟩
        have hbx4 := hbx3.trans hb4
        go_wp2_with fail
        go_ret
        refine ⟨⟨_, rfl, ?_⟩, hbx4⟩
        have h5 : (s.data.toList.drop j).take (s.size - j) = s.data.toList.drop j := List.take_of_length_le (by rw [List.length_drop, HL.out]; exact Nat.le_refl _)
        show acc ++ _ = _
        first | rw [h5, ← HE.out, HY.out] | rw [extract_end, ← HE.out, HY.out]
end Go.Proofs.YtigobehhmodoiaaDoor
