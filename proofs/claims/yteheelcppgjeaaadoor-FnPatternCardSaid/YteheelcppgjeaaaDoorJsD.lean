/- The package's replace, and the texts in literals of ECMAScript. -/
import Derived.Test.YteheelcppgjeaaaDoorHtmlB
import Derived.Test.YteheelcppgjeaaaDoorLawJ
namespace Go.Proofs.YteheelcppgjeaaaDoor
open Go.Shelf Go.RowKit
set_option linter.unusedVariables false
set_option linter.unusedSimpArgs false

/-- The table of the characters below 32 lies as the package lays it. -/
def Lows (w : World) : Prop := TabAt 0 32 lowTab w
theorem Lows.keep {B : Nat} {w w' : World} (h : Lows w) (k : Below B w w') (hB : w.heap.size ≤ B) : Lows w' := by
  obtain ⟨v, hc, _⟩ := h 0 (by decide)
  exact TabAt.keep h k (Nat.lt_of_lt_of_le (cell_lt hc) hB)

set_option maxRecDepth 100000 in
set_option maxHeartbeats 8000000 in
theorem replace_ok (T : Nat → Bytes) (n tb cp : Nat) (s : ByteArray) (w : World) (hs : (s.size : Int) ≤ 4294967296) (hn : n ≤ 128) (hR6 : ∀ r, (jsRepl T r).length ≤ 8) (hTn : ∀ r, n ≤ r → T r = []) (hTab : TabAt tb n T w) (hTabs : Tabs w) (hLow : Lows w) (htb : tb < w.heap.size) :
    Calls Tryd.prog 83 #[.string s, .slice (some ⟨tb, 0, none⟩) n cp] w fun e w' => RetStr (jsL T s.data.toList) e ∧ Below w.heap.size w w' := by
  have HL : Hid (s.data.toList.length = s.size) := Lib.hid (by simp)
  have hs0 : s.size ≤ 2 ^ 63 - 1 := by omega
  have HSZ := Lib.hid hs; clear hs
  have HR6 := Lib.hid hR6; clear hR6
  have HTN := Lib.hid hTn; clear hTn
  unfold jsL
  go_enter Tryd.func83, Tryd.ntmps83
  go_wp2_with fail
  go_loopw [8, 9] (fun jn kn wr => ∃ (j k : Nat) (acc : Bytes), j ≤ k ∧ k ≤ s.size ∧ jn = .int .i64 j ∧ kn = .int .i64 k ∧ Below w.heap.size w wr ∧ Acct (jsRepl T) jsN true s.data.toList acc j k ∧ acc.length ≤ 8 * j ∧ (j = 0 → Fresh w.heap.size wr ∧ acc = []) ∧ Bld w.heap.size acc wr) (fun _ kn _ => s.size - (intOf kn).toNat)
  case atStart =>
    have hf : Fresh w.heap.size (w.alloc (.cells #[.pointer none, .slice none 0 0] 60)) := heap_alloc_new w _
    exact ⟨0, 0, [], Nat.le_refl _, Nat.zero_le _, rfl, rfl, (Below.refl _ _).alloc (Nat.le_refl _) _, ⟨by simp, by simp⟩, by simp, fun _ => ⟨hf, rfl⟩, hf.bld⟩
  case round =>
    obtain ⟨j, k, acc, hj, hk, rfl, rfl, hb, ha, hal, hfr, hB⟩ := hrel
    have HA := Lib.hid ha; clear ha
    have HF := Lib.hid hfr; clear hfr
    have HT := Lib.hid (hTabs.keep hb (Nat.le_refl _))
    by_cases hlt : k < s.size
    · have hne : s.data.toList.drop k ≠ [] := by
        intro h; have := congrArg List.length h; rw [List.length_drop, HL.out] at this; simp at this; omega
      obtain ⟨r, hr⟩ : ∃ r, r = (decL (s.data.toList.drop k)).1 := ⟨_, rfl⟩
      obtain ⟨d, hd⟩ : ∃ d, d = (decL (s.data.toList.drop k)).2 := ⟨_, rfl⟩
      have hd1 : 1 ≤ d := by rw [hd]; exact decL_pos _
      have hd2 : (k : Int) + d ≤ s.size := by have := decL_le _ hne; rw [← hd, List.length_drop, HL.out] at this; omega
      have hr2 : (r : Int) ≤ 1114111 := by have := decL_lt (s.data.toList.drop k); rw [← hr] at this; omega
      have hrN : r < jsN := by unfold jsN; omega
      have hdec := fun wx hx => decode_calls s k hlt wx hx
      rw [← hr, ← hd] at hdec
      have HDC := Lib.hid hdec; clear hdec
      have HRr := Lib.hid hr; clear hr
      have HDd := Lib.hid hd; clear hd
      have hbase := Lib.hid hb.size
      have HONE : Hid (replOne (jsRepl T) jsN true (s.data.toList.drop k) = if jsRepl T r = [] then (s.data.toList.drop k).take d else jsRepl T r) := Lib.hid <| by
        unfold replOne
        rw [← HRr.out, ← HDd.out, if_pos hrN]
      clear hrN
      have HCELL : Hid (r < n → ∃ tr : ByteArray, tr.data.toList = T r ∧ ∀ w1, Below wr.heap.size wr w1 → w1.cell? ⟨tb, r, none⟩ = some (.string tr)) := Lib.hid <| fun hrn => by
        obtain ⟨tr, hc0, htr⟩ := hTab r hrn
        exact ⟨tr, htr, fun w1 h1 => ((hb.trans (h1.mono hb.size)).cell (p := ⟨tb, r, none⟩) htb).trans hc0⟩
      have HLOW : Hid (r < 32 → ∃ tr : ByteArray, tr.data.toList = lowTab r ∧ ∀ w1, Below wr.heap.size wr w1 → w1.cell? ⟨0, r, none⟩ = some (.string tr)) := Lib.hid <| fun hr32 => by
        obtain ⟨tr, hc0, htr⟩ := hLow r hr32
        exact ⟨tr, htr, fun w1 h1 => ((hb.trans (h1.mono hb.size)).cell (p := ⟨_, r, none⟩) (cell_lt hc0)).trans hc0⟩
      by_cases hz : jsRepl T r = []
      · have HO : Hid (replOne (jsRepl T) jsN true (s.data.toList.drop k) = (s.data.toList.drop k).take d) := Lib.hid <| by rw [HONE.out, if_pos hz]
        have h32 : ¬ r < 32 := by
          intro h
          unfold jsRepl at hz
          rw [if_pos h] at hz
          unfold lowTab at hz
          revert hz
          repeat' split
          all_goals simp
        have hTr : T r = [] := by
          unfold jsRepl at hz
          rw [if_neg h32] at hz
          by_cases hT : T r = []
          · exact hT
          · rw [if_pos hT] at hz; exact absurd hz hT
        have h28 : r ≠ 8232 ∧ r ≠ 8233 := by
          unfold jsRepl at hz
          rw [if_neg h32, if_neg (by simp [hTr])] at hz
          constructor
          · intro h; rw [if_pos h] at hz; cases hz
          · intro h; rw [if_neg (by omega), if_pos h] at hz; cases hz
        have q32 : decide ((r : Int) < 32) = false := by rw [decide_eq_false_iff_not]; omega
        have q28 : ((r : Int) == 8232) = false := by rw [beq_eq_false_iff_ne]; omega
        have q29 : ((r : Int) == 8233) = false := by rw [beq_eq_false_iff_ne]; omega
        by_cases hrn : r < n
        · obtain ⟨tr, htr, hcell⟩ := HCELL.out hrn
          have HC := Lib.hid hcell
          have e1 : tr.toList.isEmpty = true := by rw [Lib.toList_data, htr, hTr]; rfl
          have e2 : (tr.toList = []) = True := by rw [Lib.toList_data, htr, hTr]; simp
          clear htr hcell hTr hz h32 h28
          go_wp2_with (go_at_call 77; refine (HDC.out _ HT.out).mono ?_; rintro e w1 ⟨rfl, hb1⟩; have hc1 := HC.out w1 hb1)
          go_roundw
          case rel =>
            exact ⟨j, k + d, acc, by omega, by omega, rfl, by go_num, hb.trans (hb1.mono hbase.out), acct_next HL.out HDd.out (by omega) hj HA.out HO.out, by omega, fun h0 => ⟨(HF.out h0).1.keep hb1, (HF.out h0).2⟩, hB.keep hb1⟩
          case measure => simp [intOf]; omega
        · have hrn' : (r < n) = False := eq_false hrn
          have hrn2 : decide (r < n) = false := by rw [decide_eq_false_iff_not]; exact hrn
          clear hTr hz h32 h28 hrn
          go_wp2_with (go_at_call 77; refine (HDC.out _ HT.out).mono ?_; rintro e w1 ⟨rfl, hb1⟩)
          go_roundw
          case rel =>
            exact ⟨j, k + d, acc, by omega, by omega, rfl, by go_num, hb.trans (hb1.mono hbase.out), acct_next HL.out HDd.out (by omega) hj HA.out HO.out, by omega, fun h0 => ⟨(HF.out h0).1.keep hb1, (HF.out h0).2⟩, hB.keep hb1⟩
          case measure => simp [intOf]; omega
      · have HO : Hid (replOne (jsRepl T) jsN true (s.data.toList.drop k) = jsRepl T r) := Lib.hid <| by rw [HONE.out, if_neg hz]
        have HX : Hid ((s.extract j k).data.toList = (s.data.toList.drop j).take (k - j)) := Lib.hid (extract_mid s j k)
        have HXL : Hid ((s.extract j k).size = k - j) := Lib.hid <| by simp; omega
        have HGZ : Hid (s.size ≤ 281474976710656) := Lib.hid (by have := HSZ.out; omega)
        have HL1 : Hid (acc.length + (s.extract j k).size ≤ 140737488355328) := Lib.hid (by rw [HXL.out]; have := HSZ.out; omega)
        have HD := Lib.hid (acct_done HL.out HDd.out (by omega) hj HA.out hal HO.out (HR6.out r))
        rw [← HX.out] at HD
        have hkd : ((k : Int) + d != 0) = true := by simp; omega
        have hcase : (r < 32) ∨ (¬ r < 32 ∧ r < n ∧ T r ≠ []) ∨ (¬ r < 32 ∧ ¬ r < n ∧ r = 8232) ∨ (¬ r < 32 ∧ ¬ r < n ∧ r = 8233) := by
          by_cases c1 : r < 32
          · exact .inl c1
          by_cases c2 : T r = []
          · have c3 : ¬ r < n ∨ r < n := by omega
            have c4 : r = 8232 ∨ r = 8233 := by
              unfold jsRepl at hz
              rw [if_neg c1, if_neg (by simp [c2])] at hz
              by_cases g1 : r = 8232
              · exact .inl g1
              · rw [if_neg g1] at hz
                by_cases g2 : r = 8233
                · exact .inr g2
                · rw [if_neg g2] at hz; exact absurd rfl hz
            right; right
            rcases c4 with c4 | c4
            · exact .inl ⟨c1, by omega, c4⟩
            · exact .inr ⟨c1, by omega, c4⟩
          · refine .inr (.inl ⟨c1, ?_, c2⟩)
            rcases Nat.lt_or_ge r n with h | h
            · exact h
            · exact absurd (HTN.out r h) c2
        by_cases hj0 : j = 0
        · obtain ⟨hfr, hacc⟩ := HF.out hj0
          have HACC := Lib.hid hacc; clear hacc
          have hj1 : ((j : Int) == 0) = true := by simp [hj0]
          have HJ0 := Lib.hid hj0; clear hj0
          rcases hcase with h32 | ⟨h32, hrn, hT⟩ | ⟨h32, hrn, h28⟩ | ⟨h32, hrn, h28⟩
          · obtain ⟨tr, htr, hcell⟩ := HLOW.out h32
            have hrep : tr.data.toList = jsRepl T r := by rw [htr]; unfold jsRepl; rw [if_pos h32]
            have HC := Lib.hid hcell
            have h32i : (r : Int) < 32 := by omega
            have h32d : decide ((r : Int) < 32) = true := by rw [decide_eq_true_eq]; omega
            clear hcell htr h32 hz
            have HTL : Hid (tr.size ≤ 8) := Lib.hid <| by
              have h1 := HR6.out r
              rw [← hrep] at h1; simpa using h1
            have HL2 : Hid ((acc ++ (s.extract j k).data.toList).length + tr.size ≤ 140737488355328) := Lib.hid <| by
              have h1 := HTL.out
              have h2 := HSZ.out
              have h3 : (s.extract j k).data.toList.length = k - j := by rw [← HXL.out]; exact Array.length_toList
              simp only [List.length_append, h3]; omega
            have HD2 := HD
            rw [← hrep] at HD2
            have HREP := Lib.hid hrep; clear hrep
            go_wp2_with (go_at_call 77; refine (HDC.out _ HT.out).mono ?_; rintro e w1 ⟨rfl, hb1⟩; have hc1 := HC.out w1 hb1)
            refine (grow_calls _ _ _ (hfr.keep hb1) HGZ.out).mono ?_
            rintro e w2 ⟨rfl, hB2, hb2⟩
            rw [← HACC.out] at hB2
            have hbx := hb.trans ((hb1.mono hbase.out).trans hb2)
            go_wp2_with fail
            refine (write_calls _ _ _ _ hB2 HL1.out).mono ?_
            rintro e w3 ⟨rfl, hB3, hb3⟩
            have hbx3 := hbx.trans hb3
            go_wp2_with fail
            refine (write_calls _ _ _ _ hB3 HL2.out).mono ?_
            rintro e w4 ⟨rfl, hB4, hb4⟩
            have hbx4 := hbx3.trans hb4
            go_wp2_with fail
            go_roundw
            case rel =>
              exact ⟨k + d, k + d, _, Nat.le_refl _, by omega, by go_num, by go_num, hbx4, HD2.out.1, HD2.out.2, fun h0 => absurd h0 (by omega), hB4⟩
            case measure => simp [intOf]; omega
          · obtain ⟨tr, htr, hcell⟩ := HCELL.out hrn
            have hrep : tr.data.toList = jsRepl T r := by rw [htr]; unfold jsRepl; rw [if_neg h32, if_pos hT]
            have e1 : tr.toList.isEmpty = false := by rw [Lib.toList_data, htr, List.isEmpty_eq_false_iff]; exact hT
            have e2 : (tr.toList = []) = False := by rw [Lib.toList_data, htr]; exact eq_false hT
            have HC := Lib.hid hcell
            have h32d : decide ((r : Int) < 32) = false := by rw [decide_eq_false_iff_not]; omega
            clear hcell htr h32 hz hT
            have HTL : Hid (tr.size ≤ 8) := Lib.hid <| by
              have h1 := HR6.out r
              rw [← hrep] at h1; simpa using h1
            have HL2 : Hid ((acc ++ (s.extract j k).data.toList).length + tr.size ≤ 140737488355328) := Lib.hid <| by
              have h1 := HTL.out
              have h2 := HSZ.out
              have h3 : (s.extract j k).data.toList.length = k - j := by rw [← HXL.out]; exact Array.length_toList
              simp only [List.length_append, h3]; omega
            have HD2 := HD
            rw [← hrep] at HD2
            have HREP := Lib.hid hrep; clear hrep
            go_wp2_with (go_at_call 77; refine (HDC.out _ HT.out).mono ?_; rintro e w1 ⟨rfl, hb1⟩; have hc1 := HC.out w1 hb1)
            refine (grow_calls _ _ _ (hfr.keep hb1) HGZ.out).mono ?_
            rintro e w2 ⟨rfl, hB2, hb2⟩
            rw [← HACC.out] at hB2
            have hbx := hb.trans ((hb1.mono hbase.out).trans hb2)
            go_wp2_with fail
            refine (write_calls _ _ _ _ hB2 HL1.out).mono ?_
            rintro e w3 ⟨rfl, hB3, hb3⟩
            have hbx3 := hbx.trans hb3
            go_wp2_with fail
            refine (write_calls _ _ _ _ hB3 HL2.out).mono ?_
            rintro e w4 ⟨rfl, hB4, hb4⟩
            have hbx4 := hbx3.trans hb4
            go_wp2_with fail
            go_roundw
            case rel =>
              exact ⟨k + d, k + d, _, Nat.le_refl _, by omega, by go_num, by go_num, hbx4, HD2.out.1, HD2.out.2, fun h0 => absurd h0 (by omega), hB4⟩
            case measure => simp [intOf]; omega
          · obtain ⟨tr, htr⟩ : ∃ tr : ByteArray, tr = ⟨#[92, 117, 50, 48, 50, 56]⟩ := ⟨_, rfl⟩
            have hrep : tr.data.toList = jsRepl T r := by
              rw [htr]; unfold jsRepl
              rw [if_neg h32, if_neg (by simp [HTN.out r (by omega)]), if_pos h28]
            have HTE := Lib.hid htr
            have h32d : decide ((r : Int) < 32) = false := by rw [decide_eq_false_iff_not]; omega
            have hrn' : (r < n) = False := eq_false hrn
            have hrn2 : decide (r < n) = false := by rw [decide_eq_false_iff_not]; exact hrn
            have q28 : ((r : Int) == 8232) = true := by rw [beq_iff_eq]; omega
            clear h28 h32 hz hrn
            have HTL : Hid (tr.size ≤ 8) := Lib.hid <| by
              have h1 := HR6.out r
              rw [← hrep] at h1; simpa using h1
            have HL2 : Hid ((acc ++ (s.extract j k).data.toList).length + tr.size ≤ 140737488355328) := Lib.hid <| by
              have h1 := HTL.out
              have h2 := HSZ.out
              have h3 : (s.extract j k).data.toList.length = k - j := by rw [← HXL.out]; exact Array.length_toList
              simp only [List.length_append, h3]; omega
            have HD2 := HD
            rw [← hrep] at HD2
            have HREP := Lib.hid hrep; clear hrep
            go_wp2_with (go_at_call 77; refine (HDC.out _ HT.out).mono ?_; rintro e w1 ⟨rfl, hb1⟩)
            refine (grow_calls _ _ _ (hfr.keep hb1) HGZ.out).mono ?_
            rintro e w2 ⟨rfl, hB2, hb2⟩
            rw [← HACC.out] at hB2
            have hbx := hb.trans ((hb1.mono hbase.out).trans hb2)
            go_wp2_with fail
            refine (write_calls _ _ _ _ hB2 HL1.out).mono ?_
            rintro e w3 ⟨rfl, hB3, hb3⟩
            have hbx3 := hbx.trans hb3
            go_wp2_with fail
            rw [← HTE.out]
            refine (write_calls _ _ _ _ hB3 HL2.out).mono ?_
            rintro e w4 ⟨rfl, hB4, hb4⟩
            have hbx4 := hbx3.trans hb4
            go_wp2_with fail
            go_roundw
            case rel =>
              exact ⟨k + d, k + d, _, Nat.le_refl _, by omega, by go_num, by go_num, hbx4, HD2.out.1, HD2.out.2, fun h0 => absurd h0 (by omega), hB4⟩
            case measure => simp [intOf]; omega
          · obtain ⟨tr, htr⟩ : ∃ tr : ByteArray, tr = ⟨#[92, 117, 50, 48, 50, 57]⟩ := ⟨_, rfl⟩
            have hrep : tr.data.toList = jsRepl T r := by
              rw [htr]; unfold jsRepl
              rw [if_neg h32, if_neg (by simp [HTN.out r (by omega)]), if_neg (by omega), if_pos h28]
            have HTE := Lib.hid htr
            have h32d : decide ((r : Int) < 32) = false := by rw [decide_eq_false_iff_not]; omega
            have hrn' : (r < n) = False := eq_false hrn
            have hrn2 : decide (r < n) = false := by rw [decide_eq_false_iff_not]; exact hrn
            have q28 : ((r : Int) == 8232) = false := by rw [beq_eq_false_iff_ne]; omega
            have q29 : ((r : Int) == 8233) = true := by rw [beq_iff_eq]; omega
            clear h28 h32 hz hrn
            have HTL : Hid (tr.size ≤ 8) := Lib.hid <| by
              have h1 := HR6.out r
              rw [← hrep] at h1; simpa using h1
            have HL2 : Hid ((acc ++ (s.extract j k).data.toList).length + tr.size ≤ 140737488355328) := Lib.hid <| by
              have h1 := HTL.out
              have h2 := HSZ.out
              have h3 : (s.extract j k).data.toList.length = k - j := by rw [← HXL.out]; exact Array.length_toList
              simp only [List.length_append, h3]; omega
            have HD2 := HD
            rw [← hrep] at HD2
            have HREP := Lib.hid hrep; clear hrep
            go_wp2_with (go_at_call 77; refine (HDC.out _ HT.out).mono ?_; rintro e w1 ⟨rfl, hb1⟩)
            refine (grow_calls _ _ _ (hfr.keep hb1) HGZ.out).mono ?_
            rintro e w2 ⟨rfl, hB2, hb2⟩
            rw [← HACC.out] at hB2
            have hbx := hb.trans ((hb1.mono hbase.out).trans hb2)
            go_wp2_with fail
            refine (write_calls _ _ _ _ hB2 HL1.out).mono ?_
            rintro e w3 ⟨rfl, hB3, hb3⟩
            have hbx3 := hbx.trans hb3
            go_wp2_with fail
            rw [← HTE.out]
            refine (write_calls _ _ _ _ hB3 HL2.out).mono ?_
            rintro e w4 ⟨rfl, hB4, hb4⟩
            have hbx4 := hbx3.trans hb4
            go_wp2_with fail
            go_roundw
            case rel =>
              exact ⟨k + d, k + d, _, Nat.le_refl _, by omega, by go_num, by go_num, hbx4, HD2.out.1, HD2.out.2, fun h0 => absurd h0 (by omega), hB4⟩
            case measure => simp [intOf]; omega
        · have hj1 : ((j : Int) == 0) = false := by simp; omega
          clear hj0
          rcases hcase with h32 | ⟨h32, hrn, hT⟩ | ⟨h32, hrn, h28⟩ | ⟨h32, hrn, h28⟩
          · obtain ⟨tr, htr, hcell⟩ := HLOW.out h32
            have hrep : tr.data.toList = jsRepl T r := by rw [htr]; unfold jsRepl; rw [if_pos h32]
            have HC := Lib.hid hcell
            have h32i : (r : Int) < 32 := by omega
            have h32d : decide ((r : Int) < 32) = true := by rw [decide_eq_true_eq]; omega
            clear hcell htr h32 hz
            have HTL : Hid (tr.size ≤ 8) := Lib.hid <| by
              have h1 := HR6.out r
              rw [← hrep] at h1; simpa using h1
            have HL2 : Hid ((acc ++ (s.extract j k).data.toList).length + tr.size ≤ 140737488355328) := Lib.hid <| by
              have h1 := HTL.out
              have h2 := HSZ.out
              have h3 : (s.extract j k).data.toList.length = k - j := by rw [← HXL.out]; exact Array.length_toList
              simp only [List.length_append, h3]; omega
            have HD2 := HD
            rw [← hrep] at HD2
            have HREP := Lib.hid hrep; clear hrep
            go_wp2_with (go_at_call 77; refine (HDC.out _ HT.out).mono ?_; rintro e w1 ⟨rfl, hb1⟩; have hc1 := HC.out w1 hb1)
            refine (write_calls _ _ _ _ (hB.keep hb1) HL1.out).mono ?_
            rintro e w3 ⟨rfl, hB3, hb3⟩
            have hbx3 := hb.trans ((hb1.mono hbase.out).trans hb3)
            go_wp2_with fail
            refine (write_calls _ _ _ _ hB3 HL2.out).mono ?_
            rintro e w4 ⟨rfl, hB4, hb4⟩
            have hbx4 := hbx3.trans hb4
            go_wp2_with fail
            go_roundw
            case rel =>
              exact ⟨k + d, k + d, _, Nat.le_refl _, by omega, by go_num, by go_num, hbx4, HD2.out.1, HD2.out.2, fun h0 => absurd h0 (by omega), hB4⟩
            case measure => simp [intOf]; omega
          · obtain ⟨tr, htr, hcell⟩ := HCELL.out hrn
            have hrep : tr.data.toList = jsRepl T r := by rw [htr]; unfold jsRepl; rw [if_neg h32, if_pos hT]
            have e1 : tr.toList.isEmpty = false := by rw [Lib.toList_data, htr, List.isEmpty_eq_false_iff]; exact hT
            have e2 : (tr.toList = []) = False := by rw [Lib.toList_data, htr]; exact eq_false hT
            have HC := Lib.hid hcell
            have h32d : decide ((r : Int) < 32) = false := by rw [decide_eq_false_iff_not]; omega
            clear hcell htr h32 hz hT
            have HTL : Hid (tr.size ≤ 8) := Lib.hid <| by
              have h1 := HR6.out r
              rw [← hrep] at h1; simpa using h1
            have HL2 : Hid ((acc ++ (s.extract j k).data.toList).length + tr.size ≤ 140737488355328) := Lib.hid <| by
              have h1 := HTL.out
              have h2 := HSZ.out
              have h3 : (s.extract j k).data.toList.length = k - j := by rw [← HXL.out]; exact Array.length_toList
              simp only [List.length_append, h3]; omega
            have HD2 := HD
            rw [← hrep] at HD2
            have HREP := Lib.hid hrep; clear hrep
            go_wp2_with (go_at_call 77; refine (HDC.out _ HT.out).mono ?_; rintro e w1 ⟨rfl, hb1⟩; have hc1 := HC.out w1 hb1)
            refine (write_calls _ _ _ _ (hB.keep hb1) HL1.out).mono ?_
            rintro e w3 ⟨rfl, hB3, hb3⟩
            have hbx3 := hb.trans ((hb1.mono hbase.out).trans hb3)
            go_wp2_with fail
            refine (write_calls _ _ _ _ hB3 HL2.out).mono ?_
            rintro e w4 ⟨rfl, hB4, hb4⟩
            have hbx4 := hbx3.trans hb4
            go_wp2_with fail
            go_roundw
            case rel =>
              exact ⟨k + d, k + d, _, Nat.le_refl _, by omega, by go_num, by go_num, hbx4, HD2.out.1, HD2.out.2, fun h0 => absurd h0 (by omega), hB4⟩
            case measure => simp [intOf]; omega
          · obtain ⟨tr, htr⟩ : ∃ tr : ByteArray, tr = ⟨#[92, 117, 50, 48, 50, 56]⟩ := ⟨_, rfl⟩
            have hrep : tr.data.toList = jsRepl T r := by
              rw [htr]; unfold jsRepl
              rw [if_neg h32, if_neg (by simp [HTN.out r (by omega)]), if_pos h28]
            have HTE := Lib.hid htr
            have h32d : decide ((r : Int) < 32) = false := by rw [decide_eq_false_iff_not]; omega
            have hrn' : (r < n) = False := eq_false hrn
            have hrn2 : decide (r < n) = false := by rw [decide_eq_false_iff_not]; exact hrn
            have q28 : ((r : Int) == 8232) = true := by rw [beq_iff_eq]; omega
            clear h28 h32 hz hrn
            have HTL : Hid (tr.size ≤ 8) := Lib.hid <| by
              have h1 := HR6.out r
              rw [← hrep] at h1; simpa using h1
            have HL2 : Hid ((acc ++ (s.extract j k).data.toList).length + tr.size ≤ 140737488355328) := Lib.hid <| by
              have h1 := HTL.out
              have h2 := HSZ.out
              have h3 : (s.extract j k).data.toList.length = k - j := by rw [← HXL.out]; exact Array.length_toList
              simp only [List.length_append, h3]; omega
            have HD2 := HD
            rw [← hrep] at HD2
            have HREP := Lib.hid hrep; clear hrep
            go_wp2_with (go_at_call 77; refine (HDC.out _ HT.out).mono ?_; rintro e w1 ⟨rfl, hb1⟩)
            refine (write_calls _ _ _ _ (hB.keep hb1) HL1.out).mono ?_
            rintro e w3 ⟨rfl, hB3, hb3⟩
            have hbx3 := hb.trans ((hb1.mono hbase.out).trans hb3)
            go_wp2_with fail
            rw [← HTE.out]
            refine (write_calls _ _ _ _ hB3 HL2.out).mono ?_
            rintro e w4 ⟨rfl, hB4, hb4⟩
            have hbx4 := hbx3.trans hb4
            go_wp2_with fail
            go_roundw
            case rel =>
              exact ⟨k + d, k + d, _, Nat.le_refl _, by omega, by go_num, by go_num, hbx4, HD2.out.1, HD2.out.2, fun h0 => absurd h0 (by omega), hB4⟩
            case measure => simp [intOf]; omega
          · obtain ⟨tr, htr⟩ : ∃ tr : ByteArray, tr = ⟨#[92, 117, 50, 48, 50, 57]⟩ := ⟨_, rfl⟩
            have hrep : tr.data.toList = jsRepl T r := by
              rw [htr]; unfold jsRepl
              rw [if_neg h32, if_neg (by simp [HTN.out r (by omega)]), if_neg (by omega), if_pos h28]
            have HTE := Lib.hid htr
            have h32d : decide ((r : Int) < 32) = false := by rw [decide_eq_false_iff_not]; omega
            have hrn' : (r < n) = False := eq_false hrn
            have hrn2 : decide (r < n) = false := by rw [decide_eq_false_iff_not]; exact hrn
            have q28 : ((r : Int) == 8232) = false := by rw [beq_eq_false_iff_ne]; omega
            have q29 : ((r : Int) == 8233) = true := by rw [beq_iff_eq]; omega
            clear h28 h32 hz hrn
            have HTL : Hid (tr.size ≤ 8) := Lib.hid <| by
              have h1 := HR6.out r
              rw [← hrep] at h1; simpa using h1
            have HL2 : Hid ((acc ++ (s.extract j k).data.toList).length + tr.size ≤ 140737488355328) := Lib.hid <| by
              have h1 := HTL.out
              have h2 := HSZ.out
              have h3 : (s.extract j k).data.toList.length = k - j := by rw [← HXL.out]; exact Array.length_toList
              simp only [List.length_append, h3]; omega
            have HD2 := HD
            rw [← hrep] at HD2
            have HREP := Lib.hid hrep; clear hrep
            go_wp2_with (go_at_call 77; refine (HDC.out _ HT.out).mono ?_; rintro e w1 ⟨rfl, hb1⟩)
            refine (write_calls _ _ _ _ (hB.keep hb1) HL1.out).mono ?_
            rintro e w3 ⟨rfl, hB3, hb3⟩
            have hbx3 := hb.trans ((hb1.mono hbase.out).trans hb3)
            go_wp2_with fail
            rw [← HTE.out]
            refine (write_calls _ _ _ _ hB3 HL2.out).mono ?_
            rintro e w4 ⟨rfl, hB4, hb4⟩
            have hbx4 := hbx3.trans hb4
            go_wp2_with fail
            go_roundw
            case rel =>
              exact ⟨k + d, k + d, _, Nat.le_refl _, by omega, by go_num, by go_num, hbx4, HD2.out.1, HD2.out.2, fun h0 => absurd h0 (by omega), hB4⟩
            case measure => simp [intOf]; omega
    · have hks : k = s.size := by omega
      have HKS := Lib.hid hks; clear hks
      have HE : Hid (acc ++ (s.data.toList.drop j).take (k - j) = replL (jsRepl T) jsN true s.data.toList) := Lib.hid <| by
        have h1 := HA.out.1
        have h2 : s.data.toList.drop k = [] := List.drop_of_length_le (by rw [HL.out, HKS.out]; exact Nat.le_refl _)
        rw [h2, replL_nil, List.append_nil] at h1
        exact h1
      have HY : Hid ((s.data.toList.drop j).take (k - j) = s.data.toList.drop j) := Lib.hid (List.take_of_length_le (by rw [List.length_drop, HL.out, HKS.out]; exact Nat.le_refl _))
      have hge : (s.size : Int) ≤ k := by omega
      by_cases hj0 : j = 0
      · obtain ⟨hfr, hacc⟩ := HF.out hj0
        have hj1 : ((j : Int) == 0) = true := by simp [hj0]
        have HR : Hid (s.data.toList = replL (jsRepl T) jsN true s.data.toList) := Lib.hid <| by
          rw [← HE.out, HY.out, hacc, hj0]; rfl
        clear hj0 hacc
        go_wp2_with fail
        go_ret
        exact ⟨⟨_, rfl, HR.out⟩, hb⟩
      · have hj1 : ((j : Int) == 0) = false := by simp; omega
        have HL1 : Hid (acc.length + (s.extract j s.size).size ≤ 140737488355328) := Lib.hid (by
          have h1 : (s.extract j s.size).size ≤ s.size := by simp
          have := HSZ.out; omega)
        clear hj0
        go_wp2_with fail
        refine (write_calls _ _ _ _ hB HL1.out).mono ?_
        rintro e w3 ⟨rfl, hB3, hb3⟩
        have hbx3 := hb.trans hb3
        go_wp2_with fail
        refine (string_calls _ _ _ hB3).mono ?_
        rintro e w4 ⟨rfl, hb4⟩
        have hbx4 := hbx3.trans hb4
        go_wp2_with fail
        go_ret
        refine ⟨⟨_, rfl, ?_⟩, hbx4⟩
        have h5 : (s.data.toList.drop j).take (s.size - j) = s.data.toList.drop j := List.take_of_length_le (by rw [List.length_drop, HL.out]; exact Nat.le_refl _)
        show acc ++ _ = _
        first | rw [h5, ← HE.out, HY.out] | rw [extract_end, ← HE.out, HY.out]
end Go.Proofs.YteheelcppgjeaaaDoor
