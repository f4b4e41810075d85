/- The reference's Reference: a reference to a character by its name or number. -/
import Derived.Test.YthhmccdjhcfggaaSpecI
import Derived.Deep.QuietTactic
import Derived.BigQuiet
import Derived.Deep.DeepCutAuto
namespace Go.Proofs.Ythhmccdjhcfggaa
open Go.RowKit
set_option linter.unusedVariables false
set_option linter.unusedSimpArgs false

def refTo (s : Bytes) (j : Nat) : Bytes × Nat := (ents.take j).foldl (refStep s (wordL (s.drop 1))) ([], 0)

theorem refTo_step (s : Bytes) (j : Nat) (hj : j < 54) : refTo s (j + 1) = refStep s (wordL (s.drop 1)) (refTo s j) (entAt j) := by
  unfold refTo
  rw [take_get ents j ([], [], false) hj, List.foldl_append]; rfl
theorem refTo_end (s : Bytes) : refTo s 54 = refFold s := by
  unfold refTo refFold
  rw [List.take_of_length_le (by decide)]
theorem entName_le : ∀ j, j < 54 → (entName j).size ≤ 13 := by decide
theorem skip_1 (s w : Bytes) (st : Bytes × Nat) (e : Bytes × Bytes × Bool) (h : w.length < e.1.length) : refStep s w st e = st := by
  unfold refStep refSkip; simp [h]
theorem skip_2 (s w : Bytes) (st : Bytes × Nat) (e : Bytes × Bytes × Bool) (h : w.take e.1.length ≠ e.1) : refStep s w st e = st := by
  unfold refStep refSkip; simp [h]
theorem skip_3 (s w : Bytes) (st : Bytes × Nat) (e : Bytes × Bytes × Bool) (h : semiAt s (e.1.length + 1) = false) (h2 : e.2.2 = false) : refStep s w st e = st := by
  unfold refStep refSkip; simp [h, h2]
theorem skip_4 (s w : Bytes) (st : Bytes × Nat) (e : Bytes × Bytes × Bool) (h : semiAt s (e.1.length + 1) = true) (h1 : e.1.length < w.length) (h2 : e.2.2 = false) : refStep s w st e = st := by
  unfold refStep refSkip; simp [h, h1, h2]
theorem keep_1 (s w : Bytes) (st : Bytes × Nat) (e : Bytes × Bytes × Bool) (k : Nat) (hk : refLong s e = k) (h : k ≤ st.2) : refStep s w st e = st := by
  unfold refStep; rw [hk, if_pos h]; simp
theorem take_1 (s w : Bytes) (st : Bytes × Nat) (e : Bytes × Bytes × Bool) (k : Nat) (hk : refLong s e = k) (h : ¬ k ≤ st.2) (hs : refSkip s w e = false) : refStep s w st e = (e.2.1, k) := by
  unfold refStep; rw [hk, if_neg h, hs]; simp
theorem noskip_1 (s w : Bytes) (e : Bytes × Bytes × Bool) (h : ¬ w.length < e.1.length) (h1 : w.take e.1.length = e.1) (h2 : e.2.2 = true) : refSkip s w e = false := by
  unfold refSkip; simp [h1, h2]; omega
theorem noskip_2 (s w : Bytes) (e : Bytes × Bytes × Bool) (h : ¬ w.length < e.1.length) (h1 : w.take e.1.length = e.1) (h2 : semiAt s (e.1.length + 1) = true) (h3 : ¬ e.1.length < w.length) : refSkip s w e = false := by
  unfold refSkip; simp [h1, h2]; omega
theorem semi_true (s : ByteArray) (k : Nat) (h : k < s.size) (h2 : s[k].toNat = 59) : semiAt s.data.toList k = true := by
  unfold semiAt; rw [at0_get s k h, h2]; simpa using h
theorem semi_false (s : ByteArray) (k : Nat) (h : k < s.size) (h2 : s[k].toNat ≠ 59) : semiAt s.data.toList k = false := by
  unfold semiAt; rw [at0_get s k h]; simp [h2]
theorem semi_out (s : ByteArray) (k : Nat) (h : ¬ k < s.size) : semiAt s.data.toList k = false := by
  unfold semiAt; simp; omega

theorem reference_of (s : Bytes) (attr : Bool) (b : Bytes) (n : Nat) (bb : Bool) (h2 : 2 ≤ s.length) (g0 : at0 s 0 = 38) (g1 : at0 s 1 ≠ 35) (h : refFold s = (b, n)) (hb : refNone s attr n = bb) :
    referenceL s attr = if bb = true then ([], 0, false) else (b, n, true) := by
  unfold referenceL
  rw [if_neg (by omega), if_neg g1, h, hb]
theorem retRef_some (p : Bytes × Nat × Bool) (b : ByteArray) (n : Nat) (h : p = (b.data.toList, n, true)) : RetRef p (.returned (.tuple #[.string b, .int .i64 n, .bool true])) := by
  subst h; exact ⟨_, rfl, rfl⟩

set_option maxRecDepth 100000 in
set_option maxHeartbeats 8000000 in
theorem reference_ent (s : ByteArray) (attr : Bool) (w : World) (hs : s.size ≤ maxLen) (h2 : 2 ≤ s.size) (g0 : ((s[0].toNat : Int) != 38) = false) (g1 : ((s[1].toNat : Int) == 35) = false) :
    Calls Try.prog 21 #[.string s, .bool attr] w fun e w' => RetRef (referenceL s.data.toList attr) e ∧ Below w.heap.size w w' := by
  have HL : Hid (s.data.toList.length = s.size) := Lib.hid (by simp)
  have G0 : Hid (s[0].toNat = 38) := Lib.hid (by simp at g0; omega)
  have G1 : Hid (s[1].toNat ≠ 35) := Lib.hid (by simp at g1; omega)
  unfold maxLen at hs
  have hsz : (s.extract 1 s.size).size ≤ maxLen := by simp; unfold maxLen; omega
  go_enter Try.func21, Try.ntmps21
  go_wp2_with (go_at_call 18; refine (word_any _ _ hsz).mono ?_; rintro e w' ⟨⟨v, rfl, hv⟩, rfl⟩)
  rw [extract_end] at hv
  have HV := Lib.hid hv; clear hv
  have hvs : (v.size : Int) + 1 ≤ s.size := by
    have h1 := wordL_le (s.data.toList.drop 1)
    rw [← HV.out, List.length_drop, HL.out] at h1
    have h2 : v.data.toList.length = v.size := by simp
    omega
  go_wp2_with (go_at_call 19; refine (entities_calls _).mono ?_; rintro e w1 ⟨rfl, hw1⟩)
  have hsz1 := Lib.hid hw1.size
  go_loopw [5, 7, 34] (fun nn bb i wx => ∃ (j n : Nat) (b : ByteArray), j ≤ 54 ∧ i = .int .i64 j ∧ nn = .int .i64 n ∧ bb = .string b ∧ (n : Int) ≤ s.size ∧ Below w1.heap.size w1 wx ∧ refTo s.data.toList j = (b.data.toList, n)) (fun _ _ i _ => 54 - (intOf i).toNat)
  case atStart => exact ⟨0, 0, _, by omega, rfl, rfl, rfl, by omega, Below.refl _ _, rfl⟩
  case round =>
    obtain ⟨j, n, b, hj, rfl, rfl, rfl, hn, hbx, hf⟩ := hrel
    have H := Lib.hid hf; clear hf
    have hsx := hbx.size
    by_cases hj54 : j < 54
    · have hlt1 : w.heap.size < w1.heap.size := by rw [hsz1.out]; omega
      have e0 := (hbx.cell (p := ⟨w.heap.size, j * 3, none⟩) hlt1).trans (hw1.cell0 j hj54)
      have e1 := (hbx.cell (p := ⟨w.heap.size, j * 3 + 1, none⟩) hlt1).trans (hw1.cell1 j hj54)
      have e2 := (hbx.cell (p := ⟨w.heap.size, j * 3 + 2, none⟩) hlt1).trans (hw1.cell2 j hj54)
      obtain ⟨nm, hnm⟩ : ∃ nm, nm = entName j := ⟨_, rfl⟩
      obtain ⟨tx, htx⟩ : ∃ tx, tx = entText j := ⟨_, rfl⟩
      obtain ⟨lg, hlg⟩ : ∃ lg, lg = entLegacy j := ⟨_, rfl⟩
      rw [← hnm] at e0; rw [← htx] at e1; rw [← hlg] at e2
      have hnl : (nm.size : Int) ≤ 13 := by
        have := entName_le j hj54
        rw [hnm]; omega
      have HNM := Lib.hid hnm; clear hnm
      have HTX := Lib.hid htx; clear htx
      have HLG := Lib.hid hlg; clear hlg
      have HE := Lib.hid (refTo_step s.data.toList j hj54)
      have HN1 : Hid ((entAt j).1.length = nm.size) := Lib.hid <| by rw [HNM.out]; rfl
      have HW1 : Hid ((wordL (s.data.toList.drop 1)).length = v.size) := Lib.hid <| by rw [← HV.out]; simp
      obtain ⟨W2, hW2⟩ : ∃ W2 : World, W2 = wr.alloc (.cells #[.string nm, .string tx, .bool lg] 40) := ⟨_, rfl⟩
      obtain ⟨sm, hsm⟩ : ∃ sm, sm = semiAt s.data.toList (nm.size + 1) := ⟨_, rfl⟩
      have HSM := Lib.hid hsm; clear hsm
      obtain ⟨sk, hsk⟩ : ∃ sk, sk = refSkip s.data.toList (wordL (s.data.toList.drop 1)) (entAt j) := ⟨_, rfl⟩
      have HSK := Lib.hid hsk; clear hsk
      have HPR : Hid (((wordL (s.data.toList.drop 1)).take (entAt j).1.length = (entAt j).1) ↔ ((v.extract 0 nm.size).toList = nm.toList)) := Lib.hid <| by
        rw [toList_data, toList_data, extract_zero, HV.out, HN1.out, HNM.out]; rfl
      go_upto_region 11 with fail
      go_cut [12] (fun s12 wx => s12 = .bool sm ∧ wx = wr.alloc (.cells #[.string nm, .string tx, .bool lg] 40))
      case first =>
        by_cases c3 : (nm.size : Int) + 1 < s.size
        · have hsm2 : Hid (sm = ((s[nm.size + 1]'(by omega)).toNat == 59)) := Lib.hid <| by
            rw [HSM.out]; unfold semiAt; rw [at0_get s (nm.size + 1) (by omega)]
            have : decide (nm.size + 1 < s.data.toList.length) = true := by rw [decide_eq_true_iff, HL.out]; omega
            rw [this, Bool.true_and]
          go_wp2_with fail
          go_meet
          exact ⟨vbool ((int_beq _ 59).trans hsm2.out.symm), rfl⟩
        · have hsm2 : Hid (sm = false) := Lib.hid <| by rw [HSM.out]; exact semi_out s _ (by omega)
          go_wp2_with fail
          go_meet
          exact ⟨vbool hsm2.out.symm, rfl⟩
      case rest =>
        obtain ⟨rfl, rfl⟩ := hcut
        go_upto_region 12 with fail
        go_cut [92] (fun s92 wx => s92 = .bool sk ∧ ∃ n : Nat, wx = (wr.alloc (.cells #[.string nm, .string tx, .bool lg] 40)).drewN n)
        case first =>
          by_cases p1 : (v.size : Int) < nm.size
          · have hk : Hid (true = sk) := Lib.hid <| by
              rw [HSK.out]; unfold refSkip
              have : decide ((wordL (s.data.toList.drop 1)).length < (entAt j).1.length) = true := by rw [decide_eq_true_iff, HW1.out, HN1.out]; omega
              rw [this]; rfl
            try clear HK0
            try clear HP2
            try clear HP1
            clear HPR HSK HSM G0 G1 HE H HV HNM HTX HLG hbx hw1 e0 e1 e2 HL hsz hs g0 g1 h2 hvs hn hnl hj hsx hj54 hlt1 HN1 HW1
            go_big_quiet (fail)
            go_wp2_with fail
            go_meet
            exact ⟨vbool hk.out, _, rfl⟩
          · have d1 : nm.size ≤ v.size := by omega
            have HP1 : Hid (decide ((wordL (s.data.toList.drop 1)).length < (entAt j).1.length) = false) := Lib.hid <| by rw [decide_eq_false_iff_not, HW1.out, HN1.out]; omega
            by_cases p2 : (v.extract 0 nm.size).toList = nm.toList
            · have HP2 : Hid (((wordL (s.data.toList.drop 1)).take (entAt j).1.length != (entAt j).1) = false) := Lib.hid <| by rw [HPR.out.2 p2]; simp
              have HK0 : Hid (sk = ((!sm && !lg) || (sm && decide (nm.size < v.size) && !lg))) := Lib.hid <| by
                rw [HSK.out]; unfold refSkip
                rw [HP1.out, HP2.out, HN1.out, HW1.out, ← HSM.out]
                have : (entAt j).2.2 = lg := HLG.out.symm
                rw [this]; rfl
              rcases Bool.eq_false_or_eq_true sm with rfl | rfl
              · by_cases p3 : nm.size < v.size
                · rcases Bool.eq_false_or_eq_true lg with rfl | rfl
                  · have hk : Hid (false = sk) := Lib.hid <| by rw [HK0.out]; simp
                    try clear HK0
                    try clear HP2
                    try clear HP1
                    clear HPR HSK HSM G0 G1 HE H HV HNM HTX HLG hbx hw1 e0 e1 e2 HL hsz hs g0 g1 h2 hvs hn hnl hj hsx hj54 hlt1 HN1 HW1
                    go_big_quiet (fail)
                    go_wp2_with fail
                    go_meet
                    exact ⟨vbool hk.out, _, rfl⟩
                  · have hk : Hid (true = sk) := Lib.hid <| by rw [HK0.out]; simp [p3]
                    try clear HK0
                    try clear HP2
                    try clear HP1
                    clear HPR HSK HSM G0 G1 HE H HV HNM HTX HLG hbx hw1 e0 e1 e2 HL hsz hs g0 g1 h2 hvs hn hnl hj hsx hj54 hlt1 HN1 HW1
                    go_big_quiet (fail)
                    go_wp2_with fail
                    go_meet
                    exact ⟨vbool hk.out, _, rfl⟩
                · have d3 : (nm.size < v.size) = False := eq_false p3
                  have hk : Hid (false = sk) := Lib.hid <| by rw [HK0.out]; simp [p3]
                  clear p3
                  try clear HK0
                  try clear HP2
                  try clear HP1
                  clear HPR HSK HSM G0 G1 HE H HV HNM HTX HLG hbx hw1 e0 e1 e2 HL hsz hs g0 g1 h2 hvs hn hnl hj hsx hj54 hlt1 HN1 HW1
                  go_big_quiet (fail)
                  go_wp2_with fail
                  go_meet
                  exact ⟨vbool hk.out, _, rfl⟩
              · rcases Bool.eq_false_or_eq_true lg with rfl | rfl
                · have hk : Hid (false = sk) := Lib.hid <| by rw [HK0.out]; simp
                  try clear HK0
                  try clear HP2
                  try clear HP1
                  clear HPR HSK HSM G0 G1 HE H HV HNM HTX HLG hbx hw1 e0 e1 e2 HL hsz hs g0 g1 h2 hvs hn hnl hj hsx hj54 hlt1 HN1 HW1
                  go_big_quiet (fail)
                  go_wp2_with fail
                  go_meet
                  exact ⟨vbool hk.out, _, rfl⟩
                · have hk : Hid (true = sk) := Lib.hid <| by rw [HK0.out]; simp
                  try clear HK0
                  try clear HP2
                  try clear HP1
                  clear HPR HSK HSM G0 G1 HE H HV HNM HTX HLG hbx hw1 e0 e1 e2 HL hsz hs g0 g1 h2 hvs hn hnl hj hsx hj54 hlt1 HN1 HW1
                  go_big_quiet (fail)
                  go_wp2_with fail
                  go_meet
                  exact ⟨vbool hk.out, _, rfl⟩
            · have hk : Hid (true = sk) := Lib.hid <| by
                rw [HSK.out]; unfold refSkip
                have : ((wordL (s.data.toList.drop 1)).take (entAt j).1.length != (entAt j).1) = true := by
                  rw [bne_iff_ne]; exact fun h => p2 (HPR.out.1 h)
                rw [HP1.out, this]; rfl
              have q2 : ((v.extract 0 nm.size).toList == nm.toList) = false := by rw [beq_eq_false_iff_ne]; exact p2
              have q3 : ((v.extract 0 nm.size).toList != nm.toList) = true := by rw [bne_iff_ne]; exact p2
              have q4 : ((v.extract 0 nm.size).toList = nm.toList) = False := eq_false p2
              clear p2
              try clear HK0
              try clear HP2
              try clear HP1
              clear HPR HSK HSM G0 G1 HE H HV HNM HTX HLG hbx hw1 e0 e1 e2 HL hsz hs g0 g1 h2 hvs hn hnl hj hsx hj54 hlt1 HN1 HW1
              go_big_quiet (fail)
              go_wp2_with fail
              go_meet
              exact ⟨vbool hk.out, _, rfl⟩
        case rest =>
          obtain ⟨rfl, nq, rfl⟩ := hcut
          rcases Bool.eq_false_or_eq_true sk with rfl | rfl
          · have HR : Hid (refTo s.data.toList (j + 1) = (b.data.toList, n)) := Lib.hid <| by
              rw [HE.out]
              have : refStep s.data.toList (wordL (s.data.toList.drop 1)) (refTo s.data.toList j) (entAt j) = refTo s.data.toList j := by unfold refStep; rw [← HSK.out, if_pos rfl]
              rw [this]; exact H.out
            clear HPR
            go_wp2_with fail
            go_roundw
            case rel => exact ⟨j + 1, n, b, by omega, by go_num, by go_num, rfl, by omega, below_drewN (hbx.alloc (by omega) _) _, HR.out⟩
            case measure => simp [intOf]; omega
          · have HNV : Hid (nm.size ≤ v.size) := Lib.hid <| by
              have h1 := HSK.out
              unfold refSkip at h1
              rcases Nat.lt_or_ge v.size nm.size with h3 | h3
              · have : decide ((wordL (s.data.toList.drop 1)).length < (entAt j).1.length) = true := by rw [decide_eq_true_iff, HW1.out, HN1.out]; exact h3
                rw [this] at h1; simp at h1
              · exact h3
            have hnv : nm.size ≤ v.size := HNV.out
            rcases Bool.eq_false_or_eq_true sm with rfl | rfl
            · have hlt2 : nm.size + 1 < s.size := by
                have h1 := HSM.out
                unfold semiAt at h1
                have h2 := Bool.and_eq_true_iff.1 h1.symm
                have h3 := of_decide_eq_true h2.1
                rw [HL.out] at h3; exact h3
              have HLO : Hid (refLong s.data.toList (entAt j) = nm.size + 2) := Lib.hid <| by unfold refLong; rw [HN1.out, ← HSM.out]; rfl
              by_cases p5 : ((nm.size + 2 : Nat) : Int) ≤ n
              · have p6 : (nm.size : Int) + 1 + 1 ≤ n := by omega
                clear p5
                have HR : Hid (refTo s.data.toList (j + 1) = (b.data.toList, n)) := Lib.hid <| by
                  rw [HE.out]
                  rw [keep_1 _ _ _ _ (nm.size + 2) HLO.out (by rw [H.out]; show nm.size + 2 ≤ n; omega)]; exact H.out
                clear HPR
                go_wp2_with fail
                go_roundw
                case rel => exact ⟨j + 1, n, b, by omega, by go_num, by go_num, rfl, by omega, below_drewN (hbx.alloc (by omega) _) _, HR.out⟩
                case measure => simp [intOf]; omega
              · have p6 : decide ((nm.size : Int) + 1 + 1 ≤ n) = false := by rw [decide_eq_false_iff_not]; omega
                have HP5 := Lib.hid p5
                have HR : Hid (refTo s.data.toList (j + 1) = (tx.data.toList, nm.size + 2)) := Lib.hid <| by
                  rw [HE.out]
                  rw [take_1 _ _ _ _ (nm.size + 2) HLO.out (by rw [H.out]; show ¬ (nm.size + 2 ≤ n); omega) HSK.out.symm]
                  have : tx.data.toList = (entAt j).2.1 := by rw [HTX.out]; rfl
                  rw [this]
                clear HPR p5
                go_wp2_with fail
                go_roundw
                case rel => exact ⟨j + 1, nm.size + 2, tx, by omega, by go_num, by go_num, rfl, by omega, below_drewN (hbx.alloc (by omega) _) _, HR.out⟩
                case measure => simp [intOf]; omega
            · have HLO : Hid (refLong s.data.toList (entAt j) = nm.size + 1) := Lib.hid <| by unfold refLong; rw [HN1.out, ← HSM.out]; rfl
              by_cases p5 : ((nm.size + 1 : Nat) : Int) ≤ n
              · have p6 : (nm.size : Int) + 1 ≤ n := by omega
                clear p5
                have HR : Hid (refTo s.data.toList (j + 1) = (b.data.toList, n)) := Lib.hid <| by
                  rw [HE.out]
                  rw [keep_1 _ _ _ _ (nm.size + 1) HLO.out (by rw [H.out]; show nm.size + 1 ≤ n; omega)]; exact H.out
                clear HPR
                go_wp2_with fail
                go_roundw
                case rel => exact ⟨j + 1, n, b, by omega, by go_num, by go_num, rfl, by omega, below_drewN (hbx.alloc (by omega) _) _, HR.out⟩
                case measure => simp [intOf]; omega
              · have p6 : decide ((nm.size : Int) + 1 ≤ n) = false := by rw [decide_eq_false_iff_not]; omega
                have HP5 := Lib.hid p5
                have HR : Hid (refTo s.data.toList (j + 1) = (tx.data.toList, nm.size + 1)) := Lib.hid <| by
                  rw [HE.out]
                  rw [take_1 _ _ _ _ (nm.size + 1) HLO.out (by rw [H.out]; show ¬ (nm.size + 1 ≤ n); omega) HSK.out.symm]
                  have : tx.data.toList = (entAt j).2.1 := by rw [HTX.out]; rfl
                  rw [this]
                clear HPR p5
                go_wp2_with fail
                go_roundw
                case rel => exact ⟨j + 1, nm.size + 1, tx, by omega, by go_num, by go_num, rfl, by omega, below_drewN (hbx.alloc (by omega) _) _, HR.out⟩
                case measure => simp [intOf]; omega
    · obtain rfl : j = 54 := by omega
      have HF : Hid (refFold s.data.toList = (b.data.toList, n)) := Lib.hid <| by rw [← refTo_end]; exact H.out
      have HT1 : Hid (refNone s.data.toList attr n = true → referenceL s.data.toList attr = ([], 0, false)) := Lib.hid <| by
        intro hbb
        exact (reference_of s.data.toList attr _ n true (by rw [HL.out]; exact h2) (by rw [at0_get s 0 (by omega)]; exact G0.out) (by rw [at0_get s 1 (by omega)]; exact G1.out) HF.out hbb).trans (if_pos rfl)
      have HT0 : Hid (refNone s.data.toList attr n = false → referenceL s.data.toList attr = (b.data.toList, n, true)) := Lib.hid <| by
        intro hbb
        exact (reference_of s.data.toList attr _ n false (by rw [HL.out]; exact h2) (by rw [at0_get s 0 (by omega)]; exact G0.out) (by rw [at0_get s 1 (by omega)]; exact G1.out) HF.out hbb).trans (if_neg (by simp))
      have hbel : Below w.heap.size w wr := (hw1.below).trans (hbx.mono (by rw [hsz1.out]; omega))
      clear H hbx hw1
      by_cases n0 : n = 0
      · have hR := Lib.hid (HT1.out (by unfold refNone; simp [n0]))
        have hn0 : ((n : Int) == 0) = true := by simp [n0]
        clear n0 HT1 HT0
        go_wp2_with fail
        go_ret3
        exact ⟨retRef_none _ hR.out, hbel⟩
      have hn0 : ((n : Int) == 0) = false := by simp; omega
      have hnb : (n == 0) = false := by simp [n0]
      have HNB := Lib.hid hnb; clear hnb
      have hn1 : 1 ≤ n := by omega
      have hin : n - 1 < s.size := by omega
      have hcast : ((n : Int) - 1).toNat = n - 1 := by omega
      have HA1 := Lib.hid (at0_get s (n - 1) hin)
      clear n0
      rcases Bool.eq_false_or_eq_true attr with rfl | rfl
      · by_cases s1 : s[n - 1].toNat = 59
        · have hR := Lib.hid (HT0.out (by unfold refNone; rw [HA1.out, s1, HNB.out]; rfl))
          have hs1 : ((s[n - 1].toNat : Int) != 59) = false := by simp [s1]
          clear s1 HT1 HT0
          go_wp2_with fail
          go_ret3
          exact ⟨retRef_some _ _ _ hR.out, hbel⟩
        · have hs1 : ((s[n - 1].toNat : Int) != 59) = true := by simp; omega
          have hs1n : (s[n - 1].toNat != 59) = true := by rw [bne_iff_ne]; exact s1
          have HS1 := Lib.hid hs1n; clear hs1n s1
          by_cases hns : (n : Int) < s.size
          · have hns' : n < s.size := by omega
            have HD : Hid (decide (n < s.data.toList.length) = true) := Lib.hid (by rw [decide_eq_true_iff, HL.out]; exact hns')
            have HA2 := Lib.hid (at0_get s n hns')
            by_cases s2 : s[n].toNat = 61
            · have hR := Lib.hid (HT1.out (by unfold refNone; rw [HA1.out, HA2.out, HNB.out, HS1.out, HD.out, s2]; rfl))
              have hs2 : ((s[n].toNat : Int) == 61) = true := by simp [s2]
              clear s2 HT1 HT0
              go_wp2_with fail
              go_ret3
              exact ⟨retRef_none _ hR.out, hbel⟩
            · have hs2 : ((s[n].toNat : Int) == 61) = false := by simp; omega
              have hs2n : (s[n].toNat == 61) = false := by simp [s2]
              have HS2 := Lib.hid hs2n; clear hs2n s2
              rcases Bool.eq_false_or_eq_true (isAlnumB s[n].toNat) with s3 | s3
              · have hR := Lib.hid (HT1.out (by unfold refNone; rw [HA1.out, HA2.out, HNB.out, HS1.out, HD.out, HS2.out, s3]; rfl))
                clear HT1 HT0
                go_wp2_with (go_at_call 23; refine (isAlnum_any _ _).mono ?_; rintro e w' ⟨rfl, rfl⟩)
                go_ret3
                exact ⟨retRef_none _ hR.out, hbel⟩
              · have hR := Lib.hid (HT0.out (by unfold refNone; rw [HA1.out, HA2.out, HNB.out, HS1.out, HD.out, HS2.out, s3]; rfl))
                clear HT1 HT0
                go_wp2_with (go_at_call 23; refine (isAlnum_any _ _).mono ?_; rintro e w' ⟨rfl, rfl⟩)
                go_ret3
                exact ⟨retRef_some _ _ _ hR.out, hbel⟩
          · have hns' : decide ((n : Int) < s.size) = false := by rw [decide_eq_false_iff_not]; exact hns
            have HD : Hid (decide (n < s.data.toList.length) = false) := Lib.hid (by rw [decide_eq_false_iff_not, HL.out]; omega)
            have hR := Lib.hid (HT0.out (by unfold refNone; rw [HA1.out, HNB.out, HS1.out, HD.out]; rfl))
            have hge : (s.size : Int) ≤ n := by omega
            clear HT1 HT0 hns
            go_wp2_with fail
            go_ret3
            exact ⟨retRef_some _ _ _ hR.out, hbel⟩
      · have hR := Lib.hid (HT0.out (by unfold refNone; rw [HNB.out]; rfl))
        clear HT1 HT0
        go_wp2_with fail
        go_ret3
        exact ⟨retRef_some _ _ _ hR.out, hbel⟩

/-- Reference at a text that begins with the mark of a reference. -/
theorem reference_any (s : ByteArray) (attr : Bool) (w : World) (hs : s.size ≤ maxLen) (h1 : 0 < s.size) (g0 : s[0].toNat = 38) :
    Calls Try.prog 21 #[.string s, .bool attr] w fun e w' => RetRef (referenceL s.data.toList attr) e ∧ Below w.heap.size w w' := by
  have hlen : s.data.toList.length = s.size := by simp
  have hg0 : ((s[0].toNat : Int) != 38) = false := by simp [g0]
  by_cases h2 : s.size < 2
  · have HR : Hid (referenceL s.data.toList attr = ([], 0, false)) := Lib.hid <| by unfold referenceL; rw [if_pos (by omega)]
    have h2' : (s.size : Int) < 2 := by omega
    clear hlen g0 h2
    unfold maxLen at hs
    go_enter Try.func21, Try.ntmps21
    go_wp2_with fail
    go_ret3
    exact ⟨retRef_none _ HR.out, Below.refl _ _⟩
  · have h2' : 2 ≤ s.size := by omega
    by_cases g1 : s[1].toNat = 35
    · have HR : Hid (referenceL s.data.toList attr = numericL s.data.toList) := Lib.hid <| by
        unfold referenceL
        rw [if_neg (by rw [at0_get s 0 h1]; omega), if_pos (by rw [at0_get s 1 (by omega)]; exact g1)]
      have hg1 : ((s[1].toNat : Int) == 35) = true := by simp [g1]
      have HN := Lib.hid (fun wx => numeric_any s wx hs h2')
      clear hlen g0 h2 g1
      unfold maxLen at hs
      go_enter Try.func21, Try.ntmps21
      go_wp2_with (go_at_call 24; refine (HN.out _).mono ?_; rintro e w1 ⟨⟨v, rfl, hv⟩, hb⟩; have HV := Lib.hid hv; clear hv)
      go_ret3
      exact ⟨retRef_mk _ v _ _ (by rw [HR.out]; exact HV.out) (by rw [HR.out]) (by rw [HR.out]), hb⟩
    · exact reference_ent s attr w hs h2' hg0 (by simp; omega)
end Go.Proofs.Ythhmccdjhcfggaa
