/- filterSrcsetElement. -/
import Derived.Test.YtolamblmfejhoaaDoorSrcA
import Derived.Test.YtolamblmfejhoaaDoorGrowB
import Derived.Test.YtolamblmfejhoaaDoorUrlD
import Derived.Test.YtolamblmfejhoaaDoorSafe
import Derived.Deep.LoopGhost
import Derived.Deep.Cut
import Derived.Deep.CutBlock
import Derived.Deep.DeepCutAuto
namespace Go.Proofs.YtolamblmfejhoaaDoor
open Go.Shelf Go.RowKit
set_option linter.unusedVariables false
set_option linter.unusedSimpArgs false

theorem FoldOk.keep {B : Nat} {w w' : World} (h : FoldOk w) (k : Below B w w') (hB : w.heap.size ≤ B) : FoldOk w' := fun p hp =>
  have t : ∀ w'', Below w'.heap.size w' w'' → Below w.heap.size w w'' := fun w'' h2 => (k.mono hB).trans (h2.mono k.size)
  ⟨fun w'' h2 => (h p hp).1 w'' (t w'' h2), fun w'' h2 => (h p hp).2.1 w'' (t w'' h2), fun w'' h2 => (h p hp).2.2 w'' (t w'' h2)⟩
/-- A part of a text. -/
def partL (s : ByteArray) (left right : Nat) : Bytes := (s.data.toList.drop left).take (right - left)
theorem part_at (s : ByteArray) (left right k : Nat) (h1 : left ≤ k) (h2 : k < right) (h3 : right ≤ s.size) : (partL s left right).drop (k - left) = s[k] :: (partL s left right).drop (k + 1 - left) := by
  unfold partL
  rw [List.drop_take, List.drop_take, List.drop_drop, List.drop_drop]
  have e1 : left + (k - left) = k := by omega
  have e2 : left + (k + 1 - left) = k + 1 := by omega
  rw [e1, e2, drop_cons s k (by omega)]
  have e3 : right - left - (k - left) = (right - left - (k + 1 - left)) + 1 := by omega
  rw [e3, List.take_succ_cons]
theorem part_end (s : ByteArray) (left right : Nat) (h3 : right ≤ s.size) : (partL s left right).drop (right - left) = [] := by
  unfold partL
  rw [List.drop_eq_nil_iff, List.length_take]
  omega
theorem part_len (s : ByteArray) (left right : Nat) (h1 : left ≤ right) (h3 : right ≤ s.size) : (partL s left right).length = right - left := by
  unfold partL
  rw [List.length_take, List.length_drop]
  have : s.data.toList.length = s.size := by simp
  omega

theorem part_elem (s : ByteArray) (left right st en : Nat) (P : Bytes) (hlr : left ≤ right) (hr : right ≤ s.size) (hP : partL s left right = P) (hst : left + spN P = st) (hen : st + nspN (P.drop (spN P)) = en) (hb : left ≤ st ∧ st ≤ en ∧ en ≤ right) :
    elemL P = if safeL (s.extract st en).data.toList && metaOk (P.drop (en - left)) then (s.extract left st).data.toList ++ urlL true (s.extract st en).data.toList ++ (s.extract en right).data.toList else failW := by
  have e1 : (s.extract st en).data.toList = (P.drop (spN P)).take (nspN (P.drop (spN P))) := by
    rw [extract_mid, ← hP]
    unfold partL
    rw [List.drop_take, List.drop_drop, List.take_take]
    rw [hP.symm] at hst hen
    unfold partL at hst hen
    rw [List.drop_take, List.drop_drop] at hen
    rw [hst] at hen ⊢
    congr 1
    omega
  have e2 : (s.extract left st).data.toList = P.take (spN P) := by
    rw [extract_mid, ← hP]
    unfold partL
    rw [List.take_take]
    rw [hP.symm] at hst
    unfold partL at hst
    congr 1
    omega
  have e3 : P.drop (en - left) = (P.drop (spN P)).drop (nspN (P.drop (spN P))) := by
    rw [List.drop_drop]
    congr 1
    omega
  have e4 : (s.extract en right).data.toList = (P.drop (spN P)).drop (nspN (P.drop (spN P))) := by
    rw [← e3, extract_mid, ← hP]
    unfold partL
    rw [List.drop_take, List.drop_drop]
    congr 1
    · omega
    · congr 1; omega
  rw [e1, e2, e3, e4]
  rfl

set_option maxRecDepth 100000 in
set_option maxHeartbeats 4000000 in
theorem elem_any (s : ByteArray) (left right b : Nat) (acc : Bytes) (w : World) (hs : (s.size : Int) ≤ 17179869184) (hlr : left ≤ right) (hr : right ≤ s.size) (hB : Bld b acc w) (hacc : acc.length ≤ 1099511627776) (w0 : World) (hw : Below w0.heap.size w0 w) (hwb : w0.heap.size ≤ b) (hF : FoldOk w0) :
    Calls Tryd.prog 37 #[.string s, .int .i64 left, .int .i64 right, .pointer (some ⟨b, 0, none⟩)] w fun e w' => e = .returned (.tuple #[]) ∧ Bld b (acc ++ elemL (partL s left right)) w' ∧ Below b w w' := by
  obtain ⟨P, hP⟩ : ∃ P, partL s left right = P := ⟨_, rfl⟩
  have HP : Hid (∀ k (h1 : left ≤ k) (h2 : k < right), P.drop (k - left) = s[k] :: P.drop (k + 1 - left)) := Lib.hid (by rw [← hP]; exact fun k h1 h2 => part_at s left right k h1 h2 hr)
  have HE : Hid (P.drop (right - left) = [] ∧ P.length = right - left) := Lib.hid (by rw [← hP]; exact ⟨part_end s left right hr, part_len s left right hlr hr⟩)
  have hsp := spN_le P
  have hns := nspN_le (P.drop (spN P))
  rw [List.length_drop, HE.out.2] at hns
  rw [HE.out.2] at hsp
  have HPX : Hid (partL s left right = P) := Lib.hid hP
  have HB := Lib.hid hB
  rw [hP]
  clear hP hB
  obtain ⟨st, hst⟩ : ∃ st, left + spN P = st := ⟨_, rfl⟩
  obtain ⟨en, hen⟩ : ∃ en, st + nspN (P.drop (spN P)) = en := ⟨_, rfl⟩
  have HST := Lib.hid hst
  have HEN := Lib.hid hen
  have hb1 : left ≤ st ∧ st ≤ en ∧ en ≤ right := by omega
  clear hsp hns hst hen
  have hrz : (right : Int) ≤ s.size := by omega
  go_enter Tryd.func37, Tryd.ntmps37
  go_upto_block 0 with fail
  go_cut [8] (fun s8 wx => w = wx ∧ s8 = .int .i64 st)
  case first =>
    go_wp2_with fail
    go_loopg [8] (right - left) (fun g s8 wx => w = wx ∧ ∃ k : Nat, left ≤ k ∧ k + g = right ∧ s8 = .int .i64 k ∧ (k - left) + spN (P.drop (k - left)) = spN P)
    case atStart => exact ⟨rfl, left, Nat.le_refl _, by omega, rfl, by simp⟩
    case round =>
      obtain ⟨rfl, k, h1, h2, rfl, h3⟩ := hrel
      have H3 := Lib.hid h3
      clear h3
      cases gk with
      | zero =>
        have hkr : k = right := by omega
        have hn : ¬ ((k : Int) < (right : Int)) := by omega
        go_wp2_with fail
        go_meet
        have h4 := H3.out
        rw [hkr, HE.out.1] at h4
        have h5 := HST.out
        have h7 : right = st := by simp only [spN] at h4; omega
        exact ⟨rfl, by rw [← h7]⟩
      | succ g =>
        have hlt : (k : Int) < (right : Int) := by omega
        have hsz : (k : Int) < (s.size : Int) := by omega
        have h6 := HP.out k h1 (by omega)
        obtain ⟨c, hc⟩ : ∃ c : UInt8, s[k]'(by omega) = c := ⟨_, rfl⟩
        rw [hc] at h6
        have HX := Lib.hid h6
        clear h6
        have HS := Lib.hid (htmlSpace_any c.toNat c.toNat_lt w)
        by_cases hx : spB c.toNat = true
        · rw [hx] at HS
          go_wp2_with (go_at_call 53; refine HS.out.mono ?_; rintro e w1 ⟨rfl, rfl⟩)
          go_roundg g
          case measure => omega
          case rel =>
            refine ⟨rfl, k + 1, by omega, by omega, by first | rfl | simp, ?_⟩
            have h4 := H3.out
            rw [HX.out, spN, if_pos hx] at h4
            omega
        · rw [Bool.not_eq_true] at hx
          rw [hx] at HS
          go_wp2_with (go_at_call 53; refine HS.out.mono ?_; rintro e w1 ⟨rfl, rfl⟩)
          go_meet
          have h4 := H3.out
          rw [HX.out, spN, if_neg (by rw [hx]; decide)] at h4
          have h5 := HST.out
          exact ⟨rfl, by rw [← h5]; congr 1; omega⟩
  case rest =>
    obtain ⟨rfl, rfl⟩ := hcut
    go_upto_block 2 with fail
    go_cut [9, 10] (fun s9 s10 wx => w = wx ∧ s9 = .int .i64 en)
    case first =>
      go_wp2_with fail
      go_loopg [9, 10] (right - st) (fun g s9 s10 wx => w = wx ∧ s9 = .int .i64 right ∧ ∃ k : Nat, st ≤ k ∧ k + g = right ∧ s10 = .int .i64 k ∧ (k - st) + nspN (P.drop (k - left)) = nspN (P.drop (spN P)))
      case atStart => exact ⟨rfl, rfl, st, Nat.le_refl _, by omega, rfl, by have := HST.out; rw [show st - left = spN P by omega]; omega⟩
      case round =>
        obtain ⟨rfl, rfl, k, h1, h2, rfl, h3⟩ := hrel
        have H3 := Lib.hid h3
        clear h3
        cases gk with
        | zero =>
          have hkr : k = right := by omega
          have hn : ¬ ((k : Int) < (right : Int)) := by omega
          go_wp2_with fail
          go_meet
          have h4 := H3.out
          rw [hkr, HE.out.1] at h4
          have h5 := HEN.out
          have h6 : right = en := by simp only [nspN] at h4; omega
          exact ⟨rfl, by rw [h6]⟩
        | succ g =>
          have hlt : (k : Int) < (right : Int) := by omega
          have hsz : (k : Int) < (s.size : Int) := by omega
          have h6 := HP.out k (by omega) (by omega)
          obtain ⟨c, hc⟩ : ∃ c : UInt8, s[k]'(by omega) = c := ⟨_, rfl⟩
          rw [hc] at h6
          have HX := Lib.hid h6
          clear h6
          have HS := Lib.hid (htmlSpace_any c.toNat c.toNat_lt w)
          by_cases hx : spB c.toNat = true
          · rw [hx] at HS
            go_wp2_with (go_at_call 53; refine HS.out.mono ?_; rintro e w1 ⟨rfl, rfl⟩)
            go_meet
            have h4 := H3.out
            rw [HX.out, nspN, if_pos hx] at h4
            have h5 := HEN.out
            have h6 : k = en := by omega
            exact ⟨rfl, by rw [h6]⟩
          · rw [Bool.not_eq_true] at hx
            rw [hx] at HS
            go_wp2_with (go_at_call 53; refine HS.out.mono ?_; rintro e w1 ⟨rfl, rfl⟩)
            go_roundg g
            case measure => omega
            case rel =>
              refine ⟨rfl, rfl, k + 1, by omega, by omega, by first | rfl | simp, ?_⟩
              have h4 := H3.out
              rw [HX.out, nspN, if_neg (by rw [hx]; decide)] at h4
              omega
    case rest =>
      obtain ⟨rfl, rfl⟩ := hcut
      have hel := part_elem s left right st en P hlr hr HPX.out HST.out HEN.out hb1
      obtain ⟨sf, hsf⟩ : ∃ sf, safeL (s.extract st en).data.toList = sf := ⟨_, rfl⟩
      obtain ⟨mo, hmo⟩ : ∃ mo, metaOk (P.drop (en - left)) = mo := ⟨_, rfl⟩
      rw [hsf, hmo] at hel
      have hzU : (s.extract st en).size ≤ 17179869184 := by simp; omega
      have HSF := isSafe_any (s.extract st en) w (by omega) (hF.keep hw (Nat.le_refl _))
      rw [hsf] at HSF
      have HSAFE := Lib.hid HSF
      have HEL := Lib.hid hel
      have HMO := Lib.hid hmo
      have HSZ : Hid (acc.length ≤ 1099511627776 ∧ s.size ≤ 17179869184) := Lib.hid ⟨hacc, by omega⟩
      clear HSF hsf hel hmo hF hw hwb HST HEN HPX hacc
      cases sf with
      | false =>
        have HW1 : Hid (∀ w1, Below w.heap.size w w1 → Calls Tryd.prog 38 #[.pointer (some ⟨b, 0, none⟩), .string ⟨#[35]⟩] w1 fun e w' => e = .returned (.tuple #[.int .i64 1, .nilIface]) ∧ Bld b (acc ++ [35]) w' ∧ Below b w1 w') := Lib.hid fun w1 h => write_calls b acc ⟨#[35]⟩ w1 (HB.out.keep h) (by have := HSZ.out.1; show acc.length + 1 ≤ _; omega)
        have HW2 : Hid (∀ w1, Bld b (acc ++ [35]) w1 → Calls Tryd.prog 38 #[.pointer (some ⟨b, 0, none⟩), .string ⟨#[90, 103, 111, 116, 109, 112, 108, 90]⟩] w1 fun e w' => e = .returned (.tuple #[.int .i64 8, .nilIface]) ∧ Bld b (acc ++ [35] ++ [90, 103, 111, 116, 109, 112, 108, 90]) w' ∧ Below b w1 w') := Lib.hid fun w1 h => write_calls b (acc ++ [35]) ⟨#[90, 103, 111, 116, 109, 112, 108, 90]⟩ w1 h (by have := HSZ.out.1; rw [List.length_append]; show acc.length + 1 + 8 ≤ _; omega)
        have hbw : b < w.heap.size := HB.out.lt
        go_wp2_with (first
          | (go_at_call 32; refine HSAFE.out.mono ?_; rintro e w1 ⟨rfl, hb2⟩)
          | (go_at_call 38; refine (HW1.out _ hb2).mono ?_; rintro e w2 ⟨rfl, hB2, hb3⟩; clear HW1)
          | (go_at_call 38; refine (HW2.out _ hB2).mono ?_; rintro e w3 ⟨rfl, hB3, hb4⟩))
        go_end0
        refine ⟨rfl, ?_, ((hb2.mono (by omega)).trans hb3).trans hb4⟩
        have h9 := HEL.out
        simp only [Bool.false_and, Bool.false_eq_true, if_false] at h9
        rw [h9, show failW = [35] ++ [90, 103, 111, 116, 109, 112, 108, 90] from rfl, ← List.append_assoc]
        exact hB3
      | true =>
        go_upto_block 4 with (go_at_call 32; refine HSAFE.out.mono ?_; rintro e w1 ⟨rfl, hb2⟩)
        go_cut [12, 13] (fun s12 s13 wx => w1 = wx ∧ s12 = .bool mo)
        case first =>
          go_wp2_with fail
          go_loopg [12, 13] (right - en) (fun g s12 s13 wx => w1 = wx ∧ s12 = .bool true ∧ ∃ k : Nat, en ≤ k ∧ k + g = right ∧ s13 = .int .i64 k ∧ metaOk (P.drop (k - left)) = mo)
          case atStart => exact ⟨rfl, rfl, en, Nat.le_refl _, by omega, rfl, HMO.out⟩
          case round =>
            obtain ⟨rfl, rfl, k, h1, h2, rfl, h3⟩ := hrel
            have H3 := Lib.hid h3
            clear h3
            cases gk with
            | zero =>
              have hkr : k = right := by omega
              have hn : ¬ ((k : Int) < (right : Int)) := by omega
              go_wp2_with fail
              go_meet
              have h4 := H3.out
              rw [hkr, HE.out.1] at h4
              exact ⟨rfl, by rw [← h4]; rfl⟩
            | succ g =>
              have hlt : (k : Int) < (right : Int) := by omega
              have hsz : (k : Int) < (s.size : Int) := by omega
              have h6 := HP.out k (by omega) (by omega)
              obtain ⟨c, hc⟩ : ∃ c : UInt8, s[k]'(by omega) = c := ⟨_, rfl⟩
              rw [hc] at h6
              have HX := Lib.hid h6
              clear h6
              have HS := Lib.hid (htmlSpaceAlnum_any c.toNat c.toNat_lt w1)
              obtain ⟨ok, hx⟩ : ∃ ok, (spB c.toNat || isAlnumB c.toNat) = ok := ⟨_, rfl⟩
              rw [hx] at HS
              have h4 := H3.out
              rw [HX.out] at h4
              unfold metaOk at h4
              rw [List.all_cons, hx] at h4
              have H4 := Lib.hid h4
              clear h4 hx
              cases ok with
              | true =>
                go_wp2_with (go_at_call 54; refine HS.out.mono ?_; rintro e w2 ⟨rfl, rfl⟩)
                go_roundg g
                case measure => omega
                case rel => exact ⟨rfl, rfl, k + 1, by omega, by omega, by first | rfl | simp, H4.out⟩
              | false =>
                go_wp2_with (go_at_call 54; refine HS.out.mono ?_; rintro e w2 ⟨rfl, rfl⟩)
                go_meet
                exact ⟨rfl, by rw [← H4.out]; rfl⟩
        case rest =>
          obtain ⟨rfl, rfl⟩ := hcut
          have hbw : b < w.heap.size := HB.out.lt
          have HB2 := Lib.hid (HB.out.keep hb2)
          cases mo with
          | false =>
            have HW1 : Hid (Calls Tryd.prog 38 #[.pointer (some ⟨b, 0, none⟩), .string ⟨#[35]⟩] w1 fun e w' => e = .returned (.tuple #[.int .i64 1, .nilIface]) ∧ Bld b (acc ++ [35]) w' ∧ Below b w1 w') := Lib.hid (write_calls b acc ⟨#[35]⟩ w1 HB2.out (by have := HSZ.out.1; show acc.length + 1 ≤ _; omega))
            have HW2 : Hid (∀ w1, Bld b (acc ++ [35]) w1 → Calls Tryd.prog 38 #[.pointer (some ⟨b, 0, none⟩), .string ⟨#[90, 103, 111, 116, 109, 112, 108, 90]⟩] w1 fun e w' => e = .returned (.tuple #[.int .i64 8, .nilIface]) ∧ Bld b (acc ++ [35] ++ [90, 103, 111, 116, 109, 112, 108, 90]) w' ∧ Below b w1 w') := Lib.hid fun w1 h => write_calls b (acc ++ [35]) ⟨#[90, 103, 111, 116, 109, 112, 108, 90]⟩ w1 h (by have := HSZ.out.1; rw [List.length_append]; show acc.length + 1 + 8 ≤ _; omega)
            go_wp2_with (first
              | (go_at_call 38; refine HW1.out.mono ?_; rintro e w2 ⟨rfl, hB2, hb3⟩; clear HW1)
              | (go_at_call 38; refine (HW2.out _ hB2).mono ?_; rintro e w3 ⟨rfl, hB3, hb4⟩))
            go_end0
            refine ⟨rfl, ?_, ((hb2.mono (by omega)).trans hb3).trans hb4⟩
            have h9 := HEL.out
            simp only [Bool.and_false, Bool.false_eq_true, if_false] at h9
            rw [h9, show failW = [35] ++ [90, 103, 111, 116, 109, 112, 108, 90] from rfl, ← List.append_assoc]
            exact hB3
          | true =>
            have hz1 : (s.extract left st).size ≤ s.size := by rw [ByteArray.size_extract]; omega
            have hz2 : (s.extract en right).size ≤ s.size := by rw [ByteArray.size_extract]; omega
            have hz3 : (s.extract st en).size ≤ s.size := by rw [ByteArray.size_extract]; omega
            have hl1 : (s.extract left st).data.toList.length = (s.extract left st).size := Array.length_toList
            have hl3 : (s.extract st en).data.toList.length = (s.extract st en).size := Array.length_toList
            have hlu := urlL_len true (s.extract st en).data.toList
            have hs1 := HSZ.out.1
            have hs2 := HSZ.out.2
            have HW1 := Lib.hid (write_calls b acc (s.extract left st) w1 HB2.out (by omega))
            have HPR : Hid (∀ w2, Bld b (acc ++ (s.extract left st).data.toList) w2 → Calls Tryd.prog 34 #[.string (s.extract st en), .bool true, .pointer (some ⟨b, 0, none⟩)] w2 fun e w' => e = .returned (.bool (urlCh true (s.extract st en).data.toList)) ∧ Bld b (acc ++ (s.extract left st).data.toList ++ urlL true (s.extract st en).data.toList) w' ∧ Below b w2 w') := Lib.hid fun w2 h =>
              process_ok (s.extract st en) true b _ w2 (by omega) (by rw [List.length_append]; omega) (grow_used b _ _ w2 h (by rw [List.length_append]; omega) (by omega))
            have HW3 : Hid (∀ w3, Bld b (acc ++ (s.extract left st).data.toList ++ urlL true (s.extract st en).data.toList) w3 → Calls Tryd.prog 38 #[.pointer (some ⟨b, 0, none⟩), .string (s.extract en right)] w3 fun e w' => e = .returned (.tuple #[.int .i64 (s.extract en right).size, .nilIface]) ∧ Bld b (acc ++ (s.extract left st).data.toList ++ urlL true (s.extract st en).data.toList ++ (s.extract en right).data.toList) w' ∧ Below b w3 w') := Lib.hid fun w3 h =>
              write_calls b _ (s.extract en right) w3 h (by rw [List.length_append, List.length_append]; omega)
            clear hz1 hz2 hz3 hl1 hl3 hlu hs1 hs2
            go_wp2_with (first
              | (go_at_call 38; refine HW1.out.mono ?_; rintro e w2 ⟨rfl, hB2, hb3⟩; clear HW1)
              | (go_at_call 34; refine (HPR.out _ hB2).mono ?_; rintro e w3 ⟨rfl, hB3, hb4⟩; clear HPR)
              | (go_at_call 38; refine (HW3.out _ hB3).mono ?_; rintro e w4 ⟨rfl, hB4, hb5⟩))
            refine bodyPost_ret (results_none rfl _ _ _) rfl ?_
            refine ⟨rfl, ?_, (((hb2.mono (by omega)).trans hb3).trans hb4).trans hb5⟩
            have h9 := HEL.out
            simp only [Bool.and_self, if_true] at h9
            rw [h9, ← List.append_assoc, ← List.append_assoc]
            exact hB4
end Go.Proofs.YtolamblmfejhoaaDoor
