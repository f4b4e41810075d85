/- The package's nextJSCtx at ASCII bytes: a word, or what is no operator. -/
import Derived.Test.YtolamblmfejhoaaDoorTrC
import Derived.Test.YtolamblmfejhoaaDoorKwd
import Derived.Test.YtolamblmfejhoaaDoorHtmlA
import Derived.Deep.LoopGhost
import Derived.Lib.SlBytesConst
import Derived.Deep.Cut
import Derived.Deep.CutBlock
import Derived.Deep.DeepCutAuto
namespace Go.Proofs.YtolamblmfejhoaaDoor
open Go.RowKit
set_option linter.unusedVariables false
set_option linter.unusedSimpArgs false

/-- Whether the first k bytes end with a point. -/
def dotB (s : Bytes) (k : Nat) : Bool := decide (0 < k) && at0 s (k - 1) == 46
theorem isSuffix_dot (l : List UInt8) : ([46] : List UInt8).isSuffixOf l = (decide (0 < l.length) && l.getD (l.length - 1) 0 == 46) := by
  rcases List.eq_nil_or_concat l with rfl | ⟨t, x, rfl⟩
  · rfl
  · rw [Bool.eq_iff_iff, List.isSuffixOf_iff_suffix]
    simp
    exact ⟨fun h => h.symm, fun h => h.symm⟩
theorem hs_dot (b k cap b2 : Nat) (S : ByteArray) (w : World) (hB : By b S w) (hk : k ≤ S.size) (hz : (S.size : Int) ≤ 17179869184) (hcap : k ≤ cap) (h2 : w.cell? ⟨b2, 0, none⟩ = some (.int .u8 46)) :
    Calls Tryd.prog 43 #[.slice (some ⟨b, 0, none⟩) k cap, .slice (some ⟨b2, 0, none⟩) 1 1] w fun e w' => e = .returned (.bool (dotB S.data.toList k)) ∧ w = w' := by
  have hl : S.data.toList.length = S.size := by simp
  have hxl : ((S.data.toList.take k).map (fun x => (x.toNat : Int))).length = k := by rw [List.length_map, List.length_take]; omega
  refine (Tryd.bytes_HasSuffix b 0 k cap b2 0 1 1 ((S.data.toList.take k).map (fun x => (x.toNat : Int))) [46] w hxl rfl hcap (by omega) ?_ ?_).mono ?_
  · intro i hi
    have := hB.2 i (by omega)
    rw [Nat.zero_add, this]
    have e : (S.data.toList.take k)[i]? = some (S[i]'(by omega)) := by
      rw [List.getElem?_take_of_lt hi, List.getElem?_eq_getElem (by omega)]
      rfl
    rw [List.getD_eq_getElem?_getD, List.getElem?_map, e]
    rfl
  · intro i hi
    obtain rfl : i = 0 := by omega
    exact h2
  · rintro e w' ⟨rfl, rfl⟩
    refine ⟨ret_bool ?_, rfl⟩
    have e1 : Lib.bytesOf ((S.data.toList.take k).map (fun x => (x.toNat : Int))) = S.data.toList.take k := by
      unfold Lib.bytesOf
      rw [List.map_map]
      conv => rhs; rw [← List.map_id (S.data.toList.take k)]
      refine List.map_congr_left fun x _ => ?_
      simp
    rw [e1]
    show ([46] : List UInt8).isSuffixOf (S.data.toList.take k) = _
    have hlt : (S.data.toList.take k).length = k := by rw [List.length_take]; omega
    rw [isSuffix_dot, hlt]
    unfold dotB
    by_cases h0 : 0 < k
    · congr 1
      unfold at0
      rw [List.getD_eq_getElem?_getD, List.getD_eq_getElem?_getD, List.getElem?_take_of_lt (by omega), Bool.eq_iff_iff, beq_iff_eq, beq_iff_eq, ← UInt8.toNat_inj]
      rfl
    · simp [h0]

theorem and1 (a : Nat) (ha : a < 9223372036854775808) : bits .and .i64 (a : Int) 1 = ((a % 2 : Nat) : Int) := by
  have e1 : (BitVec.ofInt 64 (a : Int)).toNat = a := by rw [BitVec.toNat_ofInt]; omega
  have e2 : (BitVec.ofInt 64 (1 : Int)).toNat = 1 := by rw [BitVec.toNat_ofInt]; rfl
  show IntKind.i64.wrap ((BitVec.ofInt 64 (a : Int) &&& BitVec.ofInt 64 (1 : Int)).toNat : Int) = _
  rw [BitVec.toNat_and, e1, e2, Nat.and_one_is_mod, IntKind.wrap_i64]
  omega
theorem By.len {b : Nat} {S : ByteArray} {w : World} (h : By b S w) : S.data.toList.length = S.size := by simp

set_option maxRecDepth 100000 in
set_option maxHeartbeats 400000 in
theorem nextJS_def (b cap before m c : Nat) (S : ByteArray) (w : World) (hz : (S.size : Int) ≤ 17179869184) (hcap : S.size ≤ cap) (hm : m < S.size)
    (htr : Calls Tryd.prog 40 #[.slice (some ⟨b, 0, none⟩) S.size cap, .string wsC] w fun e w' => e = .returned (.slice (some ⟨b, 0, none⟩) (m + 1) cap) ∧ Below w.heap.size w w')
    (hB : By b S w) (hA : Ascii S) (hc : at0 S.data.toList m = c) (hc128 : c < 128) (hpm : ¬ (c = 43 ∨ c = 45)) (h46 : ¬ c = 46) (hzs : ¬ hasB zeroSet c = true) :
    Calls Tryd.prog 30 #[.slice (some ⟨b, 0, none⟩) S.size cap, .int .u8 before] w fun e w' =>
      e = .returned (.int .u8 ((if isKeyP (part S.data.toList (back identB S.data.toList (m + 1)) (m + 1)) = true ∧ ¬ (0 < back blankJ S.data.toList (back identB S.data.toList (m + 1)) ∧ at0 S.data.toList (back blankJ S.data.toList (back identB S.data.toList (m + 1)) - 1) = 46) then 0 else 1 : Nat) : Int)) ∧ Below w.heap.size w w' := by
  have HTR := Lib.hid htr
  have HB := Lib.hid hB
  have HA := Lib.hid hA
  have HCL : Hid (∀ w1, Below w.heap.size w w1 → w1.cell? ⟨b, m, none⟩ = some (.int .u8 (c : Int))) := Lib.hid fun w1 h => by
    have := (HB.out.below h).2 m hm
    rw [← at0_get S m hm, hc] at this; exact this
  have HCK : Hid (∀ w1, Below w.heap.size w w1 → ∀ k (hk : k < S.size), w1.cell? ⟨b, k, none⟩ = some (.int .u8 (at0 S.data.toList k : Int))) := Lib.hid fun w1 h k hk => by
    have := (HB.out.below h).2 k hk
    rw [← at0_get S k hk] at this; exact this
  obtain ⟨j0, hj0⟩ : ∃ j0, back identB S.data.toList (m + 1) = j0 := ⟨_, rfl⟩
  have hjm : j0 ≤ m + 1 := hj0 ▸ back_le _ _ _
  rw [hj0]
  obtain ⟨R, hR⟩ : ∃ R : Nat, (if isKeyP (part S.data.toList j0 (m + 1)) = true ∧ ¬ (0 < back blankJ S.data.toList j0 ∧ at0 S.data.toList (back blankJ S.data.toList j0 - 1) = 46) then 0 else 1 : Nat) = R := ⟨_, rfl⟩
  rw [hR]
  have HR := Lib.hid hR
  clear hR
  have HJ0 := Lib.hid hj0
  clear hj0 htr hB hA hc
  have hcs : ((c : Int) == 43) = false ∧ ((c : Int) == 45) = false ∧ ((c : Int) == 46) = false ∧ ((c : Int) == 44) = false ∧ ((c : Int) == 60) = false ∧ ((c : Int) == 62) = false ∧ ((c : Int) == 61) = false ∧ ((c : Int) == 42) = false ∧ ((c : Int) == 37) = false ∧ ((c : Int) == 38) = false ∧ ((c : Int) == 124) = false ∧ ((c : Int) == 94) = false ∧ ((c : Int) == 63) = false ∧ ((c : Int) == 33) = false ∧ ((c : Int) == 126) = false ∧ ((c : Int) == 40) = false ∧ ((c : Int) == 91) = false ∧ ((c : Int) == 58) = false ∧ ((c : Int) == 59) = false ∧ ((c : Int) == 123) = false ∧ ((c : Int) == 125) = false := by
    unfold hasB zeroSet at hzs
    simp at hzs
    simp only [beq_eq_false_iff_ne]
    omega
  clear hzs hpm h46
  have hm1 : ((m : Int) + 1 == 0) = false := beq_eq_false_iff_ne.2 (by omega)
  obtain ⟨n0, n1, n2, n3, n4, n5, n6, n7, n8, n9, n10, n11, n12, n13, n14, n15, n16, n17, n18, n19, n20⟩ := hcs
  go_enter Tryd.func30, Tryd.ntmps30
  go_upto_block 1 with (go_at_call 40; refine HTR.out.mono ?_; rintro e w1 ⟨rfl, hb1⟩; have hcl := HCL.out w1 hb1)
  go_cut [8] from 27 to 39 (fun s8 wx => w1 = wx ∧ s8 = .int .i64 j0)
  case first =>
    go_wp2_with fail
    go_loopg [8] (m + 1) (fun g s8 wx => w1 = wx ∧ s8 = .int .i64 g ∧ g ≤ m + 1 ∧ Hid (back identB S.data.toList g = j0))
    case atStart => exact ⟨rfl, by first | rfl | simp, Nat.le_refl _, HJ0⟩
    case round =>
      obtain ⟨rfl, rfl, hg, HI⟩ := hrel
      cases gk with
      | zero =>
        have hk : j0 = 0 := HI.out.symm
        go_wp2_with fail
        go_meet
        exact ⟨rfl, by rw [hk]⟩
      | succ g =>
        have hcg := HCK.out w1 hb1 g (by omega)
        obtain ⟨x, hx⟩ : ∃ x, at0 S.data.toList g = x := ⟨_, rfl⟩
        have hx128 : x < 128 := by
          have := HA.out g (by omega)
          rw [← at0_get S g (by omega), hx] at this
          exact this
        rw [hx] at hcg
        have HID := Lib.hid (identPart_any x (by omega) w1)
        obtain ⟨bl, hbl⟩ : ∃ bl, identB x = bl := ⟨_, rfl⟩
        rw [hbl] at HID
        have h2 := HI.out
        cases bl with
        | true =>
          rw [back_step _ _ g (by rw [hx]; exact hbl)] at h2
          have HI2 := Lib.hid h2
          clear h2 HI hx hbl
          go_wp2_with (go_at_call 41; refine HID.out.mono ?_; rintro e w2 ⟨rfl, rfl⟩)
          go_roundg g
          case measure => omega
          case rel => exact ⟨rfl, rfl, by omega, HI2⟩
        | false =>
          have hk : j0 = g + 1 := by rw [← h2]; exact back_here _ _ (g + 1) (fun _ => by rw [Nat.add_sub_cancel, hx]; exact hbl)
          clear h2 HI hx hbl
          go_wp2_with (go_at_call 41; refine HID.out.mono ?_; rintro e w2 ⟨rfl, rfl⟩)
          go_meet
          exact ⟨rfl, by rw [hk]; rfl⟩
  case rest =>
    obtain ⟨rfl, rfl⟩ := hcut
    have hml : (j0 : Int) ≤ (m : Int) + 1 := by omega
    by_cases hj : j0 = m + 1
    · subst hj
      have hcv : ∀ (a : Addr) (c' : Nat) (W : World), (convert 37 9 (.slice (some a) 0 c')).run Tryd.prog W = .ok (.string ⟨#[]⟩) W := fun a c' W => run_convert_bytes_back (P := Tryd.prog) W 37 9 5 a c' [] Tryd.underlying37 Tryd.underlying5 Tryd.underlying9 (fun j hj => by cases hj)
      have HK := Lib.hid (keywords_any ⟨#[]⟩ w1)
      have hpt : part S.data.toList (m + 1) (m + 1) = [] := by unfold part; rw [List.drop_eq_nil_iff, List.length_take]; omega
      have hno : isKeyP ([] : Bytes) = false := by decide
      rw [show ((⟨#[]⟩ : ByteArray).data.toList) = [] from rfl, hno] at HK
      have hR1 : R = 1 := by rw [← HR.out, hpt, if_neg (fun h => by rw [hno] at h; cases h.1)]
      by_cases hjc : m + 1 = cap
      all_goals
        go_upto_region 10 with (go_at_call 42; refine HK.out.mono ?_; rintro e w2 ⟨rfl, rfl⟩)
        refine wp_region_list ?_
        repeat (first | go_guarded | go_step)
        go_ret
        exact ⟨by rw [hR1]; rfl, hb1⟩
    · have hjc : ¬ (j0 = cap) := by omega
      have hjlt : j0 < m + 1 := by omega
      have hlen : (S.extract j0 (m + 1)).data.toList.length = m + 1 - j0 := by
        rw [extract_mid, List.length_take, List.length_drop]
        have : S.data.toList.length = S.size := by simp
        omega
      have hpt : (S.extract j0 (m + 1)).data.toList = part S.data.toList j0 (m + 1) := by
        rw [extract_mid]
        unfold part
        rw [List.drop_take]
      have hcv : (convert 37 9 (.slice (some ⟨b, j0, none⟩) (m + 1 - j0) (cap - j0))).run Tryd.prog w1 = .ok (.string (S.extract j0 (m + 1))) w1 := by
        have h := run_convert_bytes_back (P := Tryd.prog) w1 37 9 5 ⟨b, j0, none⟩ (cap - j0) (S.extract j0 (m + 1)).data.toList Tryd.underlying37 Tryd.underlying5 Tryd.underlying9 (fun j hj => by
          have hk := HCK.out w1 hb1 (j0 + j) (by omega)
          rw [Addr.add_lit, hk]
          congr 3
          have e : (S.extract j0 (m + 1)).data.toList[j]? = S.data.toList[j0 + j]? := by
            rw [hpt]
            unfold part
            rw [List.getElem?_drop, List.getElem?_take_of_lt (by omega)]
          unfold at0
          rw [List.getD_eq_getElem?_getD, ← e, List.getElem?_eq_getElem hj]
          rfl)
        rw [hlen] at h
        exact h
      obtain ⟨WD, hWD⟩ : ∃ WD, S.extract j0 (m + 1) = WD := ⟨_, rfl⟩
      rw [hWD] at hcv hpt
      have HK := Lib.hid (keywords_any WD w1)
      rw [hpt] at HK
      obtain ⟨kb, hkb⟩ : ∃ kb, isKeyP (part S.data.toList j0 (m + 1)) = kb := ⟨_, rfl⟩
      rw [hkb] at HK
      have HR2 := HR.out
      rw [hkb] at HR2
      clear hWD hpt hlen hkb
      cases kb with
      | false =>
        have hR1 : R = 1 := by rw [← HR2, if_neg (fun h => by cases h.1)]
        go_upto_region 10 with (go_at_call 42; refine HK.out.mono ?_; rintro e w2 ⟨rfl, rfl⟩)
        refine wp_region_list ?_
        repeat (first | go_guarded | go_step)
        go_ret
        exact ⟨by rw [hR1]; rfl, hb1⟩
      | true =>
        obtain ⟨k1, hk1⟩ : ∃ k1, back blankJ S.data.toList j0 = k1 := ⟨_, rfl⟩
        have hk1j : k1 ≤ j0 := hk1 ▸ back_le _ _ _
        have htr2 := trimRight_any b j0 cap S w1 (HB.out.below hb1) HA.out (by omega) hz (by omega)
        rw [hk1] at htr2 HR2
        have HTR2 := Lib.hid htr2
        have HBB := Lib.hid (HB.out.below hb1)
        clear htr2 hk1
        have hcc : ∀ (W : World), (convert 37 37 (.slice (some ⟨W.heap.size, 0, none⟩) 1 1)).run Tryd.prog (W.alloc (.cells #[.int .u8 46] 5)) = .ok (.slice (some ⟨W.heap.size, 0, none⟩) 1 1) (W.alloc (.cells #[.int .u8 46] 5 (1, 2))) := fun W => Lib.run_convert_bytes_const W 37 5 #[.int .u8 46] 1 1 Tryd.underlying37 Tryd.underlying5
        obtain ⟨db, hdb⟩ : ∃ db, dotB S.data.toList k1 = db := ⟨_, rfl⟩
        have hR1 : R = if db = true then 1 else 0 := by
          rw [← HR2, ← hdb]
          unfold dotB
          by_cases h1 : 0 < k1 <;> by_cases h2 : at0 S.data.toList (k1 - 1) = 46 <;> simp [h1, h2]
        have HSD : Hid (∀ w3, Below w1.heap.size w1 w3 → Calls Tryd.prog 43 #[.slice (some ⟨b, 0, none⟩) k1 cap, .slice (some ⟨w3.heap.size, 0, none⟩) 1 1] (w3.alloc (.cells #[.int .u8 46] 5 (1, 2))) fun e w' => e = .returned (.bool db) ∧ w3.alloc (.cells #[.int .u8 46] 5 (1, 2)) = w') := Lib.hid fun w3 hb3 => by
          have := hs_dot b k1 cap w3.heap.size S (w3.alloc (.cells #[.int .u8 46] 5 (1, 2))) ((HBB.out.below hb3).below ((Below.refl _ w3).alloc (Nat.le_refl _) _)) (by omega) hz (by omega) (by rw [Lib.cell_of_heap (heap_alloc_new w3 _)]; rfl)
          rwa [hdb] at this
        clear hdb HR2
        cases db
        all_goals
          go_upto_region 10 with (go_at_call 42; refine HK.out.mono ?_; rintro e w2 ⟨rfl, rfl⟩)
          refine wp_region_list ?_
          repeat (first | (go_at_call 40; refine HTR2.out.mono ?_; rintro e w3 ⟨rfl, hb3⟩; dsimp only) | (go_at_call 43; refine (HSD.out w3 hb3).mono ?_; rintro e w4 ⟨rfl, rfl⟩; dsimp only) | go_guarded | go_step | go_upon)
          go_ret
          exact ⟨by rw [hR1]; rfl, hb1.trans ((hb3.alloc hb3.size _).mono hb1.size)⟩
end Go.Proofs.YtolamblmfejhoaaDoor
