/- CSS: the thin package's DecodeCSS. -/
import Derived.Test.YtigobehhmodoiaaDoorDecC
import Derived.Test.YtigobehhmodoiaaDoorCom
import Derived.Lib.ConvBytes
namespace Go.Proofs.YtigobehhmodoiaaDoor
open Go.Shelf Go.RowKit
set_option linter.unusedVariables false
set_option linter.unusedSimpArgs false

theorem Dst.conv {w : World} {B N : Nat} {acc : Bytes} {wr : World} (h : Dst w B N acc wr) (hN : acc.length ≤ N) :
    (convert 34 9 (.slice (some ⟨B, 0, none⟩) acc.length N)).run Tryd.prog wr = .ok (.string ⟨acc.toArray⟩) wr := by
  refine run_convert_bytes_back _ _ _ 5 _ _ acc Tryd.underlying34 Tryd.underlying5 Tryd.underlying9 (fun j hj => ?_)
  have e : Addr.add ⟨B, 0, none⟩ j = ⟨B, j, none⟩ := by
    by_cases h0 : j = 0
    · subst h0; rfl
    · simp [Addr.add, h0]
  rw [e]
  exact h.holds j _ (List.getElem?_eq_getElem hj)
theorem SrcAt.conv {b c : Nat} {S : ByteArray} {w : World} (h : SrcAt b S.data.toList w) :
    (convert 34 9 (.slice (some ⟨b, 0, none⟩) S.size c)).run Tryd.prog w = .ok (.string ⟨S.data.toList.toArray⟩) w := by
  have hl : S.data.toList.length = S.size := by simp
  rw [← hl]
  refine run_convert_bytes_back _ _ _ 5 _ _ S.data.toList Tryd.underlying34 Tryd.underlying5 Tryd.underlying9 (fun j hj => ?_)
  have e : Addr.add ⟨b, 0, none⟩ j = ⟨b, j, none⟩ := by
    by_cases h0 : j = 0
    · subst h0; rfl
    · simp [Addr.add, h0]
  rw [e, h j hj]
  unfold at0
  rw [List.getD_eq_getElem?_getD, List.getElem?_eq_getElem hj]
  rfl
theorem src_bytes (w : World) (s : ByteArray) : SrcAt w.heap.size s.data.toList (Lib.bytesWorld w 5 s) := by
  intro i hi
  exact Lib.bytesWorld_cell w 5 s i (by simpa using hi)
theorem bytes_below (w : World) (s : ByteArray) : Below w.heap.size w (Lib.bytesWorld w 5 s) :=
  ⟨rfl, rfl, rfl, by rw [Lib.bytesWorld_size]; omega, fun k hk => Lib.bytesWorld_at_old _ _ _ _ hk⟩
theorem styleL_le : ∀ (n : Nat) (l w : Bytes), l.length ≤ n → styleL l = some w → w.length ≤ l.length
  | 0, l, w, h, e => by
    have : l = [] := List.eq_nil_of_length_eq_zero (by omega)
    subst this
    rw [styleL_nil] at e
    rw [← Option.some.inj e]; exact Nat.le_refl _
  | n + 1, [], w, h, e => by
    rw [styleL_nil] at e
    rw [← Option.some.inj e]; exact Nat.le_refl _
  | n + 1, b :: t, w, h, e => by
    rw [List.length_cons] at h
    by_cases hb : b.toNat = 92
    · have hb2 : b = 92 := UInt8.toNat_inj.1 hb
      subst hb2
      rcases dec_esc t w e with ⟨k, v, w3, h1, h2, h3, h4, h5, h6, h7, h8, h9, h10⟩ | ⟨h1, h2, h3, w3, h4, h5⟩
      · have := styleL_le n _ w3 (by rw [List.length_drop]; omega) h8
        rw [List.length_drop] at this
        have hs := blankSkip_le (t.drop k)
        rw [List.length_drop] at hs
        rw [h9, List.length_append, List.length_cons]
        omega
      · have := styleL_le n _ w3 (by rw [List.length_drop]; omega) h4
        rw [List.length_drop] at this
        have hs := sizeL_le t h1
        rw [h5, List.length_append, List.length_cons, List.length_take]
        omega
    · rw [styleL_byte b t hb] at e
      obtain ⟨w2, h2, h3⟩ := Option.map_eq_some_iff.1 e
      have := styleL_le n t w2 (by omega) h2
      rw [← h3, List.length_cons, List.length_cons]; omega

set_option maxRecDepth 100000 in
set_option maxHeartbeats 4000000 in
theorem zzDecode_any (s : ByteArray) (W : Bytes) (w : World) (hT : Tabs w) (hs : (s.size : Int) ≤ 17179869184) (hW : styleL s.data.toList = some W) :
    Calls Tryd.prog 48 #[.string s] w fun e w' => RetStr W e ∧ Below w.heap.size w w' := by
  have hcv : ∀ (W : World) (S : ByteArray), (convert 9 34 (.string S)).run Tryd.prog W = .ok (.slice (some ⟨W.heap.size, 0, none⟩) S.size (grownCap W S.size 0 5)) (Lib.bytesWorld W 5 S) := fun W S => Lib.run_convert_string_bytes W 9 34 5 S Tryd.underlying9 Tryd.underlying34 Tryd.underlying5
  obtain ⟨c, hc⟩ : ∃ c, grownCap w s.size 0 5 = c := ⟨_, rfl⟩
  have hc1 : s.size ≤ c := by rw [← hc]; exact grownCap_ge _ _ _ _
  have hc2 : (c : Int) ≤ 9223372036854775807 := by
    have := grownCap_le_maxLen w s.size 0 5 (maxLen_of hs)
    rw [hc] at this
    unfold maxLen at this
    omega
  have hcv1 := hcv w s
  rw [hc] at hcv1
  clear hcv
  have hbw := bytes_below w s
  have hsz := Lib.bytesWorld_size w 5 s
  have hsrc := src_bytes w s
  have hl : s.data.toList.length = s.size := by simp
  have hT1 := hT.keep hbw (Nat.le_refl _)
  by_cases h92 : (plainRun s.data.toList).length < s.size
  · have HD := Lib.hid (decode_some w.heap.size c s W (Lib.bytesWorld w 5 s) (by omega) hsrc hT1 hs hc1 hc2 h92 hW)
    have hWl : W.length ≤ s.size := by rw [← hl]; exact styleL_le _ _ W (Nat.le_refl _) hW
    have HWL := Lib.hid hWl
    have HBW := Lib.hid hbw
    rw [hsz] at HD
    clear hW h92 hs hc hc1 hc2 hsrc hl hWl hT1 hbw
    go_enter Tryd.func48, Tryd.ntmps48
    go_wp2_with (go_at_call 71; refine HD.out.mono ?_; rintro e w2 ⟨rfl, hD⟩; have hcv3 := hD.conv HWL.out; have HD2 := Lib.hid hD; clear hD)
    go_ret
    exact ⟨⟨_, rfl, by simp⟩, HBW.out.trans (HD2.out.below.mono (by omega))⟩
  · have hpl : plainRun s.data.toList = s.data.toList := by
      have h1 := (plainRun_split s.data.toList).1
      have h2 : s.data.toList.drop (plainRun s.data.toList).length = [] := List.drop_of_length_le (by rw [hl]; omega)
      rw [h2, List.append_nil] at h1
      exact h1.symm
    have hno : ∀ x ∈ s.data.toList, x ≠ 92 := by
      intro x hx e
      rw [← hpl] at hx
      exact (plainRun_split s.data.toList).2.1 x hx (by rw [e]; rfl)
    have hWs : W = s.data.toList := by
      have h3 := styleL_plain s.data.toList [] (fun b hb e => hno b hb (UInt8.toNat_inj.1 e))
      rw [List.append_nil, hW, styleL_nil] at h3
      simpa using h3
    have HD := Lib.hid (decode_none w.heap.size c s (Lib.bytesWorld w 5 s) hsrc hno)
    have hcv3 := hsrc.conv (c := c)
    have HBW := Lib.hid hbw
    have HWS := Lib.hid hWs
    clear hW h92 hs hc hc1 hc2 hsrc hl hT1 hbw hno hpl hWs
    go_enter Tryd.func48, Tryd.ntmps48
    go_wp2_with (go_at_call 71; refine HD.out.mono ?_; rintro e w2 ⟨rfl, rfl⟩)
    go_ret
    exact ⟨⟨_, rfl, by rw [HWS.out]⟩, HBW.out⟩
set_option maxRecDepth 100000 in
theorem decodeCSS_any (s : ByteArray) (W : Bytes) (w : World) (hT : Tabs w) (hs : (s.size : Int) ≤ 17179869184) (hW : styleL s.data.toList = some W) :
    Calls Tryd.prog 22 #[.string s] w fun e w' => RetStr W e ∧ Below w.heap.size w w' := by
  have HC := Lib.hid (fun w hT => zzDecode_any s W w hT hs hW)
  clear hs hW
  go_enter Tryd.func22, Tryd.ntmps22
  go_wp2_with (go_at_call 48; refine (HC.out _ hT).mono ?_; rintro e w' ⟨⟨v, rfl, hv⟩, hb⟩)
  go_ret
  exact ⟨⟨v, rfl, hv⟩, hb⟩
end Go.Proofs.YtigobehhmodoiaaDoor
