/- The reference's lower. -/
import Derived.Test.YtolamblmfejhoaaDoorCom
import Derived.Lib.Case
import Derived.Lib.ConvBytes
import Derived.LoopTactic
namespace Go.Proofs.YtolamblmfejhoaaDoor
open Go.RowKit
set_option linter.unusedVariables false
set_option linter.unusedSimpArgs false

/-- The first k bytes in small letters. -/
def lowTo (l : Bytes) (k : Nat) : Bytes := Lib.toLowerA (l.take k) ++ l.drop k
theorem lowTo_len (l : Bytes) (k : Nat) : (lowTo l k).length = l.length := by
  unfold lowTo Lib.toLowerA; simp; omega
theorem lowTo_zero (l : Bytes) : lowTo l 0 = l := by simp [lowTo, Lib.toLowerA]
theorem lowTo_end (l : Bytes) (k : Nat) (h : l.length ≤ k) : lowTo l k = Lib.toLowerA l := by
  unfold lowTo; rw [List.take_of_length_le h, List.drop_of_length_le h, List.append_nil]
theorem lowTo_at (l : Bytes) (k i : Nat) (b : UInt8) (h : l[i]? = some b) : (lowTo l k)[i]? = some (if i < k then Lib.lowerB b else b) := by
  have hi : i < l.length := (List.getElem?_eq_some_iff.1 h).1
  unfold lowTo Lib.toLowerA
  by_cases hik : i < k
  · rw [List.getElem?_append_left (by simp; omega), if_pos hik, List.getElem?_map, List.getElem?_take_of_lt hik, h]; rfl
  · rw [List.getElem?_append_right (by simp; omega), if_neg hik, List.getElem?_drop]
    have : k + (i - ((l.take k).map Lib.lowerB).length) = i := by simp; omega
    rw [this, h]
/-- Block b holds the text with its first k bytes in small letters. -/
structure LowAt (w0 : World) (l : Bytes) (b k : Nat) (w : World) : Prop where
  below : Below b w0 w
  cells : ∀ i, i < l.length → w.cell? ⟨b, i, none⟩ = some (.int .u8 (((lowTo l k).getD i 0).toNat : Int))
  free : ∀ i, i < l.length → w.frozen? ⟨b, i, none⟩ = false
theorem getD_at (l : Bytes) (i : Nat) (b : UInt8) (h : l[i]? = some b) : l.getD i 0 = b := by rw [List.getD_eq_getElem?_getD, h]; rfl
theorem LowAt.here {w0 w : World} {l : Bytes} {b k : Nat} (h : LowAt w0 l b k w) (x : UInt8) (hx : l[k]? = some x) : w.cell? ⟨b, k, none⟩ = some (.int .u8 (x.toNat : Int)) := by
  have hi : k < l.length := (List.getElem?_eq_some_iff.1 hx).1
  rw [h.cells k hi, getD_at _ _ _ (lowTo_at l k k x hx), if_neg (by omega)]
theorem LowAt.keep {w0 w : World} {l : Bytes} {b k : Nat} (h : LowAt w0 l b k w) (x : UInt8) (hx : l[k]? = some x) (hu : Lib.isUpperB x = false) : LowAt w0 l b (k + 1) w := by
  refine ⟨h.below, fun i hi => ?_, h.free⟩
  rw [h.cells i hi]
  obtain ⟨y, hy⟩ : ∃ y, l[i]? = some y := ⟨l[i], List.getElem?_eq_getElem hi⟩
  rw [getD_at _ _ _ (lowTo_at l k i y hy), getD_at _ _ _ (lowTo_at l (k + 1) i y hy)]
  by_cases e : i = k
  · subst e
    rw [hx] at hy
    obtain rfl := Option.some.inj hy
    rw [if_neg (by omega), if_pos (by omega), Lib.lowerB_of_not x hu]
  · by_cases h1 : i < k
    · rw [if_pos h1, if_pos (by omega)]
    · rw [if_neg h1, if_neg (by omega)]
theorem LowAt.put {w0 w : World} {l : Bytes} {b k : Nat} (h : LowAt w0 l b k w) (x : UInt8) (hx : l[k]? = some x) (v : Int) (hv : v = ((Lib.lowerB x).toNat : Int)) : LowAt w0 l b (k + 1) (w.setCell ⟨b, k, none⟩ (.int .u8 v)) := by
  subst hv
  have hk : k < l.length := (List.getElem?_eq_some_iff.1 hx).1
  refine ⟨h.below.setCell (Nat.le_refl _) _, fun i hi => ?_, fun i hi => ?_⟩
  · obtain ⟨y, hy⟩ : ∃ y, l[i]? = some y := ⟨l[i], List.getElem?_eq_getElem hi⟩
    by_cases e : i = k
    · subst e
      rw [hx] at hy
      obtain rfl := Option.some.inj hy
      rw [World.cell?_setCell_same w ⟨b, i, none⟩ _ (h.cells i hi), getD_at _ _ _ (lowTo_at l (i + 1) i x hx), if_pos (by omega)]
    · rw [World.cell?_setCell_other w ⟨b, k, none⟩ ⟨b, i, none⟩ _ (by intro e2; apply e; simpa using e2.symm), h.cells i hi, getD_at _ _ _ (lowTo_at l k i y hy), getD_at _ _ _ (lowTo_at l (k + 1) i y hy)]
      by_cases h1 : i < k
      · rw [if_pos h1, if_pos (by omega)]
      · rw [if_neg h1, if_neg (by omega)]
  · rw [World.frozen?_setCell]; exact h.free i hi
theorem LowAt.conv {w0 w : World} {l : Bytes} {b n cap : Nat} (h : LowAt w0 l b n w) (hn : n = l.length) :
    (convert 37 9 (.slice (some ⟨b, 0, none⟩) n cap)).run Tryd.prog w = .ok (.string ⟨(Lib.toLowerA l).toArray⟩) w := by
  have hl : (Lib.toLowerA l).length = n := by rw [hn]; simp [Lib.toLowerA]
  rw [← hl]
  refine run_convert_bytes_back _ _ _ 5 _ _ (Lib.toLowerA l) Tryd.underlying37 Tryd.underlying5 Tryd.underlying9 (fun j hj => ?_)
  have e : Addr.add ⟨b, 0, none⟩ j = ⟨b, j, none⟩ := by
    by_cases h0 : j = 0
    · subst h0; rfl
    · simp [Addr.add, h0]
  rw [e, h.cells j (by omega), lowTo_end l n (by omega)]
  rw [List.getD_eq_getElem?_getD, List.getElem?_eq_getElem hj]
  rfl
theorem low_start (w : World) (s : ByteArray) : LowAt w s.data.toList w.heap.size 0 (Lib.bytesWorld w 5 s) := by
  have hl : s.data.toList.length = s.size := by simp
  refine ⟨⟨rfl, rfl, rfl, by rw [Lib.bytesWorld_size]; omega, fun k hk => Lib.bytesWorld_at_old _ _ _ _ hk⟩, fun i hi => ?_, fun i hi => ?_⟩
  · rw [Lib.bytesWorld_cell w _ s i (by omega), lowTo_zero]
  · have h2 := Lib.bytesWorld_at_new w 5 s
    have h3 : i < (Lib.bytesCells w 5 s).size := by unfold Lib.bytesCells; simp; have e : s.data.size = s.size := rfl; omega
    simp [World.frozen?, h2]
    omega

set_option maxRecDepth 100000 in
set_option maxHeartbeats 2000000 in
theorem lower_any (s : ByteArray) (w : World) (hs : (s.size : Int) ≤ 17179869184) :
    Calls Tryd.prog 16 #[.string s] w fun e w' => RetStr (Lib.toLowerA s.data.toList) e ∧ Below w.heap.size w w' := by
  have HL : Hid (s.data.toList.length = s.size) := Lib.hid (by simp)
  have hcv : ∀ (W : World) (S : ByteArray), (convert 9 37 (.string S)).run Tryd.prog W = .ok (.slice (some ⟨W.heap.size, 0, none⟩) S.size (grownCap W S.size 0 5)) (Lib.bytesWorld W 5 S) := fun W S => Lib.run_convert_string_bytes W 9 37 5 S Tryd.underlying9 Tryd.underlying37 Tryd.underlying5
  go_enter Tryd.func16, Tryd.ntmps16
  go_wp2_with fail
  go_loopw [10] (fun i wr => ∃ k : Nat, k ≤ s.size ∧ i = .int .i64 k ∧ LowAt w s.data.toList w.heap.size k wr) (fun i _ => s.size - (intOf i).toNat)
  case atStart => exact ⟨0, Nat.zero_le _, rfl, low_start w s⟩
  case round =>
    obtain ⟨k, hk, rfl, H0⟩ := hrel
    have H := Lib.hid H0
    by_cases hlt : k < s.size
    · have HX : Hid (s.data.toList[k]? = some s[k]) := Lib.hid (by rw [List.getElem?_eq_getElem (by simpa using hlt)]; rfl)
      have hck := H0.here _ HX.out
      have hfk := H0.free k (by rw [HL.out]; exact hlt)
      clear H0
      obtain ⟨x, hx⟩ : ∃ x, x = s[k] := ⟨_, rfl⟩
      rw [← hx] at hck HX
      clear hx
      have HU := Lib.hid (Lib.isUpperB_int x)
      by_cases c1 : (65 : Int) ≤ x.toNat
      · by_cases c2 : (x.toNat : Int) ≤ 90
        · have HV : Hid ((x.toNat : Int) + 32 = ((Lib.lowerB x).toNat : Int)) := Lib.hid (Lib.lowerB_int x (by rw [HU.out]; simp [c1, c2])).symm
          go_wp2_with fail
          go_roundw
          case rel => exact ⟨k + 1, by omega, by go_num, H.out.put x HX.out _ (by first | exact HV.out | (rw [← HV.out]; omega))⟩
          case measure => simp [intOf]; omega
        · have HV : Hid (Lib.isUpperB x = false) := Lib.hid (by rw [HU.out]; simp; omega)
          go_wp2_with fail
          go_roundw
          case rel => exact ⟨k + 1, by omega, by go_num, H.out.keep x HX.out HV.out⟩
          case measure => simp [intOf]; omega
      · have HV : Hid (Lib.isUpperB x = false) := Lib.hid (by rw [HU.out]; simp; omega)
        go_wp2_with fail
        go_roundw
        case rel => exact ⟨k + 1, by omega, by go_num, H.out.keep x HX.out HV.out⟩
        case measure => simp [intOf]; omega
    · clear H0
      obtain rfl : k = s.size := by omega
      have hcv2 := fun cap => H.out.conv (cap := cap) HL.out.symm
      go_wp2_with fail
      go_ret
      exact ⟨⟨_, rfl, by simp⟩, H.out.below⟩
end Go.Proofs.YtolamblmfejhoaaDoor
