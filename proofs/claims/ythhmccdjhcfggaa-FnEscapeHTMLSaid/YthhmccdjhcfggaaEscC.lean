/- text/template's HTMLEscape, HTMLEscapeString. -/
import Derived.Test.YthhmccdjhcfggaaEscB
import Derived.Deep.RegionHeld3
namespace Go.Proofs.Ythhmccdjhcfggaa
open Go.Shelf Go.RowKit
set_option linter.unusedVariables false
set_option linter.unusedSimpArgs false

theorem Kept.drew {b D : Nat} {w : World} : Kept b D w w.drew := ⟨rfl, rfl, rfl, Nat.le_refl _, fun _ _ _ => rfl⟩
/-- A part of the row in block d, as a source. -/
theorem src_of (w : World) (l : Bytes) (n c d j : Nat) (hl : l.length = n) (hnc : n ≤ c) (hcell : ∀ j, j < n → w.cell? ⟨d, j, none⟩ = some (.int .u8 (at0 l j))) :
    ∃ ad : Addr, (if c = j then some (Addr.mk d 0 none) else some (Addr.mk d j none)) = some ad ∧ ad.block = d ∧ ∀ m, j + m ≤ n → ∀ i u, (Lib.byteCells ((l.drop j).take m))[i]? = some u → w.cell? (ad.add i) = some u := by
  by_cases h : c = j
  · refine ⟨⟨d, 0, none⟩, by rw [if_pos h], rfl, ?_⟩
    intro m hm i u hu
    have : (l.drop j).take m = [] := by
      have : m = 0 := by omega
      rw [this]; rfl
    rw [this] at hu
    simp [Lib.byteCells] at hu
  · refine ⟨⟨d, j, none⟩, by rw [if_neg h], rfl, ?_⟩
    intro m hm i u hu
    unfold Lib.byteCells at hu
    rw [List.getElem?_map, List.getElem?_take] at hu
    split at hu
    · rename_i him
      have h1 := hcell (j + i) (by omega)
      rw [List.getElem?_drop] at hu
      unfold at0 at h1
      rw [List.getD_eq_getElem?_getD] at h1
      have h2 : (l[j + i]?) = some l[j + i] := List.getElem?_eq_getElem (by omega)
      rw [h2] at hu h1
      simp at hu
      have h3 : (Addr.mk d j none).add i = ⟨d, j + i, none⟩ := by unfold Addr.add; split <;> simp_all
      rw [h3, h1, ← hu]; simp
    · simp at hu

theorem nil_ahead (f : Nat) (a : Addr) (w : World) : (nilAhead (f + 1) 31 (.pointer (some a)) "Write").run Try.prog w = .ok (some false) w := by kernel_rfl
theorem method_write (f : Nat) (a : Addr) (w : World) : (method (f + 1) 31 (.pointer (some a)) "Write").run Try.prog w = .ok (46, .pointer (some a)) w := by kernel_rfl

/-- The second write of a round: a literal's bytes, in a row of their own. -/
theorem write_lit (b d : Nat) (acc : Bytes) (S : ByteArray) (w : World) (hB : Bw b d (.pointer (some ⟨b, 0, none⟩)) acc w) (hlen : acc.length + S.size ≤ 140737488355328) :
    Calls Try.prog 46 #[.pointer (some ⟨b, 0, none⟩), .slice (some ⟨w.heap.size, 0, none⟩) S.size (grownCap w S.size 0 5)] (Lib.bytesWorld w 5 S) fun e w' => e = .returned (.tuple #[.int .i64 S.size, .nilIface]) ∧ Bw b d (.pointer (some ⟨b, 0, none⟩)) (acc ++ S.data.toList) w' ∧ Kept b d w w' := by
  have hd : b ≤ d ∧ d < w.heap.size := ⟨hB.1, hB.2.1⟩
  refine (write_calls b d _ (.inr rfl) acc S.data.toList ⟨w.heap.size, 0, none⟩ S.size _ (Lib.bytesWorld w 5 S) (hB.keep (by rw [Lib.bytesWorld_size]; omega) (fun i hi => Lib.bytesWorld_at_old w 5 S i hi)) (by simp) ?_ (by show w.heap.size ≠ b; omega) hlen).mono ?_
  · intro i u hu
    unfold Lib.byteCells at hu
    rw [List.getElem?_map] at hu
    have hi : i < S.size := by
      rcases Nat.lt_or_ge i S.size with h | h
      · exact h
      · rw [List.getElem?_eq_none (by simpa using h)] at hu; cases hu
    have h3 : (Addr.mk w.heap.size 0 none).add i = ⟨w.heap.size, i, none⟩ := by unfold Addr.add; split <;> simp_all
    rw [h3, Lib.bytesWorld_cell w 5 S i hi]
    have h2 : S.data.toList[i]? = some (S.data.toList[i]'(by simpa using hi)) := List.getElem?_eq_getElem _
    rw [h2] at hu
    rw [List.getD_eq_getElem?_getD, h2]
    simpa using hu
  · rintro e w' ⟨rfl, h1, h2⟩
    exact ⟨rfl, h1, Kept.trans (v := Lib.bytesWorld w 5 S) ⟨rfl, rfl, rfl, by rw [Lib.bytesWorld_size]; omega, fun k hk _ => Lib.bytesWorld_at_old w 5 S k (by omega)⟩ h2⟩
theorem esc_step (l : Bytes) (k : Nat) (hk : k < l.length) : escL (l.take (k + 1)) = escL (l.take k) ++ (if escTab (at0 l k) = [] then [l[k]] else escTab (at0 l k)) := by
  rw [List.take_succ_eq_append_getElem hk, escL_app]
  congr 1
  have : at0 l k = l[k].toNat := by
    unfold at0
    rw [List.getD_eq_getElem?_getD, List.getElem?_eq_getElem hk]; rfl
  rw [this]
  show escByte l[k] ++ [] = _
  rw [List.append_nil]; rfl

set_option maxHeartbeats 4000000 in
set_option maxRecDepth 100000 in
theorem htmlEscape_calls (b d n c : Nat) (l : Bytes) (w : World) (hd : b < d) (hl : l.length = n) (hn : (n : Int) ≤ 17179869184) (hnc : n ≤ c) (hcm : (c : Int) ≤ 9223372036854775807)
    (hcell : ∀ j, j < n → w.cell? ⟨d, j, none⟩ = some (.int .u8 (at0 l j))) (hB : Bw b d (.pointer none) [] w) :
    Calls Try.prog 16 #[.iface 31 (.pointer (some ⟨b, 0, none⟩)), .slice (some ⟨d, 0, none⟩) n c] w fun e w' => e = .returned (.tuple #[]) ∧ (∃ p, (p = .pointer none ∨ p = .pointer (some ⟨b, 0, none⟩)) ∧ Bw b d p (escL l) w') ∧ Kept b d w w' := by
  go_enter Try.func16, Try.ntmps16
  go_wp2
  go_loopw [4, 10] (fun la i wr => ∃ (j k : Nat) (acc : Bytes) (p : Value), j ≤ k ∧ k ≤ n ∧ la = .int .i64 j ∧ i = .int .i64 k ∧ Hid (p = .pointer none ∨ p = .pointer (some ⟨b, 0, none⟩)) ∧ Bw b d p acc wr ∧ Kept b d w wr ∧ Hid (escL (l.take k) = acc ++ (l.take k).drop j)) (fun _ i _ => n - (intOf i).toNat)
  case atStart => exact ⟨0, 0, [], _, Nat.le_refl _, Nat.zero_le _, rfl, rfl, Lib.hid (.inl rfl), hB, Kept.refl _ _ _, Lib.hid rfl⟩
  case round =>
    obtain ⟨j, k, acc, p, hjk, hkn, rfl, rfl, hp, hb, hk, he⟩ := hrel
    have HL : (acc ++ (l.take k).drop j).length ≤ 5 * k := by
      have h1 := escL_le (l.take k)
      rw [he.out] at h1
      rw [List.length_take] at h1
      omega
    by_cases hlt : k < n
    · have hc : wr.cell? ⟨d, k, none⟩ = some (.int .u8 (at0 l k)) := by
        rw [World.cell?_of_block (w := w) (hk.block d (Nat.le_refl _) (by omega))]
        exact hcell k hlt
      have hcw : ∀ i, i < n → wr.cell? ⟨d, i, none⟩ = some (.int .u8 (at0 l i)) := fun i hi => by
        rw [World.cell?_of_block (w := w) (hk.block d (Nat.le_refl _) (by omega))]
        exact hcell i hi
      obtain ⟨ad, had, hadb, hadc⟩ := src_of wr l n c d j hl hnc hcw
      have hseg : (l.drop j).take (k - j) = (l.take k).drop j := by rw [List.drop_take]
      have hw := write_calls b d p hp.out acc ((l.drop j).take (k - j)) ad (k - j) (c - j) wr.drew (hb.keep (Nat.le_refl _) (fun _ _ => rfl)) (by simp; omega) (hadc (k - j) (by omega)) (by omega) (by rw [List.length_append] at HL; omega)
      rw [hseg, ← he.out] at hw
      have hst := esc_step l k (by omega)
      have hle2 : (escL (l.take k)).length ≤ 5 * k := by rw [he.out]; exact HL
      have HLE := Lib.hid hle2; clear hle2 HL
      have HW := Lib.hid hw
      have HE := he; have HK := Lib.hid hk; have HS := Lib.hid hst
      have HB := Lib.hid hb
      have hj1 : (0 : Int) ≤ (j : Int) := by omega
      have hj2 : (j : Int) ≤ (k : Int) := by omega
      have hj3 : (k : Int) ≤ (c : Int) := by omega
      have hcv : ∀ (W : World) (S : ByteArray), (convert 9 32 (.string S)).run Try.prog W = .ok (.slice (some ⟨W.heap.size, 0, none⟩) S.size (grownCap W S.size 0 5)) (Lib.bytesWorld W 5 S) := fun W S => Lib.run_convert_string_bytes W 9 32 5 S Try.underlying9 Try.underlying32 Try.underlying5
      have nA := fun (f : Nat) (w : World) => nil_ahead f ⟨b, 0, none⟩ w
      have mA := fun (f : Nat) (w : World) => method_write f ⟨b, 0, none⟩ w
      have HC := Lib.hid hp
      clear hw hst hcw hadc hadb hcell hb hB he hp hk hseg
      rcases (by omega : at0 l k = 0 ∨ at0 l k = 34 ∨ at0 l k = 39 ∨ at0 l k = 38 ∨ at0 l k = 60 ∨ at0 l k = 62 ∨ (at0 l k ≠ 0 ∧ at0 l k ≠ 34 ∧ at0 l k ≠ 39 ∧ at0 l k ≠ 38 ∧ at0 l k ≠ 60 ∧ at0 l k ≠ 62)) with h9 | h9 | h9 | h9 | h9 | h9 | ⟨g0, g34, g39, g38, g60, g62⟩
      · have hr : (at0 l k : Int) = 0 := by omega
        have HT : Hid (escTab (at0 l k) = [239, 191, 189]) := Lib.hid (by rw [h9]; decide)
        clear h9
        go_wp2
        go_region_held3 (fun _ => True) (trivial) (first | (go_at_call 46; refine HW.out.mono ?_; rintro e w2 ⟨rfl, hB2, hk2⟩))
        have H5 : Hid ((escL (l.take k)).length + (ByteArray.mk #[239, 191, 189]).size ≤ 140737488355328) := Lib.hid (by have := HLE.out; show (escL (l.take k)).length + 3 ≤ _; omega)
        go_wp2_with (go_at_call 46; refine (write_lit b d _ ⟨#[239, 191, 189]⟩ w2 hB2 H5.out).mono ?_; rintro e w3 ⟨rfl, hB3, hk3⟩)
        go_roundw
        case rel =>
          refine ⟨k + 1, k + 1, _, _, Nat.le_refl _, by omega, by go_num, by go_num, Lib.hid (.inr rfl), hB3, HK.out.trans ((Kept.drew (w := wr) |>.trans hk2).trans hk3), Lib.hid ?_⟩
          rw [HS.out, HT.out, List.drop_eq_nil_of_le (List.length_take_le _ _), List.append_nil]
          rfl
        case measure => simp [intOf]; omega
      · have hr : (at0 l k : Int) = 34 := by omega
        have HT : Hid (escTab (at0 l k) = [38, 35, 51, 52, 59]) := Lib.hid (by rw [h9]; decide)
        clear h9
        go_wp2
        go_region_held3 (fun _ => True) (trivial) (first | (go_at_call 46; refine HW.out.mono ?_; rintro e w2 ⟨rfl, hB2, hk2⟩))
        have H5 : Hid ((escL (l.take k)).length + (ByteArray.mk #[38, 35, 51, 52, 59]).size ≤ 140737488355328) := Lib.hid (by have := HLE.out; show (escL (l.take k)).length + 5 ≤ _; omega)
        go_wp2_with (go_at_call 46; refine (write_lit b d _ ⟨#[38, 35, 51, 52, 59]⟩ w2 hB2 H5.out).mono ?_; rintro e w3 ⟨rfl, hB3, hk3⟩)
        go_roundw
        case rel =>
          refine ⟨k + 1, k + 1, _, _, Nat.le_refl _, by omega, by go_num, by go_num, Lib.hid (.inr rfl), hB3, HK.out.trans ((Kept.drew (w := wr) |>.trans hk2).trans hk3), Lib.hid ?_⟩
          rw [HS.out, HT.out, List.drop_eq_nil_of_le (List.length_take_le _ _), List.append_nil]
          rfl
        case measure => simp [intOf]; omega
      · have hr : (at0 l k : Int) = 39 := by omega
        have HT : Hid (escTab (at0 l k) = [38, 35, 51, 57, 59]) := Lib.hid (by rw [h9]; decide)
        clear h9
        go_wp2
        go_region_held3 (fun _ => True) (trivial) (first | (go_at_call 46; refine HW.out.mono ?_; rintro e w2 ⟨rfl, hB2, hk2⟩))
        have H5 : Hid ((escL (l.take k)).length + (ByteArray.mk #[38, 35, 51, 57, 59]).size ≤ 140737488355328) := Lib.hid (by have := HLE.out; show (escL (l.take k)).length + 5 ≤ _; omega)
        go_wp2_with (go_at_call 46; refine (write_lit b d _ ⟨#[38, 35, 51, 57, 59]⟩ w2 hB2 H5.out).mono ?_; rintro e w3 ⟨rfl, hB3, hk3⟩)
        go_roundw
        case rel =>
          refine ⟨k + 1, k + 1, _, _, Nat.le_refl _, by omega, by go_num, by go_num, Lib.hid (.inr rfl), hB3, HK.out.trans ((Kept.drew (w := wr) |>.trans hk2).trans hk3), Lib.hid ?_⟩
          rw [HS.out, HT.out, List.drop_eq_nil_of_le (List.length_take_le _ _), List.append_nil]
          rfl
        case measure => simp [intOf]; omega
      · have hr : (at0 l k : Int) = 38 := by omega
        have HT : Hid (escTab (at0 l k) = [38, 97, 109, 112, 59]) := Lib.hid (by rw [h9]; decide)
        clear h9
        go_wp2
        go_region_held3 (fun _ => True) (trivial) (first | (go_at_call 46; refine HW.out.mono ?_; rintro e w2 ⟨rfl, hB2, hk2⟩))
        have H5 : Hid ((escL (l.take k)).length + (ByteArray.mk #[38, 97, 109, 112, 59]).size ≤ 140737488355328) := Lib.hid (by have := HLE.out; show (escL (l.take k)).length + 5 ≤ _; omega)
        go_wp2_with (go_at_call 46; refine (write_lit b d _ ⟨#[38, 97, 109, 112, 59]⟩ w2 hB2 H5.out).mono ?_; rintro e w3 ⟨rfl, hB3, hk3⟩)
        go_roundw
        case rel =>
          refine ⟨k + 1, k + 1, _, _, Nat.le_refl _, by omega, by go_num, by go_num, Lib.hid (.inr rfl), hB3, HK.out.trans ((Kept.drew (w := wr) |>.trans hk2).trans hk3), Lib.hid ?_⟩
          rw [HS.out, HT.out, List.drop_eq_nil_of_le (List.length_take_le _ _), List.append_nil]
          rfl
        case measure => simp [intOf]; omega
      · have hr : (at0 l k : Int) = 60 := by omega
        have HT : Hid (escTab (at0 l k) = [38, 108, 116, 59]) := Lib.hid (by rw [h9]; decide)
        clear h9
        go_wp2
        go_region_held3 (fun _ => True) (trivial) (first | (go_at_call 46; refine HW.out.mono ?_; rintro e w2 ⟨rfl, hB2, hk2⟩))
        have H5 : Hid ((escL (l.take k)).length + (ByteArray.mk #[38, 108, 116, 59]).size ≤ 140737488355328) := Lib.hid (by have := HLE.out; show (escL (l.take k)).length + 4 ≤ _; omega)
        go_wp2_with (go_at_call 46; refine (write_lit b d _ ⟨#[38, 108, 116, 59]⟩ w2 hB2 H5.out).mono ?_; rintro e w3 ⟨rfl, hB3, hk3⟩)
        go_roundw
        case rel =>
          refine ⟨k + 1, k + 1, _, _, Nat.le_refl _, by omega, by go_num, by go_num, Lib.hid (.inr rfl), hB3, HK.out.trans ((Kept.drew (w := wr) |>.trans hk2).trans hk3), Lib.hid ?_⟩
          rw [HS.out, HT.out, List.drop_eq_nil_of_le (List.length_take_le _ _), List.append_nil]
          rfl
        case measure => simp [intOf]; omega
      · have hr : (at0 l k : Int) = 62 := by omega
        have HT : Hid (escTab (at0 l k) = [38, 103, 116, 59]) := Lib.hid (by rw [h9]; decide)
        clear h9
        go_wp2
        go_region_held3 (fun _ => True) (trivial) (first | (go_at_call 46; refine HW.out.mono ?_; rintro e w2 ⟨rfl, hB2, hk2⟩))
        have H5 : Hid ((escL (l.take k)).length + (ByteArray.mk #[38, 103, 116, 59]).size ≤ 140737488355328) := Lib.hid (by have := HLE.out; show (escL (l.take k)).length + 4 ≤ _; omega)
        go_wp2_with (go_at_call 46; refine (write_lit b d _ ⟨#[38, 103, 116, 59]⟩ w2 hB2 H5.out).mono ?_; rintro e w3 ⟨rfl, hB3, hk3⟩)
        go_roundw
        case rel =>
          refine ⟨k + 1, k + 1, _, _, Nat.le_refl _, by omega, by go_num, by go_num, Lib.hid (.inr rfl), hB3, HK.out.trans ((Kept.drew (w := wr) |>.trans hk2).trans hk3), Lib.hid ?_⟩
          rw [HS.out, HT.out, List.drop_eq_nil_of_le (List.length_take_le _ _), List.append_nil]
          rfl
        case measure => simp [intOf]; omega
      · have HT : Hid (escTab (at0 l k) = []) := Lib.hid (by
          unfold escTab
          rw [if_neg g0, if_neg g34, if_neg g39, if_neg g38, if_neg g60, if_neg g62])
        have q0 : ((at0 l k : Int) == 0) = false := by simp; omega
        have q34 : ((at0 l k : Int) == 34) = false := by simp; omega
        have q39 : ((at0 l k : Int) == 39) = false := by simp; omega
        have q38 : ((at0 l k : Int) == 38) = false := by simp; omega
        have q60 : ((at0 l k : Int) == 60) = false := by simp; omega
        have q62 : ((at0 l k : Int) == 62) = false := by simp; omega
        clear g0 g34 g39 g38 g60 g62
        go_wp2
        go_roundw
        case rel =>
          refine ⟨j, k + 1, acc, p, by omega, by omega, rfl, by go_num, HC, HB.out, HK.out, Lib.hid ?_⟩
          rw [HS.out, HT.out, if_pos rfl, HE.out, List.take_succ_eq_append_getElem (by omega : k < l.length), List.drop_append_of_le_length (by rw [List.length_take]; omega), List.append_assoc]
        case measure => simp [intOf]; omega
    · have hkn' : k = n := by omega
      have hcw : ∀ i, i < n → wr.cell? ⟨d, i, none⟩ = some (.int .u8 (at0 l i)) := fun i hi => by
        rw [World.cell?_of_block (w := w) (hk.block d (Nat.le_refl _) (by omega))]
        exact hcell i hi
      obtain ⟨ad, had, hadb, hadc⟩ := src_of wr l n c d j hl hnc hcw
      have hw := write_calls b d p hp.out acc ((l.drop j).take (n - j)) ad (n - j) (c - j) wr.drew (hb.keep (Nat.le_refl _) (fun _ _ => rfl)) (by simp; omega) (hadc (n - j) (by omega)) (by omega) (by rw [List.length_append] at HL; omega)
      have HW := Lib.hid hw
      have HE := he; have HK := hk
      clear hw hcw hadc hadb hcell hb hB he hp hnc hcm hk
      go_wp2
      have nA := fun (f : Nat) (w : World) => nil_ahead f ⟨b, 0, none⟩ w
      have mA := fun (f : Nat) (w : World) => method_write f ⟨b, 0, none⟩ w
      have hj1 : (0 : Int) ≤ (j : Int) := by omega
      have hj2 : (j : Int) ≤ (n : Int) := by omega
      go_region_held3 (fun _ => True) (trivial) (first | (go_at_call 46; refine HW.out.mono ?_; rintro e w2 ⟨rfl, hB2, hk2⟩))
      go_end0
      have hk : Kept b d w wr := HK
      refine ⟨rfl, ⟨_, .inr rfl, ?_⟩, hk.trans (Kept.trans (v := wr.drew) ⟨rfl, rfl, rfl, Nat.le_refl _, fun _ _ _ => rfl⟩ hk2)⟩
      have he := HE.out
      rw [List.take_of_length_le (by omega)] at he
      rw [List.take_of_length_le (by rw [List.length_drop]; omega), ← he] at hB2
      exact hB2
end Go.Proofs.Ythhmccdjhcfggaa
