/- ZZSlash, Slash. -/
import Derived.Test.YtolamblmfejhoaaDoorNxt
import Derived.Lib.ConvBytes
namespace Go.Proofs.YtolamblmfejhoaaDoor
open Go.RowKit
set_option linter.unusedVariables false
set_option linter.unusedSimpArgs false

theorem bytesW_below (w : World) (s : ByteArray) : Below w.heap.size w (Lib.bytesWorld w 5 s) :=
  ⟨rfl, rfl, rfl, by rw [Lib.bytesWorld_size]; omega, fun k hk => Lib.bytesWorld_at_old _ _ _ _ hk⟩
theorem bytesW_by (w : World) (s : ByteArray) : By w.heap.size s (Lib.bytesWorld w 5 s) := by
  refine ⟨by rw [Lib.bytesWorld_size]; omega, fun i hi => ?_⟩
  have h := Lib.bytesWorld_cell w 5 s i hi
  rw [h]
  congr 3
  rw [List.getD_eq_getElem?_getD, List.getElem?_eq_getElem (by simpa using hi)]
  rfl
theorem slashN_lt (s : Bytes) (before : Nat) (h : before ≤ 1) : slashN s before ≤ 1 := by
  unfold slashN
  simp only
  repeat' split
  all_goals omega
set_option maxRecDepth 100000 in
theorem zzslash_any (s : ByteArray) (before : Nat) (w : World) (hs : (s.size : Int) ≤ 17179869184) (hA : Ascii s) (hb : before ≤ 1) :
    Calls Tryd.prog 21 #[.string s, .int .i64 before] w fun e w' => e = .returned (.int .i64 (slashN s.data.toList before)) ∧ Below w.heap.size w w' := by
  have hcv : ∀ (W : World) (S : ByteArray), (convert 9 37 (.string S)).run Tryd.prog W = .ok (.slice (some ⟨W.heap.size, 0, none⟩) S.size (grownCap W S.size 0 5)) (Lib.bytesWorld W 5 S) := fun W S => Lib.run_convert_string_bytes W 9 37 5 S Tryd.underlying9 Tryd.underlying37 Tryd.underlying5
  obtain ⟨c, hc⟩ : ∃ c, grownCap w s.size 0 5 = c := ⟨_, rfl⟩
  have hc1 : s.size ≤ c := by rw [← hc]; exact grownCap_ge _ _ _ _
  have hcv1 := hcv w s
  rw [hc] at hcv1
  clear hcv
  have HN := nextJS_any w.heap.size c before s (by omega) (Lib.bytesWorld w 5 s) (bytesW_by w s) hA hs hc1
  have hle := slashN_lt s.data.toList before hb
  obtain ⟨R, hR⟩ : ∃ R, slashN s.data.toList before = R := ⟨_, rfl⟩
  rw [hR] at HN hle ⊢
  have HNX := Lib.hid HN
  have HBW := Lib.hid (bytesW_below w s)
  have hsz := Lib.bytesWorld_size w 5 s
  clear HN hA hc hR
  go_enter Tryd.func21, Tryd.ntmps21
  go_wp2_with (go_at_call 30; refine HNX.out.mono ?_; rintro e w2 ⟨rfl, hb2⟩)
  go_ret
  exact ⟨rfl, HBW.out.trans (hb2.mono HBW.out.size)⟩
set_option maxRecDepth 100000 in
theorem slash_any (s : ByteArray) (before : Nat) (w : World) (hs : (s.size : Int) ≤ 17179869184) (hA : Ascii s) (hb : before ≤ 1) :
    Calls Tryd.prog 13 #[.string s, .int .i64 before] w fun e w' => e = .returned (.int .i64 (slashN s.data.toList before)) ∧ Below w.heap.size w w' := by
  have H := Lib.hid (zzslash_any s before w hs hA hb)
  clear hs hA hb
  go_enter Tryd.func13, Tryd.ntmps13
  go_wp2_with (go_at_call 21; refine H.out.mono ?_; rintro e w2 ⟨rfl, hb2⟩)
  go_ret
  exact ⟨rfl, hb2⟩
end Go.Proofs.YtolamblmfejhoaaDoor
