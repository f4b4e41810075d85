/- bytes.ToLower where a byte is no small one: bytes.Map. -/
import Derived.Test.YtigobehhmodoiaaDoorValB
import Derived.Test.YtigobehhmodoiaaDoorMem
import Derived.Test.YtigobehhmodoiaaDoorSevB
import Derived.Shelf.Strings.CaseAny
namespace Go.Proofs.YtigobehhmodoiaaDoor
open Go.RowKit
set_option linter.unusedVariables false
set_option linter.unusedSimpArgs false

abbrev CaseTab4 (w : World) : Prop := Lib.CaseVar 4 Lib.caseA w
theorem lower_range (x : Nat) (hx : x ≤ 1114111) : -2147483648 ≤ Lib.toLowerU x ∧ Lib.toLowerU x ≤ 2147483647 := by
  have := Lib.toLowerU_range x hx
  omega
theorem map_lower (b o c : Nat) (s : ByteArray) (w : World) (hb : Lib.Bytes w b o s) (hc : s.size ≤ c) (hs : s.size < 35184372088832) (hT : Tabs w) (hV : CaseTab4 w) :
    Calls Tryd.prog 117 #[.func (.func 118) #[] #[], .slice (some ⟨b, o, none⟩) s.size c] w fun e w' => ∃ v', e = .returned v' ∧ Own w.heap.size v' (Lib.toLowerD s.data.toList) w' ∧ Below w.heap.size w w' := by
  have h := Any7.bytes_Map Tryd.sev45 Tryd.lays242 rfl rfl 118 #[] (enters_of Tryd.func118 (by kernel_rfl) rfl) Lib.toLowerU s b o c w hc hs
    (fun j hj => by
      have := hb j hj
      rw [this, show s.get! j = s[j] from by simp [ByteArray.get!, hj]; rfl]) hT (toLower_pays Tryd.lays204 w hV).grows lower_range
  refine h.mono ?_
  rintro e w' ⟨v', rfl, _, h1, h2⟩
  exact ⟨v', rfl, h1, h2⟩

set_option maxRecDepth 100000 in
set_option maxHeartbeats 2000000 in
theorem toLower_wide (b o c : Nat) (s : ByteArray) (w : World) (hb : Lib.Bytes w b o s) (hc : s.size ≤ c) (hs : s.size < 35184372088832) (hT : Tabs w) (hV : CaseTab4 w) (m : Nat) (hm : m < s.size) (hw : 128 ≤ s[m].toNat) :
    Calls Tryd.prog 95 #[.slice (some ⟨b, o, none⟩) s.size c] w fun e w' => ∃ v', e = .returned v' ∧ Own w.heap.size v' (Lib.toLowerD s.data.toList) w' ∧ Below w.heap.size w w' := by
  have HM := Lib.hid (map_lower b o c s w hb hc hs hT hV)
  have HB := Lib.hid hb
  have HW := Lib.hid hw
  clear hb hT hV hw hc
  go_enter Tryd.func95, Tryd.ntmps95
  go_wp2_with fail
  go_loop [5, 4] (fun s5 s4 => ∃ (k : Nat) (hu : Bool), s5 = .int .i64 k ∧ s4 = .bool hu ∧ k ≤ m) (fun s5 _ => s.size - (intOf s5).toNat)
  case atStart => exact ⟨0, false, rfl, rfl, Nat.zero_le _⟩
  case round =>
    obtain ⟨k, hu, rfl, rfl, hk⟩ := hrel
    have hlt : k < s.size := by omega
    have hck := HB.out k hlt
    obtain ⟨x, hx⟩ : ∃ x, x = s[k] := ⟨_, rfl⟩
    have HX : Hid (¬ 128 ≤ x.toNat → k ≠ m) := Lib.hid <| by
      rintro h rfl
      exact h (by rw [hx]; exact HW.out)
    rw [← hx] at hck
    clear hx
    by_cases h128 : (128 : Int) ≤ x.toNat
    · clear HX hk
      go_wp2_with (go_at_call 117; refine HM.out.mono ?_; rintro e w' ⟨v', rfl, h1, h2⟩)
      go_ret
      exact ⟨v', rfl, h1, h2⟩
    · have hkm : k + 1 ≤ m := by have := HX.out (by omega); omega
      clear HX hk
      by_cases c1 : (65 : Int) ≤ x.toNat
      · by_cases c2 : (x.toNat : Int) ≤ 90
        all_goals
          cases hu
          all_goals
            go_wp2_with fail
            go_round
            case rel => exact ⟨k + 1, _, by go_num, rfl, hkm⟩
            case measure => simp [intOf]; omega
      · cases hu
        all_goals
          go_wp2_with fail
          go_round
          case rel => exact ⟨k + 1, _, by go_num, rfl, hkm⟩
          case measure => simp [intOf]; omega
end Go.Proofs.YtigobehhmodoiaaDoor
