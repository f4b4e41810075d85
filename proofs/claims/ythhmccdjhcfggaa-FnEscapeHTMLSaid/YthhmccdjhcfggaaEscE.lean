/- The law FnEscapeHTML's walk. -/
import Derived.Test.YthhmccdjhcfggaaEscD
import Derived.Test.YthhmccdjhcfggaaSpecM
namespace Go.Proofs.Ythhmccdjhcfggaa
open Go.Shelf Go.RowKit
set_option linter.unusedVariables false
set_option linter.unusedSimpArgs false

theorem esc_lt (w : World) : Calls Try.prog 5 #[.string ⟨#[60]⟩] w fun e w' => e = .returned (.string ⟨#[38, 108, 116, 59]⟩) ∧ Below w.heap.size w w' := by
  refine (escapeHTML_calls ⟨#[60]⟩ (by decide) w (by decide)).mono ?_
  rintro e w' ⟨⟨v, rfl, hv⟩, hb⟩
  have : v = ⟨#[38, 108, 116, 59]⟩ := ba_ext (by rw [hv]; decide)
  rw [this]
  exact ⟨rfl, hb⟩
theorem back_text (s v : ByteArray) (hv : v.data.toList = escL s.data.toList) (hs : (s.size : Int) ≤ 2147483647) (hp : plainL s.data.toList = true) (w : World) :
    Calls Try.prog 6 #[.string v] w fun e w' => e = .returned (.tuple #[.string s, .bool true]) ∧ Below w.heap.size w w' := by
  have h1 := escL_le s.data.toList
  have h2 := congrArg List.length hv
  simp at h1 h2
  have e : s.data.size = s.size := rfl
  have e2 : v.data.size = v.size := rfl
  refine (readText_any v w (by omega)).mono ?_
  rintro e w2 ⟨hv2, hb2⟩
  rw [hv, esc_reads false 60 (.inl rfl) _ hp] at hv2
  obtain ⟨y, rfl, hy⟩ := hv2
  have hxs : y = s := ba_ext hy
  rw [hxs]
  exact ⟨rfl, hb2⟩
theorem back_quoted (s v : ByteArray) (q : Nat) (hq : q = 34 ∨ q = 39) (hv : v.data.toList = escL s.data.toList) (hs : (s.size : Int) ≤ 2147483647) (hp : plainL s.data.toList = true) (w : World) :
    Calls Try.prog 7 #[.string v, .int .u8 q] w fun e w' => e = .returned (.tuple #[.string s, .bool true]) ∧ Below w.heap.size w w' := by
  have h1 := escL_le s.data.toList
  have h2 := congrArg List.length hv
  simp at h1 h2
  have e : s.data.size = s.size := rfl
  have e2 : v.data.size = v.size := rfl
  refine (readQuoted_any v q w (by omega)).mono ?_
  rintro e w2 ⟨hv2, hb2⟩
  rw [hv, esc_reads true q (.inr hq) _ hp] at hv2
  obtain ⟨y, rfl, hy⟩ := hv2
  have hxs : y = s := ba_ext hy
  rw [hxs]
  exact ⟨rfl, hb2⟩

set_option maxRecDepth 100000 in
set_option maxHeartbeats 4000000 in
theorem walk (s : ByteArray) (w : World) (hs : s.size ≤ maxLen) :
    Calls Try.prog 3 #[.string s] w fun e w' => e = .returned (.bool true) ∧ Below w.heap.size w w' := by
  unfold maxLen at hs
  by_cases hm : (2147483647 : Int) < s.size
  · go_enter Try.func3, Try.ntmps3
    go_wp2
    go_ret
    exact ⟨rfl, Below.refl _ _⟩
  · have hm' : decide ((2147483647 : Int) < s.size) = false := by rw [decide_eq_false_iff_not]; exact hm
    have HP := Lib.hid (fun w => plain_any s w (by omega))
    have HZ : Hid ((s.size : Int) ≤ 2147483647) := Lib.hid (by omega)
    clear hm hs
    cases hp : plainL s.data.toList
    · rw [hp] at HP
      clear hp
      go_enter Try.func3, Try.ntmps3
      go_wp2_with (go_at_call 4; refine (HP.out _).mono ?_; rintro e w1 ⟨rfl, rfl⟩)
      go_ret
      exact ⟨rfl, Below.refl _ _⟩
    · rw [hp] at HP
      have HR := Lib.hid (fun v hv w => back_text s v hv HZ.out hp w)
      have HQ := Lib.hid (fun v hv w => back_quoted s v 34 (.inl rfl) hv HZ.out hp w)
      have HA := Lib.hid (fun v hv w => back_quoted s v 39 (.inr rfl) hv HZ.out hp w)
      have HX := Lib.hid (fun w => escapeHTML_calls s (by unfold plainL at hp; rw [Bool.and_eq_true] at hp; exact hp.1) w (by have := HZ.out; omega))
      clear hp
      have K1 : Hid True := Lib.hid trivial
      have K2 : Hid True := Lib.hid trivial
      have K3 : Hid True := Lib.hid trivial
      have K4 : Hid True := Lib.hid trivial
      have K5 : Hid True := Lib.hid trivial
      have K6 : Hid True := Lib.hid trivial
      go_enter Try.func3, Try.ntmps3
      go_wp2_with (first
        | (clear K1; go_at_call 4; refine (HP.out _).mono ?_; rintro e w1 ⟨rfl, rfl⟩)
        | (clear K2; go_at_call 5; refine (HX.out _).mono ?_; rintro e w1 ⟨⟨v, rfl, hv⟩, hb1⟩; have HV := Lib.hid hv; clear hv)
        | (clear K3; go_at_call 6; refine (HR.out v HV.out _).mono ?_; rintro e w2 ⟨rfl, hb2⟩)
        | (clear K4; go_at_call 7; refine (HQ.out v HV.out _).mono ?_; rintro e w3 ⟨rfl, hb3⟩)
        | (clear K5; go_at_call 7; refine (HA.out v HV.out _).mono ?_; rintro e w4 ⟨rfl, hb4⟩)
        | (clear K6; go_at_call 5; refine (esc_lt _).mono ?_; rintro e w5 ⟨rfl, hb5⟩))
      go_ret
      refine ⟨rfl, ?_⟩
      have c1 := hb1.size; have c2 := hb2.size; have c3 := hb3.size; have c4 := hb4.size
      exact hb1.trans ((hb2.mono c1).trans ((hb3.mono (by omega)).trans ((hb4.mono (by omega)).trans (hb5.mono (by omega)))))
end Go.Proofs.Ythhmccdjhcfggaa
