/- What the reference's Divides calls. -/
import Derived.Test.YtolamblmfejhoaaDoorSpIs
import Derived.Test.YtolamblmfejhoaaDoorLawT
namespace Go.Proofs.YtolamblmfejhoaaDoor
open Go.RowKit
set_option linter.unusedVariables false
set_option linter.unusedSimpArgs false

def spaceB (c : Nat) : Bool := c == 32 || c == 10 || c == 9 || c == 12 || c == 13
set_option maxRecDepth 100000 in
theorem isSpace5_any (c : Nat) (hc : c < 256) (w : World) : Calls Tryd.prog 31 #[.int .u8 c] w fun e w' => e = .returned (.bool (spaceB c)) ∧ w = w' := by
  go_enter Tryd.func31, Tryd.ntmps31
  go_wp2
  all_goals
    go_ret
    refine ⟨ret_bool ?_, rfl⟩
    unfold spaceB
    rw [Bool.eq_iff_iff]
    simp [*] <;> omega
set_option maxRecDepth 100000 in
theorem blankJS_any (c : Nat) (hc : c < 256) (w : World) : Calls Tryd.prog 22 #[.int .u8 c] w fun e w' => e = .returned (.bool (blankJ c)) ∧ w = w' := by
  have H := Lib.hid (isSpace5_any c hc w)
  obtain ⟨b, hb⟩ : ∃ b, spaceB c = b := ⟨_, rfl⟩
  have h1 : blankJ c = (b || c == 11) := by rw [← hb]; rfl
  rw [hb] at H
  rw [h1]
  clear hb h1
  by_cases h11 : c = 11
  · subst h11
    cases b
    all_goals
      go_enter Tryd.func22, Tryd.ntmps22
      go_wp2_with (go_at_call 31; refine H.out.mono ?_; rintro e w2 ⟨rfl, rfl⟩)
      go_ret
      exact ⟨rfl, rfl⟩
  · have hz : ((c : Int) == 11) = false := beq_eq_false_iff_ne.2 (by omega)
    have hn : (c == 11) = false := beq_eq_false_iff_ne.2 h11
    rw [hn]
    cases b
    all_goals
      go_enter Tryd.func22, Tryd.ntmps22
      go_wp2_with (go_at_call 31; refine H.out.mono ?_; rintro e w2 ⟨rfl, rfl⟩)
      go_ret
      exact ⟨rfl, rfl⟩
set_option maxRecDepth 100000 in
theorem keyword_any (s : ByteArray) (w : World) : Calls Tryd.prog 25 #[.string s] w fun e w' => e = .returned (.bool (isKey s.data.toList)) ∧ Below w.heap.size w w' := by
  have H : Hid (∀ W, W = w.alloc (.cells (keyWords.map (fun l => Value.string ⟨l.toArray⟩)).toArray 9) → Calls Tryd.prog 24 #[.string s, .slice (some ⟨w.heap.size, 0, none⟩) 14 14] W fun e w' => e = .returned (.bool (isKey s.data.toList)) ∧ W = w') :=
    Lib.hid fun W hW => is_any s keyWords w.heap.size 14 14 rfl (by decide) W (hW ▸ strs_new w keyWords 9)
  obtain ⟨b, hb⟩ : ∃ b, isKey s.data.toList = b := ⟨_, rfl⟩
  rw [hb] at H ⊢
  have HB : Hid (∀ o, Below w.heap.size w (w.alloc o)) := Lib.hid fun o => (Below.refl _ _).alloc (Nat.le_refl _) _
  go_enter Tryd.func25, Tryd.ntmps25
  go_wp2_with (go_at_call 24; refine (H.out _ rfl).mono ?_; rintro e w2 ⟨rfl, rfl⟩)
  go_ret
  exact ⟨rfl, HB.out _⟩
end Go.Proofs.YtolamblmfejhoaaDoor
