/- text/template's HTMLEscapeString and the thin package's EscapeHTML. -/
import Derived.Test.YthhmccdjhcfggaaEscC
import Derived.Test.YthhmccdjhcfggaaSpecD
namespace Go.Proofs.Ythhmccdjhcfggaa
open Go.Shelf Go.RowKit
set_option linter.unusedVariables false
set_option linter.unusedSimpArgs false

theorem Bw.builder {b D : Nat} {p : Value} {l : Bytes} {w : World} (h : Bw b D p l w) (hp : p = .pointer none ∨ p = .pointer (some ⟨b, 0, none⟩)) : Lib.IsBuilder 34 5 b b (Lib.byteCells l) w := by
  obtain ⟨h1, h2, v, h3, h4⟩ := h
  have h5 : w.ownsRow b 5 1 v (Lib.byteCells l).length (Lib.byteCells l) := by
    refine ⟨h4.1, ?_⟩
    rcases h4.2 with h0 | ⟨g, cap, cur, e1, e2, e3⟩
    · exact .inl h0
    · exact .inr ⟨g, cap, cur, e1, by omega, e3⟩
  have hne : v.ownBlock ≠ some b := Lib.ownBlock_ne h4 h3 (by decide)
  rcases hp with rfl | rfl
  · exact .inl ⟨Nat.le_refl _, v, h3, h5, hne⟩
  · exact .inr ⟨Nat.le_refl _, v, h3, h5, hne⟩
/-- The world in which HTMLEscape begins: a new builder, then the text's bytes. -/
theorem start_bw (w : World) (s : ByteArray) : Bw w.heap.size (w.heap.size + 1) (.pointer none) [] (Lib.bytesWorld (w.alloc (.cells #[.pointer none, .slice none 0 0] 34)) 5 s) := by
  have hs : (w.alloc (.cells #[.pointer none, .slice none 0 0] 34)).heap.size = w.heap.size + 1 := by show (w.heap.push _).size = _; simp
  refine ⟨by omega, by rw [Lib.bytesWorld_size]; omega, .slice none 0 0, ?_, World.ownsRow_nil _ _ _ _⟩
  rw [Lib.bytesWorld_at_old _ _ _ _ (by omega)]
  exact heap_alloc_new w _

theorem start_below (w : World) (s : ByteArray) : Below w.heap.size w (Lib.bytesWorld (w.alloc (.cells #[.pointer none, .slice none 0 0] 34)) 5 s) := by
  have hs : (w.alloc (.cells #[.pointer none, .slice none 0 0] 34)).heap.size = w.heap.size + 1 := by show (w.heap.push _).size = _; simp
  refine ⟨rfl, rfl, rfl, by rw [Lib.bytesWorld_size]; omega, fun k hk => ?_⟩
  rw [Lib.bytesWorld_at_old _ _ _ _ (by omega)]
  exact Lib.alloc_old w _ k hk

set_option maxHeartbeats 2000000 in
set_option maxRecDepth 100000 in
theorem htmlEscapeString_calls (s : ByteArray) (hv : validL s.data.toList = true) (w : World) (hs : (s.size : Int) ≤ 17179869184) :
    Calls Try.prog 10 #[.string s] w fun e w' => RetStr (escL s.data.toList) e ∧ Below w.heap.size w w' := by
  have HZ := Lib.hid (fun w => zzContainsAny_any s ⟨#[39, 34, 38, 60, 62, 0]⟩ rfl hv w (maxLen_of hs))
  have HSZ := Lib.hid hs; clear hs hv
  have hcv : ∀ (W : World) (S : ByteArray), (convert 9 32 (.string S)).run Try.prog W = .ok (.slice (some ⟨W.heap.size, 0, none⟩) S.size (grownCap W S.size 0 5)) (Lib.bytesWorld W 5 S) := fun W S => Lib.run_convert_string_bytes W 9 32 5 S Try.underlying9 Try.underlying32 Try.underlying5
  go_enter Try.func10, Try.ntmps10
  go_wp2_with (go_at_call 15; refine (HZ.out _).mono ?_; rintro e w1 ⟨⟨bb, rfl, hbb⟩, hbw⟩)
  · go_ret
    refine ⟨⟨s, rfl, ?_⟩, hbw⟩
    refine (escL_none _ ?_).symm
    rcases hbb with ⟨h1, _⟩ | h
    · simp_all
    · exact h
  · refine (htmlEscape_calls w1.heap.size (w1.heap.size + 1) s.size (grownCap (w1.alloc (.cells #[.pointer none, .slice none 0 0] 34)) s.size 0 5) s.data.toList _ (by omega) (by simp) HSZ.out (grownCap_ge _ _ _ _) ?_ ?_ (start_bw w1 s)).mono ?_
    · have := grownCap_le_maxLen (w1.alloc (.cells #[.pointer none, .slice none 0 0] 34)) s.size 0 5 (maxLen_of HSZ.out)
      unfold maxLen at this
      omega
    · intro i hi
      have hsz : (w1.alloc (.cells #[.pointer none, .slice none 0 0] 34)).heap.size = w1.heap.size + 1 := by show (w1.heap.push _).size = _; simp
      have := Lib.bytesWorld_cell (w1.alloc (.cells #[.pointer none, .slice none 0 0] 34)) 5 s i hi
      rw [hsz] at this
      exact this
    · rintro e w2 ⟨rfl, ⟨p, hp, hB⟩, hk⟩
      have HB := Lib.hid (hB.builder hp); have HK := Lib.hid (hk.below (by omega)); have HL := Lib.hid hB.2.1
      clear hB hk
      have HST := Lib.hid (Try.Builder_String_any w1.heap.size w1.heap.size (escL s.data.toList) w2 HB.out (by have := HL.out; omega))
      go_wp2_with (go_at_call 17; refine HST.out.mono ?_; rintro e w3 ⟨rfl, hb3⟩)
      go_ret
      exact ⟨⟨_, rfl, by simp⟩, hbw.trans (((start_below w1 s).trans (HK.out.trans hb3)).mono hbw.size)⟩

set_option maxRecDepth 100000 in
theorem escapeHTML_calls (s : ByteArray) (hv : validL s.data.toList = true) (w : World) (hs : (s.size : Int) ≤ 17179869184) :
    Calls Try.prog 5 #[.string s] w fun e w' => RetStr (escL s.data.toList) e ∧ Below w.heap.size w w' := by
  have HZ := Lib.hid (fun w => htmlEscapeString_calls s hv w hs)
  clear hv hs
  go_enter Try.func5, Try.ntmps5
  go_wp2_with (go_at_call 10; refine (HZ.out _).mono ?_; rintro e w1 ⟨⟨v, rfl, hv⟩, hb⟩)
  go_ret
  exact ⟨⟨v, rfl, hv⟩, hb⟩
end Go.Proofs.Ythhmccdjhcfggaa
