/- The package's text in strings of CSS. -/
import Derived.Test.YtigobehhmodoiaaDoorCssA
import Derived.Test.YtigobehhmodoiaaDoorCssC
namespace Go.Proofs.YtigobehhmodoiaaDoor
open Go.Shelf Go.RowKit
set_option linter.unusedVariables false
set_option linter.unusedSimpArgs false

theorem cssL_le (l : Bytes) : (cssL l).length ≤ 4 * l.length := by
  unfold cssL
  generalize hn : l.length = n
  induction n using Nat.strongRecOn generalizing l with
  | _ n ih =>
    by_cases hl : l = []
    · subst hl; simp [genL_nil]
    · have hp := decL_pos l
      have hle := decL_le l hl
      rw [genL_step _ l hl, List.length_append]
      have h1 := ih (l.drop (decL l).2).length (by rw [List.length_drop]; omega) (l.drop (decL l).2) rfl
      rw [List.length_drop] at h1
      have h2 : (cssOne l).length ≤ 4 * (decL l).2 := by
        have ht : (l.take (decL l).2).length ≤ 4 * (decL l).2 := by rw [List.length_take]; omega
        have := cssTab_le (decL l).1
        rw [cssOne_eq]
        split
        · exact ht
        · rw [List.length_append]
          split
          · simp only [List.length_cons, List.length_nil]; omega
          · simp only [List.length_nil]; omega
      omega
theorem zzCss_any (s : ByteArray) (w : World) (hs : (s.size : Int) ≤ 4294967296) (hT : Tabs w) (hC : CssTab w) :
    Calls Tryd.prog 44 #[.string s] w fun e w' => RetStr (cssL s.data.toList) e ∧ Below w.heap.size w w' := by
  have H := Lib.hid (cssEscaper_any s w hs hT hC)
  clear hs
  go_enter Tryd.func44, Tryd.ntmps44
  go_wp2_with (go_at_call 66; refine H.out.mono ?_; rintro e w2 ⟨⟨v, rfl, hv⟩, hb⟩; have HV := Lib.hid hv; clear hv)
  go_ret
  exact ⟨⟨_, rfl, HV.out⟩, hb⟩
theorem cssString_any (s : ByteArray) (w : World) (hs : (s.size : Int) ≤ 4294967296) (hT : Tabs w) (hC : CssTab w) :
    Calls Tryd.prog 17 #[.string s] w fun e w' => RetStr (cssL s.data.toList) e ∧ Below w.heap.size w w' := by
  have H := Lib.hid (zzCss_any s w hs hT hC)
  clear hs
  go_enter Tryd.func17, Tryd.ntmps17
  go_wp2_with (go_at_call 44; refine H.out.mono ?_; rintro e w2 ⟨⟨v, rfl, hv⟩, hb⟩; have HV := Lib.hid hv; clear hv)
  go_ret
  exact ⟨⟨_, rfl, HV.out⟩, hb⟩
end Go.Proofs.YtigobehhmodoiaaDoor
