/- Plain law: a text with a byte from 128 on is in small letters no text of small bytes of the same length. -/
import Derived.Test.YtigobehhmodoiaaDoorChr
import Derived.Shelf.Strings.CaseAny
import Derived.Lib.TrimUEq
import Derived.Lib.MapLaws
namespace Go.Proofs.YtigobehhmodoiaaDoor
open Go.RowKit
set_option linter.unusedVariables false
set_option linter.unusedSimpArgs false

theorem enc_small (r : Int) (h : ∀ x ∈ Lib.encodeRune r, x.toNat < 128) : (Lib.encodeRune r).length = 1 := by
  unfold Lib.encodeRune at h ⊢
  rw [List.length_map]
  have hh : ∀ z t, Lib.encodeRuneZ r = z :: t → 128 ≤ z → z < 256 → False := by
    intro z t e h1 h2
    have := h z.toNat.toUInt8 (by rw [e]; simp)
    simp at this
    omega
  by_cases c1 : 0 ≤ r ∧ r ≤ 127
  · rw [Lib.encodeRuneZ_one c1.1 c1.2]; rfl
  · exfalso
    by_cases c2 : 128 ≤ r ∧ r ≤ 2047
    · exact hh _ _ (Lib.encodeRuneZ_two c2.1 c2.2) (by omega) (by omega)
    · by_cases c3 : (2048 ≤ r ∧ r < 55296) ∨ (57343 < r ∧ r ≤ 65535)
      · exact hh _ _ (Lib.encodeRuneZ_three c3) (by omega) (by omega)
      · by_cases c4 : 65536 ≤ r ∧ r ≤ 1114111
        · exact hh _ _ (Lib.encodeRuneZ_four c4.1 c4.2) (by omega) (by omega)
        · exact hh _ _ (Lib.encodeRuneZ_bad (by omega)) (by omega) (by omega)
theorem low_fffd : (Lib.encodeRune (Lib.toLowerU ((65533 : Nat) : Int))).length = 3 := by kernel_rfl
theorem decodeL_dec (l : Bytes) : Lib.decodeL l = decL l := Lib.decodeL_N l
theorem dec_big (l : Bytes) (h : 128 ≤ at0 l 0) : 2 ≤ (Lib.decodeL l).2 ∨ (Lib.decodeL l).1 = 65533 := by
  rw [decodeL_dec]
  by_cases c : (decL l).1 = 65533 ∧ (decL l).2 = 1
  · exact .inr c.1
  · have hs : sizeL l = (decL l).2 := by unfold sizeL; rw [if_neg c]
    have hw := Lib.decodeL_width l
    rw [decodeL_dec] at hw
    have hW := wide_of l (by rw [hs]; omega)
    rw [hs] at hW
    rcases Nat.lt_or_ge (decL l).2 2 with h2 | h2
    · exfalso
      have e1 : (decL l).2 = 1 := by omega
      rw [e1] at hW
      cases hW with
      | one a => omega
    · exact .inl h2
theorem low_small : ∀ (n : Nat) (l : Bytes), l.length ≤ n → (∀ x ∈ Lib.mapGoD Lib.toLowerU n l, x.toNat < 128) →
    (Lib.mapGoD Lib.toLowerU n l).length ≤ l.length ∧ ((∃ x ∈ l, 128 ≤ x.toNat) → (Lib.mapGoD Lib.toLowerU n l).length < l.length)
  | 0, l, hl, h => by
    have : l = [] := List.eq_nil_of_length_eq_zero (by omega)
    subst this
    exact ⟨Nat.le_refl _, fun ⟨x, hx, _⟩ => absurd hx (by simp)⟩
  | n + 1, [], hl, h => ⟨Nat.le_refl _, fun ⟨x, hx, _⟩ => absurd hx (by simp)⟩
  | n + 1, b :: t, hl, h => by
    have hne : b :: t ≠ [] := by simp
    have hw := Lib.decodeL_width (b :: t)
    have hle := Lib.decodeL_le (b :: t) hne
    have hr := Lib.toLowerU_range (Lib.decodeL (b :: t)).1 (Lib.decodeL_rune _)
    have he : Lib.mapGoD Lib.toLowerU (n + 1) (b :: t) = Lib.encodeRune (Lib.toLowerU (Lib.decodeL (b :: t)).1) ++ Lib.mapGoD Lib.toLowerU n ((b :: t).drop (Lib.decodeL (b :: t)).2) := by
      show (if b :: t = [] then [] else _) = _
      rw [if_neg hne, if_pos hr.1]
    rw [he] at h ⊢
    have h1 := enc_small _ (fun x hx => h x (List.mem_append_left _ hx))
    have ih := low_small n ((b :: t).drop (Lib.decodeL (b :: t)).2) (by rw [List.length_drop]; omega) (fun x hx => h x (List.mem_append_right _ hx))
    rw [List.length_append, h1]
    rw [List.length_drop] at ih
    refine ⟨by omega, fun ⟨x, hx, hx2⟩ => ?_⟩
    rcases Nat.lt_or_ge b.toNat 128 with hb | hb
    · have hd := Lib.decodeL_ascii b t hb
      rw [hd] at ih hw hle ⊢
      simp only [List.drop_succ_cons, List.drop_zero, List.length_cons] at ih ⊢
      have := ih.2 ⟨x, by
        rcases List.mem_cons.1 hx with e | e
        · subst e; omega
        · exact e, hx2⟩
      omega
    · rcases dec_big (b :: t) hb with h2 | h2
      · omega
      · rw [h2, low_fffd] at h1; omega
theorem low_ne (l k : Bytes) (hk : ∀ x ∈ k, x.toNat < 128) (hl : k.length = l.length) (hw : ∃ x ∈ l, 128 ≤ x.toNat) : Lib.toLowerD l ≠ k := by
  intro e
  have := (low_small l.length l (Nat.le_refl _) (by intro x hx; exact hk x (e ▸ hx))).2 hw
  have e2 : (Lib.mapGoD Lib.toLowerU l.length l).length = k.length := congrArg List.length e
  omega
end Go.Proofs.YtigobehhmodoiaaDoor
