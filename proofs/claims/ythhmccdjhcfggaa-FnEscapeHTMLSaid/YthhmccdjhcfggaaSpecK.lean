/- The reference's Unescaped, ReadText and ReadQuoted. -/
import Derived.Test.YthhmccdjhcfggaaSpecJ
import Derived.Test.YthhmccdjhcfggaaOwn
namespace Go.Proofs.Ythhmccdjhcfggaa
open Go.RowKit
set_option linter.unusedVariables false
set_option linter.unusedSimpArgs false

/-! ### a reference is at least one byte, at most all; what it stands for has at most five -/
theorem numGo_le (B : Nat) : ∀ (l : Bytes) (x i : Nat), i ≤ (numGo B l x i).2 ∧ (numGo B l x i).2 ≤ i + l.length
  | [], x, i => by simp [numGo]
  | b :: t, x, i => by
    unfold numGo
    split
    · have := numGo_le B t (min (x * B + digitV b.toNat) 0x110000) (i + 1)
      simp only [List.length_cons]; omega
    · simp
theorem codedL_le (n : Nat) : (codedL n).length ≤ 4 := by
  unfold codedL
  repeat' split
  all_goals simp
theorem numeric_le (l : Bytes) (h2 : 2 ≤ l.length) (h : (numericL l).2.2 = true) : 1 ≤ (numericL l).2.1 ∧ (numericL l).2.1 ≤ l.length ∧ (numericL l).1.length ≤ 5 := by
  have hF : numFirst l ≤ l.length := by unfold numFirst; split <;> omega
  have h1 : 1 ≤ numFirst l := by unfold numFirst; split <;> omega
  have hp := numGo_le (numBase l) (l.drop (numFirst l)) 0 (numFirst l)
  rw [List.length_drop] at hp
  obtain ⟨⟨x, k⟩, hq⟩ : ∃ p, numGo (numBase l) (l.drop (numFirst l)) 0 (numFirst l) = p := ⟨_, rfl⟩
  rw [hq] at hp
  by_cases hk : k = numFirst l
  · rw [numeric_none l x (by rw [hq, hk])] at h
    cases h
  · rw [numeric_some l x k hq hk]
    have := codedL_le (charOfN x)
    have hp' : numFirst l ≤ k ∧ k ≤ numFirst l + (l.length - numFirst l) := hp
    by_cases c : k < l.length ∧ at0 l k = 59
    · simp only [if_pos c]; omega
    · simp only [if_neg c]; omega
theorem ents_text : ∀ e ∈ ents, e.2.1.length ≤ 5 := by decide
theorem refStep_le (s w : Bytes) (hw : w.length + 1 ≤ s.length) (st : Bytes × Nat) (e : Bytes × Bytes × Bool) (he : e.2.1.length ≤ 5) (h : st.2 ≤ s.length ∧ st.1.length ≤ 5) :
    (refStep s w st e).2 ≤ s.length ∧ (refStep s w st e).1.length ≤ 5 := by
  unfold refStep
  split
  · exact h
  · split
    · exact h
    · refine ⟨?_, he⟩
      show refLong s e ≤ _
      rename_i h1 _
      unfold refLong
      unfold refSkip at h1
      by_cases hsm : semiAt s (e.1.length + 1) = true
      · rw [if_pos hsm]
        unfold semiAt at hsm
        have := of_decide_eq_true (Bool.and_eq_true_iff.1 hsm).1
        omega
      · rw [if_neg hsm]
        by_cases hlt : w.length < e.1.length
        · simp [hlt] at h1
        · omega
theorem refFold_le (s : Bytes) (h2 : 1 ≤ s.length) : (refFold s).2 ≤ s.length ∧ (refFold s).1.length ≤ 5 := by
  have hw : (wordL (s.drop 1)).length + 1 ≤ s.length := by
    have := wordL_le (s.drop 1)
    rw [List.length_drop] at this; omega
  have key : ∀ (es : List (Bytes × Bytes × Bool)) (st : Bytes × Nat), (∀ e ∈ es, e.2.1.length ≤ 5) → (st.2 ≤ s.length ∧ st.1.length ≤ 5) →
      (es.foldl (refStep s (wordL (s.drop 1))) st).2 ≤ s.length ∧ (es.foldl (refStep s (wordL (s.drop 1))) st).1.length ≤ 5 := by
    intro es
    induction es with
    | nil => intro st _ h; exact h
    | cons e es ih =>
      intro st he h
      exact ih _ (fun x hx => he x (List.mem_cons_of_mem _ hx)) (refStep_le s _ hw st e (he e List.mem_cons_self) h)
  exact key ents ([], 0) ents_text ⟨Nat.zero_le _, by simp⟩
theorem reference_le (l : Bytes) (attr : Bool) (h : (referenceL l attr).2.2 = true) : 1 ≤ (referenceL l attr).2.1 ∧ (referenceL l attr).2.1 ≤ l.length ∧ (referenceL l attr).1.length ≤ 5 := by
  unfold referenceL at h ⊢
  by_cases c1 : l.length < 2 ∨ at0 l 0 ≠ 38
  · rw [if_pos c1] at h; cases h
  rw [if_neg c1] at h ⊢
  by_cases c2 : at0 l 1 = 35
  · rw [if_pos c2] at h ⊢
    exact numeric_le l (by omega) h
  rw [if_neg c2] at h ⊢
  by_cases c3 : refNone l attr (refFold l).2 = true
  · rw [if_pos c3] at h; cases h
  rw [if_neg c3]
  have := refFold_le l (by omega)
  refine ⟨?_, this.1, this.2⟩
  show 1 ≤ (refFold l).2
  rcases Nat.eq_zero_or_pos (refFold l).2 with h0 | h0
  · exact absurd (by unfold refNone; rw [h0]; rfl) c3
  · exact h0

theorem unescGo_mono (attr : Bool) : ∀ (f g : Nat) (l : Bytes), l.length ≤ f → l.length ≤ g → unescGo attr f l = unescGo attr g l
  | 0, 0, l, _, _ => rfl
  | 0, g + 1, l, h, _ => by
    have : l = [] := List.eq_nil_of_length_eq_zero (by omega)
    subst this; rfl
  | f + 1, 0, l, _, h => by
    have : l = [] := List.eq_nil_of_length_eq_zero (by omega)
    subst this; rfl
  | f + 1, g + 1, [], _, _ => rfl
  | f + 1, g + 1, b :: t, h1, h2 => by
    unfold unescGo
    simp only [List.length_cons] at h1 h2
    by_cases c : b.toNat = 38 ∧ (referenceL (b :: t) attr).2.2 = true
    · rw [if_pos c, if_pos c]
      have := reference_le (b :: t) attr c.2
      simp only [List.length_cons] at this
      rw [unescGo_mono attr f g _ (by rw [List.length_drop, List.length_cons]; omega) (by rw [List.length_drop, List.length_cons]; omega)]
    · rw [if_neg c, if_neg c, unescGo_mono attr f g t (by omega) (by omega)]
theorem unescL_nil (attr : Bool) : unescL [] attr = [] := rfl
theorem unescL_ref (b : UInt8) (t : Bytes) (attr : Bool) (h1 : b.toNat = 38) (h : (referenceL (b :: t) attr).2.2 = true) :
    unescL (b :: t) attr = (referenceL (b :: t) attr).1 ++ unescL ((b :: t).drop (referenceL (b :: t) attr).2.1) attr := by
  have hl := reference_le (b :: t) attr h
  simp only [List.length_cons] at hl
  unfold unescL
  show unescGo attr (t.length + 1) (b :: t) = _
  conv => lhs; unfold unescGo
  rw [if_pos ⟨h1, h⟩, unescGo_mono attr t.length _ _ (by rw [List.length_drop, List.length_cons]; omega) (Nat.le_refl _)]
theorem unescL_byte (b : UInt8) (t : Bytes) (attr : Bool) (h : ¬ (b.toNat = 38 ∧ (referenceL (b :: t) attr).2.2 = true)) : unescL (b :: t) attr = b :: unescL t attr := by
  unfold unescL
  show unescGo attr (t.length + 1) (b :: t) = _
  conv => lhs; unfold unescGo
  rw [if_neg h]
end Go.Proofs.Ythhmccdjhcfggaa
