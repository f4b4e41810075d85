/- Plain laws: references behind a replacer that turns no byte of references, and texts read again. -/
import Derived.Test.YteheelcppgjeaaaDoorLawD
namespace Go.Proofs.YteheelcppgjeaaaDoor
set_option linter.unusedVariables false
set_option linter.unusedSimpArgs false

theorem semiAt_cons (t : Bytes) (k : Nat) : semiAt (38 :: t) (k + 1) = (decide (k < t.length) && at0 t k == 59) := by
  unfold semiAt
  rw [at0_cons_succ]
  simp
theorem take_kept {T : Nat → Bytes} {n : Nat} (hT : Turns T n) (t : Bytes) (k : Nat) (b : UInt8) (hb : b ∈ (wordL t).take k) : byteR T n b = [b] :=
  keep_alnum hT b (word_alnum t b (List.mem_of_mem_take hb))
/-- A test at a place in or just behind the word. -/
theorem test_word {T : Nat → Bytes} {n : Nat} (hT : Turns T n) (p : Nat → Bool) (h38 : p 38 = false)
    (hp : ∀ b : UInt8, isAlnumB b.toNat = false → b.toNat ≠ 35 → b.toNat ≠ 59 → b.toNat ≠ 61 → b.toNat ≠ 38 → p b.toNat = false) (t : Bytes) (k : Nat) (hk : k ≤ (wordL t).length) :
    (decide (k < (bytesR T n t).length) && p (at0 (bytesR T n t) k)) = (decide (k < t.length) && p (at0 t k)) := by
  obtain ⟨r, hr⟩ := word_split t
  have e : t = (wordL t).take k ++ ((wordL t).drop k ++ r) := by rw [← List.append_assoc, List.take_append_drop]; exact hr
  have hl : ((wordL t).take k).length = k := by rw [List.length_take]; omega
  have h := test_at hT p h38 hp ((wordL t).take k) ((wordL t).drop k ++ r) (take_kept hT t k)
  rw [hl, ← e] at h
  exact h
theorem at0_word (t : Bytes) (k : Nat) (hk : k < (wordL t).length) : isAlnumB (at0 t k) = true := by
  obtain ⟨r, hr⟩ := word_split t
  have h1 : at0 t k = at0 (wordL t) k := by rw [← at0_app (wordL t) r k hk, ← hr]
  obtain ⟨b, hb, e⟩ := at0_mem (wordL t) k hk
  rw [h1, ← e]
  exact word_alnum t b hb
theorem ne59_of_alnum {c : Nat} (h : isAlnumB c = true) : c ≠ 59 := by rintro rfl; revert h; decide
theorem semi_word (t : Bytes) (k : Nat) (hk : k < (wordL t).length) : semiAt (38 :: t) (k + 1) = false := by
  rw [semiAt_cons]
  have := ne59_of_alnum (at0_word t k hk)
  simp [this]
theorem semi_bytes {T : Nat → Bytes} {n : Nat} (hT : Turns T n) (t : Bytes) (k : Nat) (hk : k ≤ (wordL t).length) : semiAt (38 :: bytesR T n t) (k + 1) = semiAt (38 :: t) (k + 1) := by
  rw [semiAt_cons, semiAt_cons]
  exact test_word hT (fun c => c == 59) (by decide) (fun b _ _ h _ _ => by simpa using h) t k hk
theorem fold_bytes {T : Nat → Bytes} {n : Nat} (hT : Turns T n) (t : Bytes) : refFold (38 :: bytesR T n t) = refFold (38 :: t) := by
  unfold refFold
  show ents.foldl (refStep (38 :: bytesR T n t) (wordL (bytesR T n t))) ([], 0) = ents.foldl (refStep (38 :: t) (wordL t)) ([], 0)
  rw [word_bytes hT]
  exact foldl_congr _ _ _ (fun a b => refStep_congr _ _ _ (fun k hk => semi_bytes hT t k hk) a b) _
theorem none_bytes {T : Nat → Bytes} {n : Nat} (hT : Turns T n) (t : Bytes) (attr : Bool) (m : Nat) (hm : LenOk (38 :: t) (wordL t) m) : refNone (38 :: bytesR T n t) attr m = refNone (38 :: t) attr m := by
  cases m with
  | zero => rfl
  | succ m =>
    unfold refNone
    simp only [Nat.add_sub_cancel]
    rcases hm with h | ⟨h1, h2⟩
    · have e1 : ∀ y : Bytes, wordL y = wordL t → (at0 (38 :: y) m != 59) = true := by
        intro y hy
        cases m with
        | zero => rfl
        | succ j =>
          rw [at0_cons_succ]
          have := ne59_of_alnum (at0_word y j (by rw [hy]; omega))
          simpa using this
      rw [e1 _ (word_bytes hT t), e1 t rfl, at0_cons_succ, at0_cons_succ]
      have := test_word hT (fun c => c == 61 || isAlnumB c) (by decide) (fun b h1 _ _ h3 _ => by simp [h1, h3]) t m (by omega)
      simp only [List.length_cons, Nat.add_lt_add_iff_right]
      rw [Bool.and_assoc, Bool.and_assoc, Bool.and_assoc, Bool.and_assoc, this]
    · have e1 : (at0 (38 :: t) m == 59) = true := by
        have : m = (wordL t).length + 1 := by omega
        rw [this]
        unfold semiAt at h2
        exact (Bool.and_eq_true_iff.1 h2).2
      have e2 : (at0 (38 :: bytesR T n t) m == 59) = true := by
        have : m = (wordL t).length + 1 := by omega
        rw [this]
        rw [← semi_bytes hT t _ (Nat.le_refl _)] at h2
        unfold semiAt at h2
        exact (Bool.and_eq_true_iff.1 h2).2
      simp only [bne, e1, e2]
      simp

/-! ### numeric references -/
theorem digit_alnum (b : UInt8) (B : Nat) (hB : B ≤ 16) (h : digitV b.toNat < B) : isAlnumB b.toNat = true := by
  unfold digitV at h
  unfold isAlnumB isAlphaB
  split at h
  · simp; omega
  · split at h
    · simp; omega
    · split at h
      · simp; omega
      · omega
theorem num_bytes {T : Nat → Bytes} {n : Nat} (hT : Turns T n) (B : Nat) (hB : B ≤ 16) : ∀ (l : Bytes) (x i : Nat), numGo B (bytesR T n l) x i = numGo B l x i
  | [], x, i => rfl
  | b :: t, x, i => by
    rw [bytesR_cons]
    rcases hT b with h | ⟨h1, h2, h3, h4, h5, y, h6⟩
    · rw [h]
      show numGo B (b :: bytesR T n t) x i = _
      unfold numGo
      rw [num_bytes hT B hB t]
    · have hd : ¬ digitV b.toNat < B := fun h => by rw [digit_alnum b B hB h] at h1; cases h1
      rw [h6]
      show numGo B (38 :: (y ++ bytesR T n t)) x i = _
      unfold numGo
      have h99 : digitV (38 : UInt8).toNat = 99 := by decide
      rw [if_neg hd, h99, if_neg (by omega)]
theorem num_split (B : Nat) : ∀ (l : Bytes) (x i : Nat), ∃ d r, l = d ++ r ∧ (∀ b ∈ d, digitV b.toNat < B) ∧ (numGo B l x i).2 = i + d.length
  | [], x, i => ⟨[], [], rfl, by simp, rfl⟩
  | b :: t, x, i => by
    by_cases h : digitV b.toNat < B
    · obtain ⟨d, r, h1, h2, h3⟩ := num_split B t (min (x * B + digitV b.toNat) 0x110000) (i + 1)
      refine ⟨b :: d, r, by rw [h1]; rfl, ?_, ?_⟩
      · intro c hc
        rcases List.mem_cons.1 hc with rfl | hc
        · exact h
        · exact h2 c hc
      · unfold numGo
        rw [if_pos h, h3, List.length_cons]; omega
    · exact ⟨[], b :: t, rfl, by simp, by unfold numGo; rw [if_neg h]; rfl⟩
theorem prop_of_bool {a b c d : Prop} [Decidable a] [Decidable b] [Decidable c] [Decidable d] (h : (decide a && decide b) = (decide c && decide d)) : (a ∧ b) = (c ∧ d) := by
  have : (decide (a ∧ b)) = decide (c ∧ d) := by simpa using h
  exact propext (decide_eq_decide.1 this)
end Go.Proofs.YteheelcppgjeaaaDoor
