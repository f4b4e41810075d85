/- Plain laws: characters, and texts that are read again. -/
import Derived.Test.YthhmccdjhcfggaaSpecL
import Derived.Test.YthhmccdjhcfggaaChr
namespace Go.Proofs.Ythhmccdjhcfggaa
set_option linter.unusedVariables false
set_option linter.unusedSimpArgs false

/-! ### pieces: what is written for a character, and how it is read -/
theorem knownL_plain : ∀ (x r : Bytes), (∀ b ∈ x, b.toNat ≠ 38) → knownL (x ++ r) = knownL r
  | [], r, _ => rfl
  | b :: x, r, h => by
    have h1 : knownL ((b :: x) ++ r) = ((b.toNat != 38 || knownAt (x ++ r)) && knownL (x ++ r)) := rfl
    have h2 := h b List.mem_cons_self
    rw [h1, knownL_plain x r (fun y hy => h y (List.mem_cons_of_mem _ hy))]
    simp [h2]
theorem unescL_plain (attr : Bool) : ∀ (x r : Bytes), (∀ b ∈ x, b.toNat ≠ 38) → unescL (x ++ r) attr = x ++ unescL r attr
  | [], r, _ => rfl
  | b :: x, r, h => by
    have h2 := h b List.mem_cons_self
    show unescL (b :: (x ++ r)) attr = _
    rw [unescL_byte b (x ++ r) attr (by simp [h2]), unescL_plain attr x r (fun y hy => h y (List.mem_cons_of_mem _ hy))]
    rfl
/-- x is read as c, whatever follows; it has none of q, 0, 13. -/
structure Piece (attr : Bool) (q : Nat) (x c : Bytes) : Prop where
  un : ∀ r, unescL (x ++ r) attr = c ++ unescL r attr
  va : ∀ r, validL (x ++ r) = validL r
  kn : ∀ r, knownL (x ++ r) = knownL r
  ok : ∀ b ∈ x, b.toNat ≠ q ∧ b.toNat ≠ 0 ∧ b.toNat ≠ 13
theorem Piece.keep {attr : Bool} {q : Nat} {c : Bytes} (hc : IsChar c) (h : ∀ b ∈ c, b.toNat ≠ 38 ∧ b.toNat ≠ q ∧ b.toNat ≠ 0 ∧ b.toNat ≠ 13) : Piece attr q c c :=
  ⟨fun r => unescL_plain attr c r (fun b hb => (h b hb).1), fun r => validL_char c r hc, fun r => knownL_plain c r (fun b hb => (h b hb).1), fun b hb => (h b hb).2⟩
theorem piece_of {attr : Bool} {q : Nat} {t c : Bytes} (hr : ∀ r, referenceL (38 :: t ++ r) attr = (c, t.length + 1, true)) (hk : ∀ r, knownAt (t ++ r) = true)
    (hb : ∀ b ∈ t, b.toNat ≠ 38 ∧ b.toNat < 128 ∧ b.toNat ≠ q ∧ b.toNat ≠ 0 ∧ b.toNat ≠ 13) (hq : q ≠ 38) : Piece attr q (38 :: t) c := by
  refine ⟨fun r => ?_, fun r => ?_, fun r => ?_, ?_⟩
  · have h1 := hr r
    show unescL (38 :: (t ++ r)) attr = _
    rw [unescL_ref 38 (t ++ r) attr rfl (by show (referenceL (38 :: t ++ r) attr).2.2 = true; rw [h1])]
    show (referenceL (38 :: t ++ r) attr).1 ++ unescL ((38 :: t ++ r).drop (referenceL (38 :: t ++ r) attr).2.1) attr = _
    rw [h1]
    show c ++ unescL ((38 :: t ++ r).drop (38 :: t).length) attr = _
    rw [List.drop_left]
  · refine validL_ascii (38 :: t) r ?_
    intro b h
    rcases List.mem_cons.1 h with rfl | h
    · decide
    · exact (hb b h).2.1
  · have h1 : knownL ((38 :: t) ++ r) = (((38 : UInt8).toNat != 38 || knownAt (t ++ r)) && knownL (t ++ r)) := rfl
    rw [h1, hk r, knownL_plain t r (fun b h => (hb b h).1)]
    simp
  · intro b h
    rcases List.mem_cons.1 h with rfl | h
    · exact ⟨fun h' => hq h'.symm, by decide, by decide⟩
    · exact (hb b h).2.2
theorem Piece.not {attr : Bool} {q : Nat} {x c : Bytes} (h : Piece attr q x c) : hasB x q = false ∧ hasAnyB x [0, 13] = false := by
  constructor
  · unfold hasB
    rw [List.any_eq_false]
    intro b hb
    simpa using (h.ok b hb).1
  · unfold hasAnyB hasB
    rw [List.any_eq_false]
    intro b hb
    have := h.ok b hb
    simp
    exact ⟨fun e => this.2.1 e.symm, fun e => this.2.2 e.symm⟩
theorem plainL_drop (l : Bytes) (n : Nat) (h : hasAnyB l [0, 13] = false) : hasAnyB (l.drop n) [0, 13] = false ∧ hasAnyB (l.take n) [0, 13] = false := by
  rw [← List.take_append_drop n l, hasAnyB_app, Bool.or_eq_false_iff] at h
  exact ⟨h.2, h.1⟩
theorem hasAny_mem {l : Bytes} (h : hasAnyB l [0, 13] = false) {b : UInt8} (hb : b ∈ l) : b.toNat ≠ 0 ∧ b.toNat ≠ 13 := by
  unfold hasAnyB hasB at h
  rw [List.any_eq_false] at h
  have := h b hb
  simp at this
  exact ⟨fun e => this.1 e.symm, fun e => this.2 e.symm⟩

/-- A replacer whose pieces are read as the characters that they stand for: the whole is read as the text. -/
theorem repl_reads (T : Nat → Bytes) (n : Nat) (bad attr : Bool) (q : Nat)
    (hP : ∀ l, l ≠ [] → sizeL l ≠ 0 → hasAnyB (l.take (sizeL l)) [0, 13] = false → Piece attr q (replOne T n bad l) (l.take (sizeL l)))
    (l : Bytes) (hl : plainL l = true) : readL (replL T n bad l) q attr = (l, true) := by
  have key : ∀ l, validL l = true → hasAnyB l [0, 13] = false →
      hasB (replL T n bad l) q = false ∧ validL (replL T n bad l) = true ∧ knownL (replL T n bad l) = true ∧ hasAnyB (replL T n bad l) [0, 13] = false ∧ unescL (replL T n bad l) attr = l := by
    intro l h
    refine valid_ind (P := fun l => hasAnyB l [0, 13] = false → hasB (replL T n bad l) q = false ∧ validL (replL T n bad l) = true ∧ knownL (replL T n bad l) = true ∧ hasAnyB (replL T n bad l) [0, 13] = false ∧ unescL (replL T n bad l) attr = l) ?_ ?_ l h
    · intro _; exact ⟨rfl, rfl, rfl, rfl, rfl⟩
    · intro l hne hs hv ih hz
      have hz1 := plainL_drop l (sizeL l) hz
      have hp := hP l hne hs hz1.2
      have hn := hp.not
      obtain ⟨i1, i2, i3, i4, i5⟩ := ih hz1.1
      rw [replL_step T n bad l hne, size_dec l hs]
      refine ⟨?_, ?_, ?_, ?_, ?_⟩
      · rw [hasB_app, hn.1, i1]; rfl
      · rw [hp.va]; exact i2
      · rw [hp.kn]; exact i3
      · rw [hasAnyB_app, hn.2, i4]; rfl
      · rw [hp.un, i5, List.take_append_drop]
  have h2 : validL l = true ∧ hasAnyB l [0, 13] = false := by simpa [plainL] using hl
  obtain ⟨i1, i2, i3, i4, i5⟩ := key l h2.1 h2.2
  have hb : readBad (replL T n bad l) q = false := by unfold readBad; rw [i1, i2, i3, i4]; rfl
  unfold readL
  rw [hb, i5]; rfl
end Go.Proofs.Ythhmccdjhcfggaa
