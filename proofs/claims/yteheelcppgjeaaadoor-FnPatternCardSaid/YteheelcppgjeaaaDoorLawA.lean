/- Plain laws: characters, and texts that are read again. -/
import Derived.Test.YteheelcppgjeaaaDoorSpecL
import Derived.Test.YteheelcppgjeaaaDoorPlainH
namespace Go.Proofs.YteheelcppgjeaaaDoor
set_option linter.unusedVariables false
set_option linter.unusedSimpArgs false

/-! ### characters -/
theorem at0_app (c r : Bytes) (i : Nat) (h : i < c.length) : at0 (c ++ r) i = at0 c i := by
  unfold at0; simp [List.getD_eq_getElem?_getD, List.getElem?_append_left h]
theorem at0_take (l : Bytes) (n i : Nat) (h : i < n) : at0 (l.take n) i = at0 l i := by
  unfold at0; simp [List.getD_eq_getElem?_getD, List.getElem?_take_of_lt h]
theorem at0_mem (l : Bytes) (i : Nat) (h : i < l.length) : ∃ b ∈ l, b.toNat = at0 l i := by
  refine ⟨l[i], List.getElem_mem h, ?_⟩
  unfold at0; simp [List.getD_eq_getElem?_getD, List.getElem?_eq_getElem h]
theorem mem_at0 (l : Bytes) (b : UInt8) (h : b ∈ l) : ∃ i, i < l.length ∧ at0 l i = b.toNat := by
  obtain ⟨i, hi, rfl⟩ := List.getElem_of_mem h
  refine ⟨i, hi, ?_⟩
  unfold at0; simp [List.getD_eq_getElem?_getD, List.getElem?_eq_getElem hi]

/-- What a first character's width says. -/
inductive Wide (l : Bytes) : Nat → Prop
  | one : at0 l 0 < 128 → Wide l 1
  | two : 194 ≤ at0 l 0 → at0 l 0 < 224 → 2 ≤ l.length → at0 l 1 / 64 = 2 → Wide l 2
  | three : 224 ≤ at0 l 0 → at0 l 0 < 240 → 3 ≤ l.length → at0 l 1 / 64 = 2 → at0 l 2 / 64 = 2 →
      (2048 ≤ (at0 l 0 % 16 * 64 + at0 l 1 % 64) * 64 + at0 l 2 % 64 ∧ ((at0 l 0 % 16 * 64 + at0 l 1 % 64) * 64 + at0 l 2 % 64 < 55296 ∨ 57343 < (at0 l 0 % 16 * 64 + at0 l 1 % 64) * 64 + at0 l 2 % 64)) → Wide l 3
  | four : 240 ≤ at0 l 0 → at0 l 0 < 245 → 4 ≤ l.length → at0 l 1 / 64 = 2 → at0 l 2 / 64 = 2 → at0 l 3 / 64 = 2 →
      (65536 ≤ ((at0 l 0 % 8 * 64 + at0 l 1 % 64) * 64 + at0 l 2 % 64) * 64 + at0 l 3 % 64 ∧ ((at0 l 0 % 8 * 64 + at0 l 1 % 64) * 64 + at0 l 2 % 64) * 64 + at0 l 3 % 64 ≤ 1114111) → Wide l 4
theorem wide_of (l : Bytes) (h : sizeL l ≠ 0) : Wide l (sizeL l) := by
  have hb := at0_lt l 0
  by_cases c1 : at0 l 0 < 128
  · rw [sizeL_1 l c1]; exact .one c1
  by_cases c2 : at0 l 0 < 194 ∨ 245 ≤ at0 l 0
  · exact absurd (sizeL_0 l (by omega)) h
  by_cases c3 : at0 l 0 < 224
  · rw [sizeL_2 l (by omega) c3] at h ⊢
    split at h
    · rename_i hh
      rw [if_pos hh]; exact .two (by omega) c3 hh.1 hh.2
    · exact absurd rfl h
  by_cases c4 : at0 l 0 < 240
  · rw [sizeL_3 l (by omega) c4] at h ⊢
    split at h
    · rename_i hh
      rw [if_pos hh]; exact .three (by omega) c4 hh.1 hh.2.1 hh.2.2.1 hh.2.2.2
    · exact absurd rfl h
  · rw [sizeL_4 l (by omega) (by omega)] at h ⊢
    split at h
    · rename_i hh
      rw [if_pos hh]; exact .four (by omega) (by omega) hh.1 hh.2.1 hh.2.2.1 hh.2.2.2.1 hh.2.2.2.2
    · exact absurd rfl h
theorem Wide.size {l : Bytes} {n : Nat} (h : Wide l n) : sizeL l = n := by
  cases h with
  | one a => exact sizeL_1 l a
  | two a b c d => rw [sizeL_2 l a b, if_pos ⟨c, d⟩]
  | three a b c d e f => rw [sizeL_3 l a b, if_pos ⟨c, d, e, f⟩]
  | four a b c d e f g => rw [sizeL_4 l a b, if_pos ⟨c, d, e, f, g⟩]
/-- Only the character's own bytes count. -/
theorem Wide.of_eq {l m : Bytes} {n : Nat} (h : Wide l n) (hl : n ≤ m.length) (e : ∀ i, i < n → at0 m i = at0 l i) : Wide m n := by
  cases h with
  | one a => exact .one (by rw [e 0 (by omega)]; exact a)
  | two a b c d => exact .two (by rw [e 0 (by omega)]; exact a) (by rw [e 0 (by omega)]; exact b) hl (by rw [e 1 (by omega)]; exact d)
  | three a b c d k f =>
    exact .three (by rw [e 0 (by omega)]; exact a) (by rw [e 0 (by omega)]; exact b) hl (by rw [e 1 (by omega)]; exact d) (by rw [e 2 (by omega)]; exact k)
      (by rw [e 0 (by omega), e 1 (by omega), e 2 (by omega)]; exact f)
  | four a b c d k f g =>
    exact .four (by rw [e 0 (by omega)]; exact a) (by rw [e 0 (by omega)]; exact b) hl (by rw [e 1 (by omega)]; exact d) (by rw [e 2 (by omega)]; exact k)
      (by rw [e 3 (by omega)]; exact f) (by rw [e 0 (by omega), e 1 (by omega), e 2 (by omega), e 3 (by omega)]; exact g)
theorem size_dec (l : Bytes) (h : sizeL l ≠ 0) : (decL l).2 = sizeL l := by
  unfold sizeL at h ⊢
  split at h
  · exact absurd rfl h
  · rename_i hh; rw [if_neg hh]
/-- One character. -/
def IsChar (c : Bytes) : Prop := c ≠ [] ∧ Wide c c.length
theorem isChar_take (l : Bytes) (hne : l ≠ []) (h : sizeL l ≠ 0) : IsChar (l.take (sizeL l)) ∧ (l.take (sizeL l)).length = sizeL l := by
  have hle := sizeL_le l hne
  have hlen : (l.take (sizeL l)).length = sizeL l := by rw [List.length_take]; omega
  refine ⟨⟨fun h' => by rw [h'] at hlen; simp at hlen; omega, ?_⟩, hlen⟩
  rw [hlen]
  exact (wide_of l h).of_eq (by omega) (fun i hi => at0_take l _ i hi)
theorem IsChar.size {c : Bytes} (h : IsChar c) (r : Bytes) : sizeL (c ++ r) = c.length :=
  (h.2.of_eq (m := c ++ r) (by simp) (fun i hi => at0_app c r i hi)).size
theorem validL_char (c r : Bytes) (h : IsChar c) : validL (c ++ r) = validL r := by
  rw [validL_step (c ++ r) (by have := h.1; cases c <;> simp_all), h.size r, List.drop_left]
  have : c.length ≠ 0 := fun h0 => h.1 (List.eq_nil_of_length_eq_zero h0)
  simp [this]
theorem isChar_ascii (b : UInt8) (h : b.toNat < 128) : IsChar [b] := ⟨by simp, .one (by simpa [at0] using h)⟩
theorem validL_ascii : ∀ (x r : Bytes), (∀ b ∈ x, b.toNat < 128) → validL (x ++ r) = validL r
  | [], r, _ => rfl
  | b :: x, r, h => by
    have h1 := validL_char [b] (x ++ r) (isChar_ascii b (h b List.mem_cons_self))
    have h2 := validL_ascii x r (fun y hy => h y (List.mem_cons_of_mem _ hy))
    rw [← h2, ← h1]; rfl
/-- A character's bytes: one below 128, or all from 128 on. -/
theorem IsChar.bytes {c : Bytes} (h : IsChar c) : (∃ b, c = [b] ∧ b.toNat < 128) ∨ ∀ b ∈ c, 128 ≤ b.toNat := by
  rcases h with ⟨hne, hw⟩
  generalize hn : c.length = n at hw
  cases hw with
  | one a =>
    left
    match c, hn with
    | [b], _ => exact ⟨b, rfl, by simpa [at0] using a⟩
  | two a b c' d =>
    right
    intro x hx
    obtain ⟨i, hi, e⟩ := mem_at0 c x hx
    rw [← e]
    rcases (by omega : i = 0 ∨ i = 1) with rfl | rfl <;> omega
  | three a b c' d e' f =>
    right
    intro x hx
    obtain ⟨i, hi, e⟩ := mem_at0 c x hx
    rw [← e]
    rcases (by omega : i = 0 ∨ i = 1 ∨ i = 2) with rfl | rfl | rfl <;> omega
  | four a b c' d e' f g =>
    right
    intro x hx
    obtain ⟨i, hi, e⟩ := mem_at0 c x hx
    rw [← e]
    rcases (by omega : i = 0 ∨ i = 1 ∨ i = 2 ∨ i = 3) with rfl | rfl | rfl | rfl <;> omega
/-- Induction over the characters of a text in UTF-8. -/
theorem valid_ind {P : Bytes → Prop} (h0 : P []) (h1 : ∀ l, l ≠ [] → sizeL l ≠ 0 → validL (l.drop (sizeL l)) = true → P (l.drop (sizeL l)) → P l) (l : Bytes) (h : validL l = true) : P l := by
  generalize hn : l.length = n
  induction n using Nat.strongRecOn generalizing l with
  | _ n ih =>
    by_cases hl : l = []
    · rw [hl]; exact h0
    · rw [validL_step l hl, Bool.and_eq_true] at h
      have hs : sizeL l ≠ 0 := by simpa using h.1
      have hle := sizeL_le l hl
      exact h1 l hl hs h.2 (ih (l.drop (sizeL l)).length (by rw [List.length_drop]; omega) _ h.2 rfl)
theorem dec_ascii (l : Bytes) (h : (decL l).1 < 128) : at0 l 0 = (decL l).1 ∧ (decL l).2 = 1 := by
  unfold decL Go.Lib.decodeN at h ⊢
  generalize at0 l 0 = b0, at0 l 1 = b1, at0 l 2 = b2, at0 l 3 = b3, l.length = n at *
  repeat' split
  all_goals simp_all
  all_goals omega

/-! ### pieces: what is written for a character, and how it is read -/
theorem knownL_plain : ∀ (x r : Bytes), (∀ b ∈ x, b.toNat ≠ 38) → knownL (x ++ r) = knownL r
  | [], r, _ => rfl
  | b :: x, r, h => by
    have h1 : knownL ((b :: x) ++ r) = ((b.toNat != 38 || knownAt (x ++ r)) && knownL (x ++ r)) := rfl
    have h2 := h b List.mem_cons_self
    rw [h1, knownL_plain x r (fun y hy => h y (List.mem_cons_of_mem _ hy))]
    simp [h2]
theorem unescL_plain (attr : Bool) : ∀ (x r : Bytes), (∀ b ∈ x, b.toNat ≠ 38) → unescL (x ++ r) attr = x ++ unescL r attr
  | [], r, _ => rfl
  | b :: x, r, h => by
    have h2 := h b List.mem_cons_self
    show unescL (b :: (x ++ r)) attr = _
    rw [unescL_byte b (x ++ r) attr (by simp [h2]), unescL_plain attr x r (fun y hy => h y (List.mem_cons_of_mem _ hy))]
    rfl
/-- x is read as c, whatever follows; it has none of q, 0, 13. -/
structure Piece (attr : Bool) (q : Nat) (x c : Bytes) : Prop where
  un : ∀ r, unescL (x ++ r) attr = c ++ unescL r attr
  va : ∀ r, validL (x ++ r) = validL r
  kn : ∀ r, knownL (x ++ r) = knownL r
  ok : ∀ b ∈ x, b.toNat ≠ q ∧ b.toNat ≠ 0 ∧ b.toNat ≠ 13
theorem Piece.keep {attr : Bool} {q : Nat} {c : Bytes} (hc : IsChar c) (h : ∀ b ∈ c, b.toNat ≠ 38 ∧ b.toNat ≠ q ∧ b.toNat ≠ 0 ∧ b.toNat ≠ 13) : Piece attr q c c :=
  ⟨fun r => unescL_plain attr c r (fun b hb => (h b hb).1), fun r => validL_char c r hc, fun r => knownL_plain c r (fun b hb => (h b hb).1), fun b hb => (h b hb).2⟩
theorem piece_of {attr : Bool} {q : Nat} {t c : Bytes} (hr : ∀ r, referenceL (38 :: t ++ r) attr = (c, t.length + 1, true)) (hk : ∀ r, knownAt (t ++ r) = true)
    (hb : ∀ b ∈ t, b.toNat ≠ 38 ∧ b.toNat < 128 ∧ b.toNat ≠ q ∧ b.toNat ≠ 0 ∧ b.toNat ≠ 13) (hq : q ≠ 38) : Piece attr q (38 :: t) c := by
  refine ⟨fun r => ?_, fun r => ?_, fun r => ?_, ?_⟩
  · have h1 := hr r
    show unescL (38 :: (t ++ r)) attr = _
    rw [unescL_ref 38 (t ++ r) attr rfl (by show (referenceL (38 :: t ++ r) attr).2.2 = true; rw [h1])]
    show (referenceL (38 :: t ++ r) attr).1 ++ unescL ((38 :: t ++ r).drop (referenceL (38 :: t ++ r) attr).2.1) attr = _
    rw [h1]
    show c ++ unescL ((38 :: t ++ r).drop (38 :: t).length) attr = _
    rw [List.drop_left]
  · refine validL_ascii (38 :: t) r ?_
    intro b h
    rcases List.mem_cons.1 h with rfl | h
    · decide
    · exact (hb b h).2.1
  · have h1 : knownL ((38 :: t) ++ r) = (((38 : UInt8).toNat != 38 || knownAt (t ++ r)) && knownL (t ++ r)) := rfl
    rw [h1, hk r, knownL_plain t r (fun b h => (hb b h).1)]
    simp
  · intro b h
    rcases List.mem_cons.1 h with rfl | h
    · exact ⟨fun h' => hq h'.symm, by decide, by decide⟩
    · exact (hb b h).2.2
theorem hasB_app (x y : Bytes) (q : Nat) : hasB (x ++ y) q = (hasB x q || hasB y q) := by simp [hasB]
theorem hasAnyB_app (x y m : Bytes) : hasAnyB (x ++ y) m = (hasAnyB x m || hasAnyB y m) := by simp [hasAnyB]
theorem Piece.not {attr : Bool} {q : Nat} {x c : Bytes} (h : Piece attr q x c) : hasB x q = false ∧ hasAnyB x [0, 13] = false := by
  constructor
  · unfold hasB
    rw [List.any_eq_false]
    intro b hb
    simpa using (h.ok b hb).1
  · unfold hasAnyB hasB
    rw [List.any_eq_false]
    intro b hb
    have := h.ok b hb
    simp
    exact ⟨fun e => this.2.1 e.symm, fun e => this.2.2 e.symm⟩
theorem plainL_drop (l : Bytes) (n : Nat) (h : hasAnyB l [0, 13] = false) : hasAnyB (l.drop n) [0, 13] = false ∧ hasAnyB (l.take n) [0, 13] = false := by
  rw [← List.take_append_drop n l, hasAnyB_app, Bool.or_eq_false_iff] at h
  exact ⟨h.2, h.1⟩
theorem hasAny_mem {l : Bytes} (h : hasAnyB l [0, 13] = false) {b : UInt8} (hb : b ∈ l) : b.toNat ≠ 0 ∧ b.toNat ≠ 13 := by
  unfold hasAnyB hasB at h
  rw [List.any_eq_false] at h
  have := h b hb
  simp at this
  exact ⟨fun e => this.1 e.symm, fun e => this.2 e.symm⟩

/-- A replacer whose pieces are read as the characters that they stand for: the whole is read as the text. -/
theorem repl_reads (T : Nat → Bytes) (n : Nat) (bad attr : Bool) (q : Nat)
    (hP : ∀ l, l ≠ [] → sizeL l ≠ 0 → hasAnyB (l.take (sizeL l)) [0, 13] = false → Piece attr q (replOne T n bad l) (l.take (sizeL l)))
    (l : Bytes) (hl : plainL l = true) : readL (replL T n bad l) q attr = (l, true) := by
  have key : ∀ l, validL l = true → hasAnyB l [0, 13] = false →
      hasB (replL T n bad l) q = false ∧ validL (replL T n bad l) = true ∧ knownL (replL T n bad l) = true ∧ hasAnyB (replL T n bad l) [0, 13] = false ∧ unescL (replL T n bad l) attr = l := by
    intro l h
    refine valid_ind (P := fun l => hasAnyB l [0, 13] = false → hasB (replL T n bad l) q = false ∧ validL (replL T n bad l) = true ∧ knownL (replL T n bad l) = true ∧ hasAnyB (replL T n bad l) [0, 13] = false ∧ unescL (replL T n bad l) attr = l) ?_ ?_ l h
    · intro _; exact ⟨rfl, rfl, rfl, rfl, rfl⟩
    · intro l hne hs hv ih hz
      have hz1 := plainL_drop l (sizeL l) hz
      have hp := hP l hne hs hz1.2
      have hn := hp.not
      obtain ⟨i1, i2, i3, i4, i5⟩ := ih hz1.1
      rw [replL_step T n bad l hne, size_dec l hs]
      refine ⟨?_, ?_, ?_, ?_, ?_⟩
      · rw [hasB_app, hn.1, i1]; rfl
      · rw [hp.va]; exact i2
      · rw [hp.kn]; exact i3
      · rw [hasAnyB_app, hn.2, i4]; rfl
      · rw [hp.un, i5, List.take_append_drop]
  have h2 : validL l = true ∧ hasAnyB l [0, 13] = false := by simpa [plainL] using hl
  obtain ⟨i1, i2, i3, i4, i5⟩ := key l h2.1 h2.2
  have hb : readBad (replL T n bad l) q = false := by unfold readBad; rw [i1, i2, i3, i4]; rfl
  unfold readL
  rw [hb, i5]; rfl
end Go.Proofs.YteheelcppgjeaaaDoor
