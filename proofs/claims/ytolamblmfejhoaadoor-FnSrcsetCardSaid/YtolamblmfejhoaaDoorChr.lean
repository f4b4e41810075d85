/- Plain laws: characters in UTF-8. -/
import Derived.Test.YtolamblmfejhoaaDoorSpecC
import Derived.Test.YtolamblmfejhoaaDoorPlainH
namespace Go.Proofs.YtolamblmfejhoaaDoor
set_option linter.unusedVariables false
set_option linter.unusedSimpArgs false

/-! ### characters -/
theorem at0_app (c r : Bytes) (i : Nat) (h : i < c.length) : at0 (c ++ r) i = at0 c i := by
  unfold at0; simp [List.getD_eq_getElem?_getD, List.getElem?_append_left h]
theorem at0_take (l : Bytes) (n i : Nat) (h : i < n) : at0 (l.take n) i = at0 l i := by
  unfold at0; simp [List.getD_eq_getElem?_getD, List.getElem?_take_of_lt h]
theorem at0_mem (l : Bytes) (i : Nat) (h : i < l.length) : ∃ b ∈ l, b.toNat = at0 l i := by
  refine ⟨l[i], List.getElem_mem h, ?_⟩
  unfold at0; simp [List.getD_eq_getElem?_getD, List.getElem?_eq_getElem h]
theorem mem_at0 (l : Bytes) (b : UInt8) (h : b ∈ l) : ∃ i, i < l.length ∧ at0 l i = b.toNat := by
  obtain ⟨i, hi, rfl⟩ := List.getElem_of_mem h
  refine ⟨i, hi, ?_⟩
  unfold at0; simp [List.getD_eq_getElem?_getD, List.getElem?_eq_getElem hi]

/-- What a first character's width says. -/
inductive Wide (l : Bytes) : Nat → Prop
  | one : at0 l 0 < 128 → Wide l 1
  | two : 194 ≤ at0 l 0 → at0 l 0 < 224 → 2 ≤ l.length → at0 l 1 / 64 = 2 → Wide l 2
  | three : 224 ≤ at0 l 0 → at0 l 0 < 240 → 3 ≤ l.length → at0 l 1 / 64 = 2 → at0 l 2 / 64 = 2 →
      (2048 ≤ (at0 l 0 % 16 * 64 + at0 l 1 % 64) * 64 + at0 l 2 % 64 ∧ ((at0 l 0 % 16 * 64 + at0 l 1 % 64) * 64 + at0 l 2 % 64 < 55296 ∨ 57343 < (at0 l 0 % 16 * 64 + at0 l 1 % 64) * 64 + at0 l 2 % 64)) → Wide l 3
  | four : 240 ≤ at0 l 0 → at0 l 0 < 245 → 4 ≤ l.length → at0 l 1 / 64 = 2 → at0 l 2 / 64 = 2 → at0 l 3 / 64 = 2 →
      (65536 ≤ ((at0 l 0 % 8 * 64 + at0 l 1 % 64) * 64 + at0 l 2 % 64) * 64 + at0 l 3 % 64 ∧ ((at0 l 0 % 8 * 64 + at0 l 1 % 64) * 64 + at0 l 2 % 64) * 64 + at0 l 3 % 64 ≤ 1114111) → Wide l 4
theorem wide_of (l : Bytes) (h : sizeL l ≠ 0) : Wide l (sizeL l) := by
  have hb := at0_lt l 0
  by_cases c1 : at0 l 0 < 128
  · rw [sizeL_1 l c1]; exact .one c1
  by_cases c2 : at0 l 0 < 194 ∨ 245 ≤ at0 l 0
  · exact absurd (sizeL_0 l (by omega)) h
  by_cases c3 : at0 l 0 < 224
  · rw [sizeL_2 l (by omega) c3] at h ⊢
    split at h
    · rename_i hh
      rw [if_pos hh]; exact .two (by omega) c3 hh.1 hh.2
    · exact absurd rfl h
  by_cases c4 : at0 l 0 < 240
  · rw [sizeL_3 l (by omega) c4] at h ⊢
    split at h
    · rename_i hh
      rw [if_pos hh]; exact .three (by omega) c4 hh.1 hh.2.1 hh.2.2.1 hh.2.2.2
    · exact absurd rfl h
  · rw [sizeL_4 l (by omega) (by omega)] at h ⊢
    split at h
    · rename_i hh
      rw [if_pos hh]; exact .four (by omega) (by omega) hh.1 hh.2.1 hh.2.2.1 hh.2.2.2.1 hh.2.2.2.2
    · exact absurd rfl h
theorem Wide.size {l : Bytes} {n : Nat} (h : Wide l n) : sizeL l = n := by
  cases h with
  | one a => exact sizeL_1 l a
  | two a b c d => rw [sizeL_2 l a b, if_pos ⟨c, d⟩]
  | three a b c d e f => rw [sizeL_3 l a b, if_pos ⟨c, d, e, f⟩]
  | four a b c d e f g => rw [sizeL_4 l a b, if_pos ⟨c, d, e, f, g⟩]
/-- Only the character's own bytes count. -/
theorem Wide.of_eq {l m : Bytes} {n : Nat} (h : Wide l n) (hl : n ≤ m.length) (e : ∀ i, i < n → at0 m i = at0 l i) : Wide m n := by
  cases h with
  | one a => exact .one (by rw [e 0 (by omega)]; exact a)
  | two a b c d => exact .two (by rw [e 0 (by omega)]; exact a) (by rw [e 0 (by omega)]; exact b) hl (by rw [e 1 (by omega)]; exact d)
  | three a b c d k f =>
    exact .three (by rw [e 0 (by omega)]; exact a) (by rw [e 0 (by omega)]; exact b) hl (by rw [e 1 (by omega)]; exact d) (by rw [e 2 (by omega)]; exact k)
      (by rw [e 0 (by omega), e 1 (by omega), e 2 (by omega)]; exact f)
  | four a b c d k f g =>
    exact .four (by rw [e 0 (by omega)]; exact a) (by rw [e 0 (by omega)]; exact b) hl (by rw [e 1 (by omega)]; exact d) (by rw [e 2 (by omega)]; exact k)
      (by rw [e 3 (by omega)]; exact f) (by rw [e 0 (by omega), e 1 (by omega), e 2 (by omega), e 3 (by omega)]; exact g)
theorem size_dec (l : Bytes) (h : sizeL l ≠ 0) : (decL l).2 = sizeL l := by
  unfold sizeL at h ⊢
  split at h
  · exact absurd rfl h
  · rename_i hh; rw [if_neg hh]
/-- One character. -/
def IsChar (c : Bytes) : Prop := c ≠ [] ∧ Wide c c.length
theorem isChar_take (l : Bytes) (hne : l ≠ []) (h : sizeL l ≠ 0) : IsChar (l.take (sizeL l)) ∧ (l.take (sizeL l)).length = sizeL l := by
  have hle := sizeL_le l hne
  have hlen : (l.take (sizeL l)).length = sizeL l := by rw [List.length_take]; omega
  refine ⟨⟨fun h' => by rw [h'] at hlen; simp at hlen; omega, ?_⟩, hlen⟩
  rw [hlen]
  exact (wide_of l h).of_eq (by omega) (fun i hi => at0_take l _ i hi)
theorem IsChar.size {c : Bytes} (h : IsChar c) (r : Bytes) : sizeL (c ++ r) = c.length :=
  (h.2.of_eq (m := c ++ r) (by simp) (fun i hi => at0_app c r i hi)).size
theorem validL_char (c r : Bytes) (h : IsChar c) : validL (c ++ r) = validL r := by
  rw [validL_step (c ++ r) (by have := h.1; cases c <;> simp_all), h.size r, List.drop_left]
  have : c.length ≠ 0 := fun h0 => h.1 (List.eq_nil_of_length_eq_zero h0)
  simp [this]
theorem isChar_ascii (b : UInt8) (h : b.toNat < 128) : IsChar [b] := ⟨by simp, .one (by simpa [at0] using h)⟩
theorem validL_ascii : ∀ (x r : Bytes), (∀ b ∈ x, b.toNat < 128) → validL (x ++ r) = validL r
  | [], r, _ => rfl
  | b :: x, r, h => by
    have h1 := validL_char [b] (x ++ r) (isChar_ascii b (h b List.mem_cons_self))
    have h2 := validL_ascii x r (fun y hy => h y (List.mem_cons_of_mem _ hy))
    rw [← h2, ← h1]; rfl
/-- A character's bytes: one below 128, or all from 128 on. -/
theorem IsChar.bytes {c : Bytes} (h : IsChar c) : (∃ b, c = [b] ∧ b.toNat < 128) ∨ ∀ b ∈ c, 128 ≤ b.toNat := by
  rcases h with ⟨hne, hw⟩
  generalize hn : c.length = n at hw
  cases hw with
  | one a =>
    left
    match c, hn with
    | [b], _ => exact ⟨b, rfl, by simpa [at0] using a⟩
  | two a b c' d =>
    right
    intro x hx
    obtain ⟨i, hi, e⟩ := mem_at0 c x hx
    rw [← e]
    rcases (by omega : i = 0 ∨ i = 1) with rfl | rfl <;> omega
  | three a b c' d e' f =>
    right
    intro x hx
    obtain ⟨i, hi, e⟩ := mem_at0 c x hx
    rw [← e]
    rcases (by omega : i = 0 ∨ i = 1 ∨ i = 2) with rfl | rfl | rfl <;> omega
  | four a b c' d e' f g =>
    right
    intro x hx
    obtain ⟨i, hi, e⟩ := mem_at0 c x hx
    rw [← e]
    rcases (by omega : i = 0 ∨ i = 1 ∨ i = 2 ∨ i = 3) with rfl | rfl | rfl | rfl <;> omega
/-- Induction over the characters of a text in UTF-8. -/
theorem valid_ind {P : Bytes → Prop} (h0 : P []) (h1 : ∀ l, l ≠ [] → sizeL l ≠ 0 → validL (l.drop (sizeL l)) = true → P (l.drop (sizeL l)) → P l) (l : Bytes) (h : validL l = true) : P l := by
  generalize hn : l.length = n
  induction n using Nat.strongRecOn generalizing l with
  | _ n ih =>
    by_cases hl : l = []
    · rw [hl]; exact h0
    · rw [validL_step l hl, Bool.and_eq_true] at h
      have hs : sizeL l ≠ 0 := by simpa using h.1
      have hle := sizeL_le l hl
      exact h1 l hl hs h.2 (ih (l.drop (sizeL l)).length (by rw [List.length_drop]; omega) _ h.2 rfl)
theorem dec_ascii (l : Bytes) (h : (decL l).1 < 128) : at0 l 0 = (decL l).1 ∧ (decL l).2 = 1 := by
  unfold decL Go.Lib.decodeN at h ⊢
  generalize at0 l 0 = b0, at0 l 1 = b1, at0 l 2 = b2, at0 l 3 = b3, l.length = n at *
  repeat' split
  all_goals simp_all
  all_goals omega

theorem hasB_app (x y : Bytes) (q : Nat) : hasB (x ++ y) q = (hasB x q || hasB y q) := by simp [hasB]
theorem hasAnyB_app (x y m : Bytes) : hasAnyB (x ++ y) m = (hasAnyB x m || hasAnyB y m) := by simp [hasAnyB]
theorem at0_cons_succ (b : UInt8) (t : Bytes) (i : Nat) : at0 (b :: t) (i + 1) = at0 t i := by simp [at0]
theorem at0_cons_zero (b : UInt8) (t : Bytes) : at0 (b :: t) 0 = b.toNat := by simp [at0]

theorem at0_c0 (a : UInt8) (t : Bytes) : at0 (a :: t) 0 = a.toNat := by simp [at0]
theorem at0_c1 (a b : UInt8) (t : Bytes) : at0 (a :: b :: t) 1 = b.toNat := by simp [at0]
theorem at0_c2 (a b c : UInt8) (t : Bytes) : at0 (a :: b :: c :: t) 2 = c.toNat := by simp [at0]
theorem at0_c3 (a b c d : UInt8) (t : Bytes) : at0 (a :: b :: c :: d :: t) 3 = d.toNat := by simp [at0]
theorem u8_ofNat (b : UInt8) (n : Nat) (h : n = b.toNat) : UInt8.ofNat n = b := by subst h; simp

/-- The four shapes of a character at the beginning of a text. -/
theorem char_cases (l : Bytes) (hne : l ≠ []) (hs : sizeL l ≠ 0) :
    (∃ x t, l = x :: t ∧ x.toNat < 128 ∧ decL l = (x.toNat, 1) ∧ sizeL l = 1) ∨
    (∃ x y t, l = x :: y :: t ∧ 194 ≤ x.toNat ∧ x.toNat < 224 ∧ y.toNat / 64 = 2 ∧ decL l = (x.toNat % 32 * 64 + y.toNat % 64, 2) ∧ sizeL l = 2) ∨
    (∃ x y z t, l = x :: y :: z :: t ∧ 224 ≤ x.toNat ∧ x.toNat < 240 ∧ y.toNat / 64 = 2 ∧ z.toNat / 64 = 2 ∧ 2048 ≤ x.toNat % 16 * 4096 + y.toNat % 64 * 64 + z.toNat % 64 ∧
      (x.toNat % 16 * 4096 + y.toNat % 64 * 64 + z.toNat % 64 < 55296 ∨ 57343 < x.toNat % 16 * 4096 + y.toNat % 64 * 64 + z.toNat % 64) ∧ decL l = (x.toNat % 16 * 4096 + y.toNat % 64 * 64 + z.toNat % 64, 3) ∧ sizeL l = 3) ∨
    (∃ x y z u t, l = x :: y :: z :: u :: t ∧ 240 ≤ x.toNat ∧ x.toNat < 245 ∧ y.toNat / 64 = 2 ∧ z.toNat / 64 = 2 ∧ u.toNat / 64 = 2 ∧
      65536 ≤ x.toNat % 8 * 262144 + y.toNat % 64 * 4096 + z.toNat % 64 * 64 + u.toNat % 64 ∧ x.toNat % 8 * 262144 + y.toNat % 64 * 4096 + z.toNat % 64 * 64 + u.toNat % 64 ≤ 1114111 ∧
      decL l = (x.toNat % 8 * 262144 + y.toNat % 64 * 4096 + z.toNat % 64 * 64 + u.toNat % 64, 4) ∧ sizeL l = 4) := by
  have hw := wide_of l hs
  generalize hn : sizeL l = n at hw ⊢
  cases hw with
  | one a =>
    left
    match l, hne with
    | b :: t, _ =>
      rw [at0_c0] at a
      exact ⟨b, t, rfl, a, by unfold decL Go.Lib.decodeN; rw [at0_c0, if_pos a], rfl⟩
  | two a b c d =>
    right; left
    match l, c with
    | x :: y :: t, _ =>
      rw [at0_c0] at a b
      rw [at0_c1] at d
      refine ⟨x, y, t, rfl, a, b, d, ?_, rfl⟩
      unfold decL Go.Lib.decodeN
      rw [at0_c0, at0_c1, if_neg (by omega), if_pos ⟨by omega, by simp, d⟩, if_pos (by omega)]
  | three a b c d k f =>
    right; right; left
    match l, c with
    | x :: y :: z :: t, _ =>
      rw [at0_c0] at a b
      rw [at0_c1] at d
      rw [at0_c2] at k
      rw [at0_c0, at0_c1, at0_c2] at f
      refine ⟨x, y, z, t, rfl, a, b, d, k, by omega, by omega, ?_, rfl⟩
      unfold decL Go.Lib.decodeN
      rw [at0_c0, at0_c1, at0_c2, if_neg (by omega), if_neg (by omega), if_pos ⟨by omega, ⟨by simp, d⟩, ⟨by simp, k⟩⟩, if_pos (by omega)]
  | four a b c d k f g =>
    right; right; right
    match l, c with
    | x :: y :: z :: u :: t, _ =>
      rw [at0_c0] at a b
      rw [at0_c1] at d
      rw [at0_c2] at k
      rw [at0_c3] at f
      rw [at0_c0, at0_c1, at0_c2, at0_c3] at g
      refine ⟨x, y, z, u, t, rfl, a, b, d, k, f, by omega, by omega, ?_, rfl⟩
      unfold decL Go.Lib.decodeN
      rw [at0_c0, at0_c1, at0_c2, at0_c3, if_neg (by omega), if_neg (by omega), if_neg (by omega), if_pos ⟨by omega, ⟨by simp, d⟩, ⟨by simp, k⟩, ⟨by simp, f⟩⟩, if_pos (by omega)]

/-- A character's number, written in UTF-8, is the character. -/
theorem coded_dec (l : Bytes) (hne : l ≠ []) (hs : sizeL l ≠ 0) : codedL (decL l).1 = l.take (sizeL l) := by
  rcases char_cases l hne hs with ⟨x, t, rfl, h1, hd, hz⟩ | ⟨x, y, t, rfl, h1, h2, h3, hd, hz⟩ | ⟨x, y, z, t, rfl, h1, h2, h3, h4, h5, h6, hd, hz⟩ | ⟨x, y, z, u, t, rfl, h1, h2, h3, h4, h5, h6, h7, hd, hz⟩
  all_goals rw [hd, hz]; unfold codedL; simp only
  · rw [if_pos h1, u8_ofNat x _ rfl]; rfl
  · rw [if_neg (by omega), if_pos (by omega), u8_ofNat x _ (by omega), u8_ofNat y _ (by omega)]; rfl
  · rw [if_neg (by omega), if_neg (by omega), if_pos (by omega), u8_ofNat x _ (by omega), u8_ofNat y _ (by omega), u8_ofNat z _ (by omega)]; rfl
  · rw [if_neg (by omega), if_neg (by omega), if_neg (by omega), u8_ofNat x _ (by omega), u8_ofNat y _ (by omega), u8_ofNat z _ (by omega), u8_ofNat u _ (by omega)]; rfl

end Go.Proofs.YtolamblmfejhoaaDoor
