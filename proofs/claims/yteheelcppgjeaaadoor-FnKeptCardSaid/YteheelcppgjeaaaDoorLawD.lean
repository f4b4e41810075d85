/- Plain laws: a reference is the same reference behind a replacer that turns no byte of references. -/
import Derived.Test.YteheelcppgjeaaaDoorLawC
namespace Go.Proofs.YteheelcppgjeaaaDoor
set_option linter.unusedVariables false
set_option linter.unusedSimpArgs false

/-- What the replacer does with a byte: it keeps it, or writes a text that begins with the ampersand, and then the byte is none of a reference's. -/
def Turns (T : Nat → Bytes) (n : Nat) : Prop :=
  ∀ b : UInt8, byteR T n b = [b] ∨ (isAlnumB b.toNat = false ∧ b.toNat ≠ 35 ∧ b.toNat ≠ 59 ∧ b.toNat ≠ 61 ∧ b.toNat ≠ 38 ∧ ∃ t, byteR T n b = 38 :: t)
theorem bytesR_cons (T : Nat → Bytes) (n : Nat) (b : UInt8) (l : Bytes) : bytesR T n (b :: l) = byteR T n b ++ bytesR T n l := rfl
/-- The first byte behind the replacer. -/
theorem first_byte {T : Nat → Bytes} {n : Nat} (hT : Turns T n) (l : Bytes) :
    (l = [] ∧ bytesR T n l = []) ∨ ∃ b r b' r', l = b :: r ∧ bytesR T n l = b' :: r' ∧ (b' = b ∨ (b' = 38 ∧ isAlnumB b.toNat = false ∧ b.toNat ≠ 35 ∧ b.toNat ≠ 59 ∧ b.toNat ≠ 61 ∧ b.toNat ≠ 38)) := by
  cases l with
  | nil => exact .inl ⟨rfl, rfl⟩
  | cons b r =>
    right
    rcases hT b with h | ⟨h1, h2, h3, h4, h5, t, h6⟩
    · exact ⟨b, r, b, bytesR T n r, rfl, by rw [bytesR_cons, h]; rfl, .inl rfl⟩
    · exact ⟨b, r, 38, t ++ bytesR T n r, rfl, by rw [bytesR_cons, h6]; rfl, .inr ⟨rfl, h1, h2, h3, h4, h5⟩⟩
/-- A test on the byte at a place, behind bytes that are kept: the same behind the replacer, if neither the bytes that are turned nor the ampersand pass it. -/
theorem test_at {T : Nat → Bytes} {n : Nat} (hT : Turns T n) (p : Nat → Bool) (h38 : p 38 = false)
    (hp : ∀ b : UInt8, isAlnumB b.toNat = false → b.toNat ≠ 35 → b.toNat ≠ 59 → b.toNat ≠ 61 → b.toNat ≠ 38 → p b.toNat = false)
    (x r : Bytes) (hx : ∀ b ∈ x, byteR T n b = [b]) :
    (decide (x.length < (bytesR T n (x ++ r)).length) && p (at0 (bytesR T n (x ++ r)) x.length)) = (decide (x.length < (x ++ r).length) && p (at0 (x ++ r) x.length)) := by
  have e1 : bytesR T n (x ++ r) = x ++ bytesR T n r := by rw [bytesR_app, bytesR_keep T n x hx]
  have e2 : ∀ y : Bytes, at0 (x ++ y) x.length = at0 y 0 := by
    intro y; unfold at0; simp [List.getD_eq_getElem?_getD, List.getElem?_append_right]
  rw [e1, e2, e2]
  rcases first_byte hT r with ⟨h1, h2⟩ | ⟨b, r1, b', r2, h1, h2, h3⟩
  · rw [h1]; rfl
  · rw [h2, h1]
    have e3 : p (at0 (b' :: r2) 0) = p (at0 (b :: r1) 0) := by
      show p b'.toNat = p b.toNat
      rcases h3 with rfl | ⟨rfl, a1, a2, a3, a4, a5⟩
      · rfl
      · rw [hp b a1 a2 a3 a4 a5]; exact h38
    rw [e3]
    simp

theorem word_bytes {T : Nat → Bytes} {n : Nat} (hT : Turns T n) (l : Bytes) : wordL (bytesR T n l) = wordL l := by
  induction l with
  | nil => rfl
  | cons b l ih =>
    rw [bytesR_cons]
    rcases hT b with h | ⟨h1, h2, h3, h4, h5, t, h6⟩
    · rw [h]
      show wordL (b :: bytesR T n l) = wordL (b :: l)
      unfold wordL at ih ⊢
      rw [List.takeWhile_cons, List.takeWhile_cons, ih]
    · rw [h6]
      unfold wordL
      rw [List.takeWhile_cons, h1]
      rfl
theorem keep_alnum {T : Nat → Bytes} {n : Nat} (hT : Turns T n) (b : UInt8) (h : isAlnumB b.toNat = true) : byteR T n b = [b] := by
  rcases hT b with h' | ⟨h1, _⟩
  · exact h'
  · rw [h1] at h; cases h
theorem word_alnum (l : Bytes) : ∀ b ∈ wordL l, isAlnumB b.toNat = true := fun b hb => by
  have := List.all_takeWhile (p := fun b : UInt8 => isAlnumB b.toNat) (l := l)
  rw [List.all_eq_true] at this
  exact this b hb
theorem word_split (l : Bytes) : ∃ r, l = wordL l ++ r := ⟨l.dropWhile (fun b => isAlnumB b.toNat), (List.takeWhile_append_dropWhile).symm⟩

/-! ### named references -/
theorem refStep_congr (s s' w : Bytes) (h : ∀ k, k ≤ w.length → semiAt s (k + 1) = semiAt s' (k + 1)) (st : Bytes × Nat) (e : Bytes × Bytes × Bool) : refStep s w st e = refStep s' w st e := by
  by_cases c : e.1.length ≤ w.length
  · have := h e.1.length c
    unfold refStep refSkip refLong
    rw [this]
  · have : decide (w.length < e.1.length) = true := by simpa using c
    unfold refStep refSkip
    rw [this]; rfl
theorem foldl_congr {α β : Type} (f g : α → β → α) (l : List β) (h : ∀ a b, f a b = g a b) (a : α) : l.foldl f a = l.foldl g a := by
  have : f = g := funext fun a => funext fun b => h a b
  rw [this]
/-- The length of a found reference: none; or it ends with the word's part or the semicolon behind the word. -/
def LenOk (s w : Bytes) (n : Nat) : Prop := n ≤ w.length + 1 ∨ (n = w.length + 2 ∧ semiAt s (w.length + 1) = true)
theorem refStep_len (s w : Bytes) (hsemi : ∀ k, k < w.length → semiAt s (k + 1) = false) (st : Bytes × Nat) (e : Bytes × Bytes × Bool) (h : LenOk s w st.2) : LenOk s w (refStep s w st e).2 := by
  unfold refStep
  split
  · exact h
  · split
    · exact h
    · rename_i h1 _
      have c : e.1.length ≤ w.length := by
        unfold refSkip at h1
        rcases Nat.lt_or_ge w.length e.1.length with h2 | h2
        · simp [h2] at h1
        · exact h2
      show LenOk s w (refLong s e)
      unfold refLong LenOk
      by_cases hs : semiAt s (e.1.length + 1) = true
      · rw [if_pos hs]
        rcases Nat.lt_or_ge e.1.length w.length with h2 | h2
        · rw [hsemi _ h2] at hs; cases hs
        · have : e.1.length = w.length := by omega
          rw [this] at hs ⊢
          exact .inr ⟨rfl, hs⟩
      · rw [if_neg hs]; left; omega
theorem fold_len (s w : Bytes) (hsemi : ∀ k, k < w.length → semiAt s (k + 1) = false) : ∀ (es : List (Bytes × Bytes × Bool)) (st : Bytes × Nat), LenOk s w st.2 → LenOk s w (es.foldl (refStep s w) st).2
  | [], st, h => h
  | e :: es, st, h => fold_len s w hsemi es _ (refStep_len s w hsemi st e h)
end Go.Proofs.YteheelcppgjeaaaDoor
