/- Plain laws: what a slash is behind a text of ECMAScript. -/
import Derived.Test.YtolamblmfejhoaaDoorPlainH
namespace Go.Proofs.YtolamblmfejhoaaDoor
set_option linter.unusedVariables false
set_option linter.unusedSimpArgs false

/-- Back from n over the bytes that p takes. -/
def back (p : Nat → Bool) (s : Bytes) : Nat → Nat
  | 0 => 0
  | n + 1 => if p (at0 s n) = true then back p s n else n + 1
theorem back_le (p : Nat → Bool) (s : Bytes) : ∀ n, back p s n ≤ n
  | 0 => Nat.le_refl 0
  | n + 1 => by
    unfold back
    split
    · exact Nat.le_trans (back_le p s n) (Nat.le_succ n)
    · exact Nat.le_refl _
theorem back_all (p : Nat → Bool) (s : Bytes) : ∀ n i, back p s n ≤ i → i < n → p (at0 s i) = true
  | 0, i, _, h => by omega
  | n + 1, i, h1, h2 => by
    unfold back at h1
    split at h1
    · rename_i hp
      by_cases hi : i = n
      · rw [hi]; exact hp
      · exact back_all p s n i h1 (by omega)
    · omega
theorem back_stop (p : Nat → Bool) (s : Bytes) : ∀ n, 0 < back p s n → p (at0 s (back p s n - 1)) = false
  | 0, h => by unfold back at h; omega
  | n + 1, h => by
    unfold back at h ⊢
    split at h
    · rename_i hp
      rw [if_pos hp]; exact back_stop p s n h
    · rename_i hp
      rw [if_neg hp]; simpa using hp
/-- The place is the only one of its kind. -/
theorem back_eq (p : Nat → Bool) (s : Bytes) (n k : Nat) (hk : k ≤ n) (h1 : ∀ i, k ≤ i → i < n → p (at0 s i) = true) (h2 : 0 < k → p (at0 s (k - 1)) = false) : back p s n = k := by
  have a := back_le p s n
  have b := back_stop p s n
  have c := back_all p s n
  rcases Nat.lt_trichotomy (back p s n) k with h | h | h
  · have := h2 (by omega)
    have := c (k - 1) (by omega) (by omega)
    simp_all
  · exact h
  · have h3 := b (by omega)
    have h4 := h1 (back p s n - 1) (by omega) (by omega)
    rw [h3] at h4; cases h4
theorem back_step (p : Nat → Bool) (s : Bytes) (n : Nat) (h : p (at0 s n) = true) : back p s (n + 1) = back p s n := by
  conv => lhs; unfold back
  rw [if_pos h]
theorem back_here (p : Nat → Bool) (s : Bytes) (n : Nat) (h : 0 < n → p (at0 s (n - 1)) = false) : back p s n = n :=
  back_eq p s n n (Nat.le_refl _) (fun i a b => by omega) h

def blankJ (c : Nat) : Bool := c == 32 || c == 10 || c == 9 || c == 12 || c == 13 || c == 11
def identB (c : Nat) : Bool := isAlnumB c || c == 36 || c == 95
def keyWords : List Bytes := [
  [98, 114, 101, 97, 107], [99, 97, 115, 101], [99, 111, 110, 116, 105, 110, 117, 101], [100, 101, 108, 101, 116, 101], [100, 111], [101, 108, 115, 101],
  [102, 105, 110, 97, 108, 108, 121], [105, 110], [105, 110, 115, 116, 97, 110, 99, 101, 111, 102], [114, 101, 116, 117, 114, 110], [116, 104, 114, 111, 119], [116, 114, 121],
  [116, 121, 112, 101, 111, 102], [118, 111, 105, 100]]
def yieldW : Bytes := [121, 105, 101, 108, 100]
def awaitW : Bytes := [97, 119, 97, 105, 116]
def isKey (w : Bytes) : Bool := keyWords.any (· == w)
def isKeyP (w : Bytes) : Bool := isKey w || yieldW == w
def part (s : Bytes) (a b : Nat) : Bytes := (s.take b).drop a
def zeroSet : Bytes := [44, 60, 62, 61, 42, 37, 38, 124, 94, 63, 33, 126, 40, 91, 58, 59, 123, 125]
/-- The package's answer. -/
def slashN (s : Bytes) (before : Nat) : Nat :=
  let n := back blankJ s s.length
  if n = 0 then before
  else if at0 s (n - 1) = 43 ∨ at0 s (n - 1) = 45 then (if (n - back (· == at0 s (n - 1)) s (n - 1)) % 2 = 1 then 0 else 1)
  else if at0 s (n - 1) = 46 then (if n ≠ 1 ∧ 48 ≤ at0 s (n - 2) ∧ at0 s (n - 2) ≤ 57 then 1 else 0)
  else if hasB zeroSet (at0 s (n - 1)) = true then 0
  else if isKeyP (part s (back identB s n) n) = true ∧ ¬ (0 < back blankJ s (back identB s n) ∧ at0 s (back blankJ s (back identB s n) - 1) = 46) then 0 else 1
def memSet : Bytes := [36, 95, 92, 46]
def opSet : Bytes := [61, 44, 59, 58, 33, 126, 38, 124, 94, 63, 40, 91, 123, 60, 62, 42, 37]
/-- The reference's answer. -/
def dividesN (s : Bytes) : Nat × Bool :=
  let e := back blankJ s s.length
  let f := back isAlnumB s e
  let b := back blankJ s f
  if e = 0 ∨ (f < e ∧ 0 < b ∧ at0 s (b - 1) = 46) ∨ yieldW = part s f e ∨ awaitW = part s f e then (0, false)
  else if f < e ∧ (f = 0 ∨ (hasB memSet (at0 s (f - 1)) = false ∧ at0 s (f - 1) < 128)) then (if isKey (part s f e) = true then 0 else 1, true)
  else if f < e then (0, false)
  else if at0 s (e - 1) = 93 then (1, true)
  else if hasB opSet (at0 s (e - 1)) = true then (0, true)
  else if at0 s (e - 1) = 43 ∨ at0 s (e - 1) = 45 then
    (if e - back (· == at0 s (e - 1)) s e = 1 then (0, true) else (1, decide (e - back (· == at0 s (e - 1)) s e = 2)))
  else (0, false)

/-- THE LAW OF SLASHES. -/
theorem slash_law (s : Bytes) (before want : Nat) (h : dividesN s = (want, true)) : slashN s before = want := by
  unfold dividesN at h
  unfold slashN
  simp only at h ⊢
  generalize he : back blankJ s s.length = e at h ⊢
  generalize hf : back isAlnumB s e = f at h
  have hfe : f ≤ e := hf ▸ back_le isAlnumB s e
  have hst := back_stop isAlnumB s e
  rw [hf] at hst
  split at h
  · cases h
  · rename_i h1
    simp only [not_or, not_and] at h1
    obtain ⟨h0, hdot, hy, haw⟩ := h1
    rw [if_neg h0]
    by_cases hlt : f < e
    · have hal : isAlnumB (at0 s (e - 1)) = true := back_all isAlnumB s e (e - 1) (by rw [hf]; omega) (by omega)
      have hr := fun c (h' : isAlnumB c = true) => (by unfold isAlnumB isAlphaB at h'; simp at h'; omega : (97 ≤ c ∧ c ≤ 122) ∨ (65 ≤ c ∧ c ≤ 90) ∨ (48 ≤ c ∧ c ≤ 57))
      have hc := hr _ hal
      have hz : hasB zeroSet (at0 s (e - 1)) = false := by
        unfold hasB
        rw [List.any_eq_false]
        intro x hx
        have : ∀ x ∈ zeroSet, ¬ ((97 ≤ x.toNat ∧ x.toNat ≤ 122) ∨ (65 ≤ x.toNat ∧ x.toNat ≤ 90) ∨ (48 ≤ x.toNat ∧ x.toNat ≤ 57)) := by decide
        have := this x hx
        simp only [beq_iff_eq]
        omega
      rw [if_neg (by omega), if_neg (by omega), if_neg (by rw [hz]; decide)]
      split at h
      · rename_i h2
        have hid : back identB s e = f := by
          refine back_eq identB s e f hfe (fun i a b => ?_) (fun hp => ?_)
          · have := back_all isAlnumB s e i (by omega) b
            unfold identB; rw [this]; rfl
          · have h3 := hst hp
            rcases h2.2 with h4 | ⟨h4, _⟩
            · omega
            · unfold hasB at h4
              rw [List.any_eq_false] at h4
              have a1 := h4 36 (by decide)
              have a2 := h4 95 (by decide)
              simp only [beq_iff_eq] at a1 a2
              have b1 : (at0 s (f - 1) == 36) = false := by rw [beq_eq_false_iff_ne]; exact fun h => a1 h.symm
              have b2 : (at0 s (f - 1) == 95) = false := by rw [beq_eq_false_iff_ne]; exact fun h => a2 h.symm
              unfold identB
              rw [h3, b1, b2]; rfl
        rw [hid]
        have hnd : ¬ (0 < back blankJ s f ∧ at0 s (back blankJ s f - 1) = 46) := fun hh => hdot hlt hh.1 hh.2
        have hky : isKeyP (part s f e) = isKey (part s f e) := by
          unfold isKeyP
          have : (yieldW == part s f e) = false := by rw [beq_eq_false_iff_ne]; exact hy
          rw [this, Bool.or_false]
        rw [hky]
        simp only [Prod.mk.injEq] at h
        rw [← h.1]
        by_cases hk : isKey (part s f e) = true
        · rw [if_pos ⟨hk, hnd⟩, if_pos hk]
        · rw [if_neg (fun hh => hk hh.1), if_neg hk]
      · cases h
    · obtain rfl : f = e := by omega
      rw [if_neg (fun hh => absurd hh.1 (Nat.lt_irrefl _)), if_neg (Nat.lt_irrefl _)] at h
      split at h
      · rename_i h93
        rw [if_neg (by omega), if_neg (by omega), if_neg (by rw [h93]; decide)]
        have hid : back identB s f = f := back_here identB s f (fun _ => by rw [h93]; decide)
        have hp : part s f f = [] := by unfold part; rw [List.drop_eq_nil_of_le]; exact List.length_take_le _ _
        rw [hid, hp, if_neg (fun hh => absurd hh.1 (by decide))]
        simp only [Prod.mk.injEq, and_true] at h
        exact h
      · split at h
        · rename_i hop
          simp only [Prod.mk.injEq, and_true] at h
          have hsub : ∀ x ∈ opSet, x ∈ zeroSet ∧ x.toNat ≠ 43 ∧ x.toNat ≠ 45 ∧ x.toNat ≠ 46 := by decide
          unfold hasB at hop
          rw [List.any_eq_true] at hop
          obtain ⟨x, hx, hx2⟩ := hop
          rw [beq_iff_eq] at hx2
          obtain ⟨m1, m2, m3, m4⟩ := hsub x hx
          rw [hx2] at m2 m3 m4
          rw [if_neg (by omega), if_neg (by omega), if_pos]
          · exact h
          · unfold hasB
            rw [List.any_eq_true]
            exact ⟨x, m1, by rw [beq_iff_eq]; exact hx2⟩
        · split at h
          · rename_i hpm
            rw [if_pos hpm]
            have hst1 : back (· == at0 s (f - 1)) s f = back (· == at0 s (f - 1)) s (f - 1) := by
              obtain ⟨m, rfl⟩ : ∃ m, f = m + 1 := ⟨f - 1, by omega⟩
              exact back_step _ s m (by simp)
            rw [hst1] at h
            split at h
            · rename_i h5
              simp only [Prod.mk.injEq, and_true] at h
              rw [h5, if_pos rfl]; exact h
            · simp only [Prod.mk.injEq, decide_eq_true_eq] at h
              rw [h.2, if_neg (by decide)]; exact h.1
          · cases h
/-- Blanks alone change nothing. -/
theorem slash_blank (s : Bytes) (before : Nat) (h : ∀ i, i < s.length → blankJ (at0 s i) = true) : slashN s before = before := by
  unfold slashN
  rw [back_eq blankJ s s.length 0 (Nat.zero_le _) (fun i _ hi => h i hi) (fun h => by omega)]
  rfl
end Go.Proofs.YtolamblmfejhoaaDoor
