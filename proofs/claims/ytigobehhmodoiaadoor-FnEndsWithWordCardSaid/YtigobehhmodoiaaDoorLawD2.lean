/- Plain laws: what the package's decoder of CSS meets. No program is in sight here. -/
import Derived.Test.YtigobehhmodoiaaDoorLawS
import Derived.Test.YtigobehhmodoiaaDoorSpHex
import Derived.Lib.Bytealg
import Derived.Lib.RuneBytes
namespace Go.Proofs.YtigobehhmodoiaaDoor
set_option linter.unusedVariables false
set_option linter.unusedSimpArgs false

def plainRun (l : Bytes) : Bytes := l.takeWhile (fun b => b != 92)
theorem plainRun_92 (t : Bytes) : plainRun (92 :: t) = [] := by
  unfold plainRun; rw [List.takeWhile_cons, if_neg (by decide)]
theorem plainRun_ne (b : UInt8) (t : Bytes) (h : b ≠ 92) : plainRun (b :: t) = b :: plainRun t := by
  unfold plainRun; rw [List.takeWhile_cons, if_pos (by simpa using h)]
theorem idx92 : ∀ l : Bytes, Lib.indexByte l 92 = if (plainRun l).length = l.length then -1 else ((plainRun l).length : Int)
  | [] => rfl
  | b :: t => by
    have ih := idx92 t
    unfold Lib.indexByte
    by_cases h : b = 92
    · subst h
      rw [if_pos (by decide), plainRun_92, if_neg (by simp)]
      rfl
    · have h1 : ¬ (b == 92) = true := by simpa using h
      rw [if_neg h1, plainRun_ne b t h, ih]
      simp only [List.length_cons]
      by_cases h3 : (plainRun t).length = t.length
      · rw [if_pos h3, if_pos (by decide), if_pos (by omega)]
      · have h4 : ¬ (plainRun t).length + 1 = t.length + 1 := by omega
        have h5 : ¬ ((((plainRun t).length : Nat) : Int) == -1) = true := by
          rw [beq_iff_eq]; omega
        rw [if_neg h3, if_neg h5, if_neg h4]
        omega
theorem plainRun_split : ∀ (l : Bytes), l = plainRun l ++ l.drop (plainRun l).length ∧ (∀ b ∈ plainRun l, b.toNat ≠ 92) ∧ (l.drop (plainRun l).length = [] ∨ ∃ t, l.drop (plainRun l).length = 92 :: t)
  | [] => ⟨rfl, (by intro b hb; cases hb), .inl rfl⟩
  | b :: t => by
    by_cases h : b = 92
    · subst h
      rw [plainRun_92]
      exact ⟨rfl, (by intro b hb; cases hb), .inr ⟨t, rfl⟩⟩
    · obtain ⟨h1, h2, h3⟩ := plainRun_split t
      rw [plainRun_ne b t h]
      refine ⟨?_, ?_, ?_⟩
      · rw [List.length_cons, List.drop_succ_cons, List.cons_append, ← h1]
      · intro x hx
        rcases List.mem_cons.1 hx with rfl | hx
        · intro e
          exact h (UInt8.toNat_inj.1 e)
        · exact h2 x hx
      · rw [List.length_cons, List.drop_succ_cons]; exact h3
/-- The stretch ahead of the next backslash. -/
theorem dec_plain (l w : Bytes) (h : styleL l = some w) : ∃ w2, styleL (l.drop (plainRun l).length) = some w2 ∧ w = plainRun l ++ w2 := by
  obtain ⟨h1, h2, _⟩ := plainRun_split l
  rw [h1, styleL_plain _ _ h2] at h
  cases hs : styleL (l.drop (plainRun l).length) with
  | none => rw [hs] at h; cases h
  | some w2 =>
    rw [hs] at h
    exact ⟨w2, rfl, (Option.some.inj h).symm⟩

def blankSkip (l : Bytes) : Nat := if l ≠ [] ∧ isBlankB (at0 l 0) = true then (if at0 l 0 = 13 ∧ 1 < l.length ∧ at0 l 1 = 10 then 2 else 1) else 0
theorem at0_drop (t : Bytes) (n i : Nat) : at0 (t.drop n) i = at0 t (n + i) := by
  unfold at0; simp [List.getD_eq_getElem?_getD, List.getElem?_drop]
theorem blankEnd_skip (t : Bytes) (n : Nat) : blankEnd t n = n + blankSkip (t.drop n) := by
  have e0 : at0 (t.drop n) 0 = at0 t n := by rw [at0_drop]; rfl
  have e1 : at0 (t.drop n) 1 = at0 t (n + 1) := at0_drop t n 1
  unfold blankEnd blankSkip
  rw [e0, e1, List.length_drop]
  by_cases h : n < t.length
  · have h1 : t.drop n ≠ [] := by
      intro e; have := congrArg List.length e; simp at this; omega
    by_cases h2 : isBlankB (at0 t n) = true
    · rw [if_pos ⟨h, h2⟩]
      rw [if_pos (show t.drop n ≠ [] ∧ isBlankB (at0 t n) = true from ⟨h1, h2⟩)]
      by_cases h3 : at0 t n = 13 ∧ n + 1 < t.length ∧ at0 t (n + 1) = 10
      · rw [if_pos h3, if_pos (show at0 t n = 13 ∧ 1 < t.length - n ∧ at0 t (n + 1) = 10 from ⟨h3.1, by omega, h3.2.2⟩)]
      · rw [if_neg h3, if_neg (show ¬ (at0 t n = 13 ∧ 1 < t.length - n ∧ at0 t (n + 1) = 10) from fun h4 => h3 ⟨h4.1, by omega, h4.2.2⟩)]
    · rw [if_neg (fun h3 => h2 h3.2), if_neg (fun h3 => h2 h3.2)]; rfl
  · have h1 : t.drop n = [] := List.drop_of_length_le (by omega)
    rw [if_neg (fun h3 => h h3.1), if_neg (fun h3 => h3.1 h1)]; rfl
theorem blankSkip_le (l : Bytes) : blankSkip l ≤ l.length := by
  unfold blankSkip
  split
  · next h =>
    have : 0 < l.length := List.length_pos_iff.2 h.1
    split
    · next h2 => omega
    · omega
  · exact Nat.zero_le _

def hexFoldFrom (v : Nat) (l : Bytes) : Nat := l.foldl (fun v b => v * 16 + digitV b.toNat) v
theorem hexRun_spec : ∀ (f : Nat) (t : Bytes) (v n : Nat), ∃ k, hexRun f t v n = (hexFoldFrom v (t.take k), n + k) ∧ k ≤ f ∧ k ≤ t.length ∧ (∀ i, i < k → digitV (at0 t i) < 16) ∧ (k < f → k < t.length → 16 ≤ digitV (at0 t k))
  | 0, t, v, n => ⟨0, by simp [hexRun, hexFoldFrom], by omega, by omega, fun i h => by omega, fun h => by omega⟩
  | f + 1, [], v, n => ⟨0, by simp [hexRun, hexFoldFrom], by omega, by omega, fun i h => by omega, fun _ h => by simp at h⟩
  | f + 1, b :: t, v, n => by
    unfold hexRun
    by_cases h : digitV b.toNat < 16
    · rw [if_pos h]
      obtain ⟨k, h1, h2, h3, h4, h5⟩ := hexRun_spec f t (v * 16 + digitV b.toNat) (n + 1)
      refine ⟨k + 1, ?_, by omega, by simp; omega, ?_, ?_⟩
      · rw [h1, List.take_succ_cons]
        show _ = (hexFoldFrom (v * 16 + digitV b.toNat) (t.take k), _)
        rw [show n + 1 + k = n + (k + 1) by omega]
      · intro i hi
        cases i with
        | zero => simpa [at0] using h
        | succ i =>
          have := h4 i (by omega)
          rwa [show at0 (b :: t) (i + 1) = at0 t i by simp [at0]]
      · intro hk hl
        have := h5 (by omega) (by simp at hl; omega)
        rwa [show at0 (b :: t) (k + 1) = at0 t k by simp [at0]]
    · rw [if_neg h]
      exact ⟨0, by simp [hexFoldFrom], by omega, by omega, fun i hi => by omega, fun _ _ => by simp [at0]; omega⟩

theorem hexFoldFrom_lt : ∀ (l : Bytes) (v k : Nat), v < 16 ^ k → (∀ b ∈ l, digitV b.toNat < 16) → hexFoldFrom v l < 16 ^ (k + l.length)
  | [], v, k, h, _ => by simpa [hexFoldFrom] using h
  | b :: t, v, k, h, hd => by
    have h1 := hd b (by simp)
    have h2 := hexFoldFrom_lt t (v * 16 + digitV b.toNat) (k + 1) (by rw [Nat.pow_succ]; omega) (fun x hx => hd x (by simp [hx]))
    show hexFoldFrom (v * 16 + digitV b.toNat) t < _
    rw [List.length_cons, show k + (t.length + 1) = k + 1 + t.length by omega]
    exact h2
theorem take_digits (t : Bytes) (k : Nat) (hk : k ≤ t.length) (h : ∀ i, i < k → digitV (at0 t i) < 16) : ∀ b ∈ t.take k, digitV b.toNat < 16 := by
  intro b hb
  obtain ⟨i, hi, e⟩ := List.mem_iff_getElem.1 hb
  have hi' : i < k := by simp at hi; omega
  have := h i hi'
  rw [show at0 t i = b.toNat by
    rw [← e]; unfold at0; simp [List.getD_eq_getElem?_getD, List.getElem?_eq_getElem (show i < t.length by omega)]] at this
  exact this
/-- An escape of digits is no longer than its digits and one. -/
theorem coded_fits (v k : Nat) (h : v < 16 ^ k) (hk : 0 < k) : (codedL (cssChar v)).length ≤ k + 1 := by
  have hw : cssChar v = v ∨ (cssChar v = 0xfffd ∧ 0xd800 ≤ v) := by
    unfold cssChar; split
    · next h => exact .inr ⟨rfl, h.1⟩
    · exact .inl rfl
  rcases Nat.lt_or_ge k 3 with hk3 | hk3
  · rcases (by omega : k = 1 ∨ k = 2) with rfl | rfl
    · have : v < 16 := by simpa using h
      rcases hw with e | ⟨_, e⟩
      · rw [e]; unfold codedL; rw [if_pos (by omega)]; simp
      · omega
    · have : v < 256 := by simpa using h
      rcases hw with e | ⟨_, e⟩
      · rw [e]; unfold codedL
        split
        · simp
        · split
          · simp
          · omega
      · omega
  · have : (codedL (cssChar v)).length ≤ 4 := by
      unfold codedL
      repeat' split
      all_goals simp
    omega
/-- What an escape is, beyond the backslash. -/
theorem dec_esc (t w : Bytes) (h : styleL (92 :: t) = some w) :
    (∃ n v w3, 0 < n ∧ n ≤ 6 ∧ n ≤ t.length ∧ v = hexFold (t.take n) ∧ v ≤ 1114111 ∧ (∀ i, i < n → digitV (at0 t i) < 16) ∧ (n < 6 → n < t.length → 16 ≤ digitV (at0 t n)) ∧
      styleL (t.drop (n + blankSkip (t.drop n))) = some w3 ∧ w = codedL (cssChar v) ++ w3 ∧ (codedL (cssChar v)).length ≤ n + 1) ∨
    (t ≠ [] ∧ 16 ≤ digitV (at0 t 0) ∧ 0 < sizeL t ∧ ∃ w3, styleL (t.drop (sizeL t)) = some w3 ∧ w = t.take (sizeL t) ++ w3) := by
  rw [styleL_esc 92 t rfl] at h
  by_cases hok : (cssEscL t).2.2 = true
  · rw [if_pos hok] at h
    obtain ⟨w3, hw3, hw⟩ := Option.map_eq_some_iff.1 h
    unfold cssEscL at hok hw hw3
    by_cases c1 : t = [] ∨ at0 t 0 = 10 ∨ at0 t 0 = 13 ∨ at0 t 0 = 12
    · rw [if_pos c1] at hok; cases hok
    rw [if_neg c1] at hok hw hw3
    have hne : t ≠ [] := fun e => c1 (.inl e)
    obtain ⟨k, k1, k2, k3, k4, k5⟩ := hexRun_spec 6 t 0 0
    rw [Nat.zero_add] at k1
    rw [k1] at hok hw hw3
    by_cases c2 : k = 0
    · rw [if_pos c2] at hok hw hw3
      subst c2
      have hl : 0 < t.length := List.length_pos_iff.2 hne
      exact .inr ⟨hne, k5 (by omega) hl, of_decide_eq_true hok, w3, hw3, hw.symm⟩
    · rw [if_neg c2] at hok hw hw3
      by_cases c3 : hexFoldFrom 0 (t.take k) = 0 ∨ 0x10ffff < hexFoldFrom 0 (t.take k)
      · rw [if_pos c3] at hok; cases hok
      · rw [if_neg c3] at hok hw hw3
        have hlt := hexFoldFrom_lt (t.take k) 0 0 (by decide) (take_digits t k k3 k4)
        rw [List.length_take, Nat.min_eq_left k3, Nat.zero_add] at hlt
        refine .inl ⟨k, hexFoldFrom 0 (t.take k), w3, by omega, k2, k3, rfl, by omega, k4, k5, ?_, hw.symm, coded_fits _ k hlt (by omega)⟩
        rw [← blankEnd_skip]; exact hw3
  · rw [if_neg hok] at h; cases h
/-- The cells that the package writes for a number are the cells of its character. -/
theorem runeCells_coded (v : Nat) (h : v ≤ 1114111) : Lib.runeCells (v : Int) = Lib.byteCells (codedL (cssChar v)) := by
  have hb : ∀ x : Nat, x < 256 → Value.int .u8 (((UInt8.ofNat x).toNat : Nat) : Int) = Value.int .u8 (x : Int) := by
    intro x hx; simp [Nat.mod_eq_of_lt hx]
  unfold Lib.runeCells Lib.encodeRuneZ Lib.byteCells cssChar
  by_cases c1 : v ≤ 127
  · rw [if_pos (by omega), if_neg (by omega)]; unfold codedL; rw [if_pos (by omega)]
    simp only [List.map_cons, List.map_nil]
    rw [hb v (by omega)]
  by_cases c2 : v ≤ 2047
  · rw [if_neg (by omega), if_pos (by omega), if_neg (by omega)]; unfold codedL; rw [if_neg (by omega), if_pos (by omega)]
    simp only [List.map_cons, List.map_nil]
    rw [hb _ (by omega), hb _ (by omega)]
    simp
  by_cases c3 : (2048 ≤ v ∧ v < 55296) ∨ (57343 < v ∧ v ≤ 65535)
  · rw [if_neg (by omega), if_neg (by omega), if_pos (by omega), if_neg (by omega)]; unfold codedL; rw [if_neg (by omega), if_neg (by omega), if_pos (by omega)]
    simp only [List.map_cons, List.map_nil]
    rw [hb _ (by omega), hb _ (by omega), hb _ (by omega)]
    simp
  by_cases c4 : 65536 ≤ v
  · rw [if_neg (by omega), if_neg (by omega), if_neg (by omega), if_pos (by omega), if_neg (by omega)]; unfold codedL; rw [if_neg (by omega), if_neg (by omega), if_neg (by omega)]
    simp only [List.map_cons, List.map_nil]
    rw [hb _ (by omega), hb _ (by omega), hb _ (by omega), hb _ (by omega)]
    simp
  · rw [if_neg (by omega), if_neg (by omega), if_neg (by omega), if_neg (by omega), if_pos (by omega)]
    rfl
end Go.Proofs.YtigobehhmodoiaaDoor
