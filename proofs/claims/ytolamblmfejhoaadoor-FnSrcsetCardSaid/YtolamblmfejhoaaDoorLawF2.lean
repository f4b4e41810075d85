/- The plain law of URLs that are filtered. No program is in sight here. -/
import Derived.Test.YtolamblmfejhoaaDoorLawN
import Derived.Lib.Case
namespace Go.Proofs.YtolamblmfejhoaaDoor
set_option linter.unusedVariables false
set_option linter.unusedSimpArgs false

/-- A character is a small letter (not k), in any case of letters. -/
def foldR (r c : Nat) : Bool := r == c || (decide (65 ≤ r) && decide (r ≤ 90) && r + 32 == c) || (r == 383 && c == 115)
def foldL : Bytes → Bytes → Bool
  | s, [] => s.isEmpty
  | s, c :: t => !s.isEmpty && foldR (decL s).1 c.toNat && foldL (s.drop (decL s).2) t
def httpW : Bytes := [104, 116, 116, 112]
def httpsW : Bytes := [104, 116, 116, 112, 115]
def mailtoW : Bytes := [109, 97, 105, 108, 116, 111]
def schemeOk (p : Bytes) : Bool := foldL p httpW || foldL p httpsW || foldL p mailtoW
def safeL (s : Bytes) : Bool :=
  match idxL [58] s with
  | some i => (idxL [47] (s.take i)).isSome || schemeOk (s.take i)
  | none => true
def failW : Bytes := [35, 90, 103, 111, 116, 109, 112, 108, 90]
def filterL (s : Bytes) : Bytes := if safeL s = true then s else failW

def schemeBad (c i : Nat) : Bool := !isAlphaB c && (i == 0 || !(decide (48 ≤ c) && decide (c ≤ 57))) && (i == 0 || (c != 43 && c != 45 && c != 46))
/-- Where the colon behind a scheme stands. -/
def schemeGo : Bytes → Nat → Option Nat
  | [], _ => none
  | b :: t, i => if b.toNat = 58 ∧ 0 < i then some i else if schemeBad b.toNat i = true then none else schemeGo t (i + 1)
def schemeL (s : Bytes) : Option Nat := schemeGo s 0

theorem scheme_char (b : UInt8) (i : Nat) (h : schemeBad b.toNat i = false) : b ≠ 58 ∧ b ≠ 47 ∧ b.toNat < 128 := by
  unfold schemeBad isAlphaB at h
  refine ⟨?_, ?_, ?_⟩
  · rintro rfl; simp at h
  · rintro rfl; simp at h
  · apply Classical.byContradiction
    intro h1
    have e1 : decide (b.toNat ≤ 122) = false := by simp; omega
    have e2 : decide (b.toNat ≤ 90) = false := by simp; omega
    have e3 : decide (b.toNat ≤ 57) = false := by simp; omega
    have e4 : (b.toNat != 43) = true := by simp; omega
    have e5 : (b.toNat != 45) = true := by simp; omega
    have e6 : (b.toNat != 46) = true := by simp; omega
    rw [e1, e2, e3, e4, e5, e6] at h
    simp at h
theorem schemeGo_some : ∀ (s : Bytes) (j i : Nat), schemeGo s j = some i → j ≤ i ∧ (∀ b ∈ s.take (i - j), b ≠ 58 ∧ b ≠ 47 ∧ b.toNat < 128) ∧ i - j < s.length ∧ s[i - j]? = some 58
  | [], j, i, h => by cases h
  | b :: t, j, i, h => by
    unfold schemeGo at h
    split at h
    · next hc =>
      obtain rfl := Option.some.inj h
      refine ⟨Nat.le_refl _, ?_, by simp, ?_⟩
      · rw [Nat.sub_self]; intro b hb; cases hb
      · rw [Nat.sub_self]
        show some b = some 58
        congr 1
        exact UInt8.toNat_inj.1 hc.1
    · split at h
      · cases h
      · next hb =>
        have hb' : schemeBad b.toNat j = false := by simpa using hb
        obtain ⟨h1, h2, h3, h4⟩ := schemeGo_some t (j + 1) i h
        have e : i - j = (i - (j + 1)) + 1 := by omega
        rw [e]
        refine ⟨by omega, ?_, by simp; omega, by simpa using h4⟩
        intro x hx
        rw [List.take_succ_cons] at hx
        rcases List.mem_cons.1 hx with rfl | hx
        · exact scheme_char x j hb'
        · exact h2 x hx
theorem scheme_idx (s : Bytes) (i : Nat) (h : schemeL s = some i) : idxL [58] s = some i ∧ (∀ b ∈ s.take i, b ≠ 47 ∧ b.toNat < 128) := by
  obtain ⟨_, h2, h3, h4⟩ := schemeGo_some s 0 i h
  rw [Nat.sub_zero] at h2 h3 h4
  refine ⟨?_, fun b hb => (h2 b hb).2⟩
  have e : s = s.take i ++ 58 :: s.drop (i + 1) := by
    have e1 := (List.take_append_drop i s).symm
    rw [List.drop_eq_getElem_cons h3] at e1
    rw [List.getElem?_eq_getElem h3] at h4
    rw [Option.some.inj h4] at e1
    exact e1
  have h5 := idxL_one 58 (s.take i) (s.drop (i + 1)) (fun b hb => (h2 b hb).1)
  rw [← e] at h5
  rw [h5, List.length_take, Nat.min_eq_left (by omega)]
theorem foldR_ascii (b c : UInt8) (hb : b.toNat < 128) (hc : 97 ≤ c.toNat ∧ c.toNat ≤ 122) : foldR b.toNat c.toNat = (Lib.lowerB b == c) := by
  have hu := Lib.isUpperB_int b
  have h2 : ∀ x : UInt8, (x == c) = decide (x.toNat = c.toNat) := by
    intro x
    rw [Bool.eq_iff_iff]
    simp only [beq_iff_eq, decide_eq_true_eq, ← UInt8.toNat_inj]
  rw [h2]
  unfold foldR
  rw [Bool.eq_iff_iff]
  simp only [Bool.or_eq_true, Bool.and_eq_true, beq_iff_eq, decide_eq_true_eq]
  cases h : Lib.isUpperB b
  · rw [Lib.lowerB_of_not b h]
    rw [h] at hu
    have hu' := hu.symm
    rw [Bool.and_eq_false_iff] at hu'
    simp only [decide_eq_false_iff_not] at hu'
    omega
  · have := Lib.lowerB_int b h
    rw [h] at hu
    have hu' := hu.symm
    rw [Bool.and_eq_true] at hu'
    simp only [decide_eq_true_eq] at hu'
    omega
theorem dec_1 (b : UInt8) (t : Bytes) (h : b.toNat < 128) : decL (b :: t) = (b.toNat, 1) := by
  have h0 : at0 (b :: t) 0 = b.toNat := by simp [at0]
  unfold decL Go.Lib.decodeN
  rw [h0, if_pos h]
theorem fold_ascii : ∀ (t s : Bytes), (∀ b ∈ s, b.toNat < 128) → (∀ b ∈ t, 97 ≤ b.toNat ∧ b.toNat ≤ 122) → foldL s t = (Lib.toLowerA s == t)
  | [], s, _, _ => by
    cases s <;> rfl
  | c :: t, [], _, _ => rfl
  | c :: t, b :: s, hs, ht => by
    unfold foldL
    rw [dec_1 b s (hs b (by simp)), foldR_ascii b c (hs b (by simp)) (ht c (by simp))]
    show (true && (Lib.lowerB b == c) && foldL ((b :: s).drop 1) t) = _
    rw [List.drop_succ_cons, List.drop_zero, fold_ascii t s (fun x hx => hs x (by simp [hx])) (fun x hx => ht x (by simp [hx]))]
    rfl
theorem schemeOk_ascii (p : Bytes) (h : ∀ b ∈ p, b.toNat < 128) : schemeOk p = (Lib.toLowerA p == httpW || Lib.toLowerA p == httpsW || Lib.toLowerA p == mailtoW) := by
  unfold schemeOk
  rw [fold_ascii httpW p h (by decide), fold_ascii httpsW p h (by decide), fold_ascii mailtoW p h (by decide)]
theorem filter_scheme (s : Bytes) (i : Nat) (h : schemeL s = some i) : safeL s = (Lib.toLowerA (s.take i) == httpW || Lib.toLowerA (s.take i) == httpsW || Lib.toLowerA (s.take i) == mailtoW) := by
  obtain ⟨h1, h2⟩ := scheme_idx s i h
  unfold safeL
  rw [h1]
  show ((idxL [47] (s.take i)).isSome || schemeOk (s.take i)) = _
  rw [idxL_none 47 _ (fun b hb => (h2 b hb).1), schemeOk_ascii _ (fun b hb => (h2 b hb).2)]
  rfl
theorem filter_none (s : Bytes) (h : hasB s 58 = false) : safeL s = true := by
  unfold safeL
  rw [idxL_none 58 s]
  intro b hb e
  subst e
  unfold hasB at h
  rw [List.any_eq_false] at h
  exact h _ hb (by decide)
end Go.Proofs.YtolamblmfejhoaaDoor
