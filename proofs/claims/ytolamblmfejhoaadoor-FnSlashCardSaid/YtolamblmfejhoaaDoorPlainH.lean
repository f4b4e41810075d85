/- Plain functions: what the package's replacers compute. -/
import Derived.Test.YtolamblmfejhoaaDoorPlain
namespace Go.Proofs.YtolamblmfejhoaaDoor
set_option linter.unusedVariables false
set_option linter.unusedSimpArgs false

/-- What a replacer does with a character: its replacement, or none. T: the table, n: its length; bad: whether the characters that are none are let by. -/
def lowHex (d : Nat) : UInt8 := if d < 10 then UInt8.ofNat (48 + d) else UInt8.ofNat (87 + d)
def hex4 (r : Nat) : Bytes := [lowHex (r / 4096 % 16), lowHex (r / 256 % 16), lowHex (r / 16 % 16), lowHex (r % 16)]
def badRune (r : Nat) : Bool := (decide (0xfdd0 ≤ r) && decide (r ≤ 0xfdef)) || (decide (0xfff0 ≤ r) && decide (r ≤ 0xffff))
def badText (r : Nat) : Bytes := [38, 35, 120] ++ hex4 r ++ [59]
/-- The text of one step: what stands for the first character of l. -/
def replOne (T : Nat → Bytes) (n : Nat) (bad : Bool) (l : Bytes) : Bytes :=
  if (decL l).1 < n then (if T (decL l).1 = [] then l.take (decL l).2 else T (decL l).1)
  else if bad = true then l.take (decL l).2
  else if badRune (decL l).1 = true then badText (decL l).1 else l.take (decL l).2
def replGo (T : Nat → Bytes) (n : Nat) (bad : Bool) : Nat → Bytes → Bytes
  | 0, _ => []
  | f + 1, l => if l = [] then [] else replOne T n bad l ++ replGo T n bad f (l.drop (decL l).2)
def replL (T : Nat → Bytes) (n : Nat) (bad : Bool) (l : Bytes) : Bytes := replGo T n bad l.length l

theorem decL_pos (l : Bytes) : 1 ≤ (decL l).2 := by
  unfold decL Go.Lib.decodeN
  repeat' split
  all_goals simp
theorem decL_lt (l : Bytes) : (decL l).1 < 1114112 := by
  unfold decL Go.Lib.decodeN
  generalize at0 l 0 = b0, at0 l 1 = b1, at0 l 2 = b2, at0 l 3 = b3, l.length = n at *
  repeat' split
  all_goals simp_all
  all_goals omega
theorem decL_le (l : Bytes) (h : l ≠ []) : (decL l).2 ≤ l.length := by
  have hl : l.length ≠ 0 := fun h' => h (List.eq_nil_of_length_eq_zero h')
  have h1 : 1 ≤ l.length := by omega
  clear hl h
  unfold decL Go.Lib.decodeN
  generalize at0 l 0 = b0, at0 l 1 = b1, at0 l 2 = b2, at0 l 3 = b3, l.length = n at *
  repeat' split
  all_goals simp_all
  all_goals omega

theorem replGo_mono (T : Nat → Bytes) (n : Nat) (bad : Bool) : ∀ (f g : Nat) (l : Bytes), l.length ≤ f → l.length ≤ g → replGo T n bad f l = replGo T n bad g l
  | 0, 0, l, _, _ => rfl
  | 0, g + 1, l, h, _ => by
    have : l = [] := List.eq_nil_of_length_eq_zero (by omega)
    subst this; rfl
  | f + 1, 0, l, _, h => by
    have : l = [] := List.eq_nil_of_length_eq_zero (by omega)
    subst this; rfl
  | f + 1, g + 1, l, h1, h2 => by
    unfold replGo
    by_cases hl : l = []
    · simp [hl]
    · have := decL_pos l
      rw [replGo_mono T n bad f g (l.drop (decL l).2) (by rw [List.length_drop]; omega) (by rw [List.length_drop]; omega)]

theorem replL_nil (T : Nat → Bytes) (n : Nat) (bad : Bool) : replL T n bad [] = [] := rfl
theorem replL_step (T : Nat → Bytes) (n : Nat) (bad : Bool) (l : Bytes) (h : l ≠ []) : replL T n bad l = replOne T n bad l ++ replL T n bad (l.drop (decL l).2) := by
  have hl : l.length ≠ 0 := fun h' => h (List.eq_nil_of_length_eq_zero h')
  unfold replL
  obtain ⟨m, hm⟩ : ∃ m, l.length = m + 1 := ⟨l.length - 1, by omega⟩
  rw [hm]
  have := decL_pos l
  conv => lhs; unfold replGo
  rw [if_neg h, replGo_mono T n bad m (l.drop (decL l).2).length _ (by rw [List.length_drop]; omega) (Nat.le_refl _)]

/-- The loop's account: what has been written, what waits, what is to come. -/
theorem acct_keep (T : Nat → Bytes) (n : Nat) (bad : Bool) (l acc : Bytes) (j k : Nat) (hk : k < l.length) (hj : j ≤ k)
    (h : acc ++ (l.drop j).take (k - j) ++ replL T n bad (l.drop k) = replL T n bad l) (hs : replOne T n bad (l.drop k) = (l.drop k).take (decL (l.drop k)).2) :
    acc ++ (l.drop j).take (k + (decL (l.drop k)).2 - j) ++ replL T n bad (l.drop (k + (decL (l.drop k)).2)) = replL T n bad l := by
  have hne : l.drop k ≠ [] := by intro h'; have := congrArg List.length h'; rw [List.length_drop] at this; simp at this; omega
  rw [replL_step T n bad (l.drop k) hne, hs, List.drop_drop] at h
  rw [← h]
  have e1 : (l.drop j).take (k + (decL (l.drop k)).2 - j) = (l.drop j).take (k - j) ++ (l.drop k).take (decL (l.drop k)).2 := by
    have : k + (decL (l.drop k)).2 - j = (k - j) + (decL (l.drop k)).2 := by omega
    rw [this, List.take_add, List.drop_drop]
    congr 3
    omega
  rw [e1]
  simp [List.append_assoc]
theorem acct_put (T : Nat → Bytes) (n : Nat) (bad : Bool) (l acc x : Bytes) (j k : Nat) (hk : k < l.length) (hj : j ≤ k)
    (h : acc ++ (l.drop j).take (k - j) ++ replL T n bad (l.drop k) = replL T n bad l) (hs : replOne T n bad (l.drop k) = x) :
    (acc ++ (l.drop j).take (k - j) ++ x) ++ (l.drop (k + (decL (l.drop k)).2)).take (k + (decL (l.drop k)).2 - (k + (decL (l.drop k)).2)) ++ replL T n bad (l.drop (k + (decL (l.drop k)).2)) = replL T n bad l := by
  have hne : l.drop k ≠ [] := by intro h'; have := congrArg List.length h'; rw [List.length_drop] at this; simp at this; omega
  rw [replL_step T n bad (l.drop k) hne, hs, List.drop_drop] at h
  rw [← h]
  simp [List.append_assoc]
end Go.Proofs.YtolamblmfejhoaaDoor
