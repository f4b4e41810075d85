/- The plain law of the attributes' names. No program is in sight here. -/
import Derived.Test.YtolamblmfejhoaaDoorPlain
namespace Go.Proofs.YtolamblmfejhoaaDoor
set_option linter.unusedVariables false
set_option linter.unusedSimpArgs false

def attrMap : List (Bytes × Nat) := [
  ([97, 99, 99, 101, 112, 116], 0),
  ([97, 99, 99, 101, 112, 116, 45, 99, 104, 97, 114, 115, 101, 116], 8),
  ([97, 99, 116, 105, 111, 110], 6),
  ([97, 108, 116], 0),
  ([97, 114, 99, 104, 105, 118, 101], 6),
  ([97, 115, 121, 110, 99], 8),
  ([97, 117, 116, 111, 99, 111, 109, 112, 108, 101, 116, 101], 0),
  ([97, 117, 116, 111, 102, 111, 99, 117, 115], 0),
  ([97, 117, 116, 111, 112, 108, 97, 121], 0),
  ([98, 97, 99, 107, 103, 114, 111, 117, 110, 100], 6),
  ([98, 111, 114, 100, 101, 114], 0),
  ([99, 104, 101, 99, 107, 101, 100], 0),
  ([99, 105, 116, 101], 6),
  ([99, 104, 97, 108, 108, 101, 110, 103, 101], 8),
  ([99, 104, 97, 114, 115, 101, 116], 8),
  ([99, 108, 97, 115, 115], 0),
  ([99, 108, 97, 115, 115, 105, 100], 6),
  ([99, 111, 100, 101, 98, 97, 115, 101], 6),
  ([99, 111, 108, 115], 0),
  ([99, 111, 108, 115, 112, 97, 110], 0),
  ([99, 111, 110, 116, 101, 110, 116], 8),
  ([99, 111, 110, 116, 101, 110, 116, 101, 100, 105, 116, 97, 98, 108, 101], 0),
  ([99, 111, 110, 116, 101, 120, 116, 109, 101, 110, 117], 0),
  ([99, 111, 110, 116, 114, 111, 108, 115], 0),
  ([99, 111, 111, 114, 100, 115], 0),
  ([99, 114, 111, 115, 115, 111, 114, 105, 103, 105, 110], 8),
  ([100, 97, 116, 97], 6),
  ([100, 97, 116, 101, 116, 105, 109, 101], 0),
  ([100, 101, 102, 97, 117, 108, 116], 0),
  ([100, 101, 102, 101, 114], 8),
  ([100, 105, 114], 0),
  ([100, 105, 114, 110, 97, 109, 101], 0),
  ([100, 105, 115, 97, 98, 108, 101, 100], 0),
  ([100, 114, 97, 103, 103, 97, 98, 108, 101], 0),
  ([100, 114, 111, 112, 122, 111, 110, 101], 0),
  ([101, 110, 99, 116, 121, 112, 101], 8),
  ([102, 111, 114], 0),
  ([102, 111, 114, 109], 8),
  ([102, 111, 114, 109, 97, 99, 116, 105, 111, 110], 6),
  ([102, 111, 114, 109, 101, 110, 99, 116, 121, 112, 101], 8),
  ([102, 111, 114, 109, 109, 101, 116, 104, 111, 100], 8),
  ([102, 111, 114, 109, 110, 111, 118, 97, 108, 105, 100, 97, 116, 101], 8),
  ([102, 111, 114, 109, 116, 97, 114, 103, 101, 116], 0),
  ([104, 101, 97, 100, 101, 114, 115], 0),
  ([104, 101, 105, 103, 104, 116], 0),
  ([104, 105, 100, 100, 101, 110], 0),
  ([104, 105, 103, 104], 0),
  ([104, 114, 101, 102], 6),
  ([104, 114, 101, 102, 108, 97, 110, 103], 0),
  ([104, 116, 116, 112, 45, 101, 113, 117, 105, 118], 8),
  ([105, 99, 111, 110], 6),
  ([105, 100], 0),
  ([105, 115, 109, 97, 112], 0),
  ([107, 101, 121, 116, 121, 112, 101], 8),
  ([107, 105, 110, 100], 0),
  ([108, 97, 98, 101, 108], 0),
  ([108, 97, 110, 103], 0),
  ([108, 97, 110, 103, 117, 97, 103, 101], 8),
  ([108, 105, 115, 116], 0),
  ([108, 111, 110, 103, 100, 101, 115, 99], 6),
  ([108, 111, 111, 112], 0),
  ([108, 111, 119], 0),
  ([109, 97, 110, 105, 102, 101, 115, 116], 6),
  ([109, 97, 120], 0),
  ([109, 97, 120, 108, 101, 110, 103, 116, 104], 0),
  ([109, 101, 100, 105, 97], 0),
  ([109, 101, 100, 105, 97, 103, 114, 111, 117, 112], 0),
  ([109, 101, 116, 104, 111, 100], 8),
  ([109, 105, 110], 0),
  ([109, 117, 108, 116, 105, 112, 108, 101], 0),
  ([110, 97, 109, 101], 0),
  ([110, 111, 118, 97, 108, 105, 100, 97, 116, 101], 8),
  ([111, 112, 101, 110], 0),
  ([111, 112, 116, 105, 109, 117, 109], 0),
  ([112, 97, 116, 116, 101, 114, 110], 8),
  ([112, 108, 97, 99, 101, 104, 111, 108, 100, 101, 114], 0),
  ([112, 111, 115, 116, 101, 114], 6),
  ([112, 114, 111, 102, 105, 108, 101], 6),
  ([112, 114, 101, 108, 111, 97, 100], 0),
  ([112, 117, 98, 100, 97, 116, 101], 0),
  ([114, 97, 100, 105, 111, 103, 114, 111, 117, 112], 0),
  ([114, 101, 97, 100, 111, 110, 108, 121], 0),
  ([114, 101, 108], 8),
  ([114, 101, 113, 117, 105, 114, 101, 100], 0),
  ([114, 101, 118, 101, 114, 115, 101, 100], 0),
  ([114, 111, 119, 115], 0),
  ([114, 111, 119, 115, 112, 97, 110], 0),
  ([115, 97, 110, 100, 98, 111, 120], 8),
  ([115, 112, 101, 108, 108, 99, 104, 101, 99, 107], 0),
  ([115, 99, 111, 112, 101], 0),
  ([115, 99, 111, 112, 101, 100], 0),
  ([115, 101, 97, 109, 108, 101, 115, 115], 0),
  ([115, 101, 108, 101, 99, 116, 101, 100], 0),
  ([115, 104, 97, 112, 101], 0),
  ([115, 105, 122, 101], 0),
  ([115, 105, 122, 101, 115], 0),
  ([115, 112, 97, 110], 0),
  ([115, 114, 99], 6),
  ([115, 114, 99, 100, 111, 99], 2),
  ([115, 114, 99, 108, 97, 110, 103], 0),
  ([115, 114, 99, 115, 101, 116], 7),
  ([115, 116, 97, 114, 116], 0),
  ([115, 116, 101, 112], 0),
  ([115, 116, 121, 108, 101], 1),
  ([116, 97, 98, 105, 110, 100, 101, 120], 0),
  ([116, 97, 114, 103, 101, 116], 0),
  ([116, 105, 116, 108, 101], 0),
  ([116, 121, 112, 101], 8),
  ([117, 115, 101, 109, 97, 112], 6),
  ([118, 97, 108, 117, 101], 8),
  ([119, 105, 100, 116, 104], 0),
  ([119, 114, 97, 112], 0),
  ([120, 109, 108, 110, 115], 6)]
/-- Where a text stands first in another one. -/
def idxL (m : Bytes) : Bytes → Option Nat
  | [] => if m = [] then some 0 else none
  | b :: t => if m.isPrefixOf (b :: t) = true then some 0 else (idxL m t).map (· + 1)
def idxI (o : Option Nat) : Int := match o with | some i => (i : Int) | none => -1
theorem idxL_nil (m : Bytes) : idxL m [] = if m = [] then some 0 else none := rfl
theorem idxL_short (m : Bytes) : ∀ l : Bytes, l.length < m.length → idxL m l = none
  | [], h => by
    rw [idxL_nil, if_neg]
    intro e; subst e; simp at h
  | b :: t, h => by
    have h1 : m.isPrefixOf (b :: t) = false := by
      cases e : m.isPrefixOf (b :: t)
      · rfl
      · have := (List.isPrefixOf_iff_prefix.1 e).length_le
        omega
    unfold idxL
    rw [h1, idxL_short m t (by simp at h; omega)]
    rfl
theorem idxL_here (m l : Bytes) (h : m.isPrefixOf l = true) : idxL m l = some 0 := by
  cases l with
  | nil =>
    have : m = [] := by cases m with | nil => rfl | cons a t => simp at h
    rw [idxL_nil, if_pos this]
  | cons b t => unfold idxL; rw [if_pos h]
theorem idxL_next (m : Bytes) (b : UInt8) (t : Bytes) (h : m.isPrefixOf (b :: t) = false) : idxL m (b :: t) = (idxL m t).map (· + 1) := by
  show (if m.isPrefixOf (b :: t) = true then some 0 else (idxL m t).map (· + 1)) = _
  rw [if_neg (by rw [h]; decide)]
theorem idxL_lt (m : Bytes) : ∀ (l : Bytes) (i : Nat), idxL m l = some i → i + m.length ≤ l.length
  | [], i, h => by
    rw [idxL_nil] at h
    split at h
    · next e => subst e; simp at h; simp; omega
    · cases h
  | b :: t, i, h => by
    cases e : m.isPrefixOf (b :: t)
    · rw [idxL_next m b t e] at h
      cases e2 : idxL m t with
      | none => rw [e2] at h; cases h
      | some k =>
        rw [e2] at h
        have := idxL_lt m t k e2
        simp at h
        simp
        omega
    · rw [idxL_here m _ e] at h
      have := (List.isPrefixOf_iff_prefix.1 e).length_le
      obtain rfl := Option.some.inj h
      omega
theorem one_prefix (c b : UInt8) (t : Bytes) : [c].isPrefixOf (b :: t) = (c == b) := by simp [List.isPrefixOf]
/-- One byte, found. -/
theorem idxL_one (c : UInt8) : ∀ (x r : Bytes), (∀ b ∈ x, b ≠ c) → idxL [c] (x ++ c :: r) = some x.length
  | [], r, _ => idxL_here _ _ (by simp [List.isPrefixOf])
  | b :: x, r, h => by
    have h1 : [c].isPrefixOf (b :: (x ++ c :: r)) = false := by
      rw [one_prefix]
      have := h b (by simp)
      simp; exact fun e => this e.symm
    rw [List.cons_append, idxL_next _ _ _ h1, idxL_one c x r (fun b hb => h b (by simp [hb]))]
    simp
theorem idxL_none (c : UInt8) : ∀ (x : Bytes), (∀ b ∈ x, b ≠ c) → idxL [c] x = none
  | [], _ => by rw [idxL_nil]; simp
  | b :: x, h => by
    have h1 : [c].isPrefixOf (b :: x) = false := by
      rw [one_prefix]
      have := h b (by simp)
      simp; exact fun e => this e.symm
    rw [idxL_next _ _ _ h1, idxL_none c x (fun b hb => h b (by simp [hb]))]
    rfl
theorem idxL_one_iff (c : UInt8) : ∀ (x : Bytes) (i : Nat), idxL [c] x = some i → (∀ b ∈ x.take i, b ≠ c) ∧ i < x.length ∧ x[i]? = some c
  | [], i, h => by rw [idxL_nil] at h; simp at h
  | b :: x, i, h => by
    cases e : [c].isPrefixOf (b :: x)
    · rw [idxL_next _ _ _ e] at h
      cases e2 : idxL [c] x with
      | none => rw [e2] at h; cases h
      | some k =>
        rw [e2] at h
        obtain ⟨h1, h2, h3⟩ := idxL_one_iff c x k e2
        simp at h
        subst h
        rw [one_prefix] at e
        refine ⟨?_, by simp; omega, by simpa using h3⟩
        intro b' hb
        rw [List.take_succ_cons] at hb
        rcases List.mem_cons.1 hb with rfl | hb
        · intro e3; subst e3; simp at e
        · exact h1 b' hb
    · rw [idxL_here _ _ e] at h
      obtain rfl := Option.some.inj h
      rw [one_prefix] at e
      simp at e
      subst e
      simp

def wordB (l : Bytes) : Bool := !l.isEmpty && l.all (fun b => isAlnumB b.toNat) && (decide (97 ≤ at0 l 0) && decide (at0 l 0 ≤ 122))
def urlNames : List Bytes := [[104, 114, 101, 102], [115, 114, 99], [97, 99, 116, 105, 111, 110], [99, 105, 116, 101], [102, 111, 114, 109, 97, 99, 116, 105, 111, 110], [112, 111, 115, 116, 101, 114]]
def plainNames : List Bytes := [[116, 105, 116, 108, 101], [99, 108, 97, 115, 115], [97, 108, 116], [105, 100], [108, 97, 110, 103], [119, 105, 100, 116, 104], [104, 101, 105, 103, 104, 116]]
def styleW : Bytes := [115, 116, 121, 108, 101]
def onW : Bytes := [111, 110]
def dataW : Bytes := [100, 97, 116, 97, 45]
def xmlnsW : Bytes := [120, 109, 108, 110, 115]
def srcW : Bytes := [115, 114, 99]
def uriW : Bytes := [117, 114, 105]
def urlW : Bytes := [117, 114, 108]
def isOn (l : Bytes) : Bool := decide (2 < l.length) && (l.take 2 == onW) && wordB (l.drop 2)
def namedL (l : Bytes) : Nat × Bool :=
  if isOn l = true then (4, true) else if (l == styleW) = true then (1, true)
  else if urlNames.any (· == l) = true then (6, true) else if plainNames.any (· == l) = true then (0, true) else (0, false)

def lookL : List (Bytes × Nat) → Bytes → Nat × Bool
  | [], _ => (0, false)
  | e :: t, l => if e.1 == l then (e.2, true) else lookL t l
def coreL (l : Bytes) : Nat :=
  if (lookL attrMap l).2 = true then (lookL attrMap l).1
  else if onW.isPrefixOf l = true then 4
  else if ((idxL srcW l).isSome || (idxL uriW l).isSome || (idxL urlW l).isSome) = true then 6 else 0
def attrTypeL (l : Bytes) : Nat :=
  if dataW.isPrefixOf l = true then coreL (l.drop 5)
  else match idxL [58] l with
    | some i => if (l.take i == xmlnsW) = true then 6 else coreL (l.drop (i + 1))
    | none => coreL l

theorem alnum_ne (b : UInt8) (h : isAlnumB b.toNat = true) : b ≠ 58 ∧ b ≠ 45 ∧ b ≠ 47 := by
  refine ⟨?_, ?_, ?_⟩ <;> (rintro rfl; exact absurd h (by decide))
theorem word_all (l : Bytes) (h : wordB l = true) : ∀ b ∈ l, isAlnumB b.toNat = true := by
  unfold wordB at h
  simp only [Bool.and_eq_true, List.all_eq_true] at h
  exact h.1.2
theorem word_ne (l : Bytes) (h : wordB l = true) : l ≠ [] := by
  rintro rfl
  exact absurd h (by decide)
theorem data_not (l : Bytes) (h : ∀ b ∈ l, b ≠ 45) : dataW.isPrefixOf l = false := by
  cases e : dataW.isPrefixOf l
  · rfl
  · exfalso
    obtain ⟨r, hr⟩ := List.isPrefixOf_iff_prefix.1 e
    exact h 45 (by rw [← hr]; simp [dataW]) rfl
theorem attr_plain (l : Bytes) (h : ∀ b ∈ l, b ≠ 45 ∧ b ≠ 58) : attrTypeL l = coreL l := by
  unfold attrTypeL
  rw [data_not l (fun b hb => (h b hb).1), idxL_none 58 l (fun b hb => (h b hb).2)]
  rfl
theorem look_not : ∀ (t : List (Bytes × Nat)) (l : Bytes), (∀ e ∈ t, e.1 ≠ l) → lookL t l = (0, false)
  | [], _, _ => rfl
  | e :: t, l, h => by
    unfold lookL
    rw [if_neg (by have := h e (by simp); simpa using this)]
    exact look_not t l (fun e he => h e (by simp [he]))
theorem map_on : ∀ e ∈ attrMap, (e.1.take 2 == onW) = false := by decide +kernel

theorem named_law (l : Bytes) (k : Nat) (h : namedL l = (k, true)) : attrTypeL l = k := by
  unfold namedL at h
  by_cases c1 : isOn l = true
  · rw [if_pos c1] at h
    obtain rfl : 4 = k := congrArg Prod.fst h
    unfold isOn at c1
    simp only [Bool.and_eq_true, beq_iff_eq, decide_eq_true_eq] at c1
    obtain ⟨⟨h1, h2⟩, h3⟩ := c1
    have hl : l = onW ++ l.drop 2 := by rw [← h2]; exact (List.take_append_drop 2 l).symm
    have hb : ∀ b ∈ l, b ≠ 45 ∧ b ≠ 58 := by
      intro b hb
      rw [hl] at hb
      rcases List.mem_append.1 hb with hb | hb
      · have : ∀ b ∈ onW, b ≠ 45 ∧ b ≠ 58 := by decide
        exact this b hb
      · have := alnum_ne b (word_all _ h3 b hb)
        exact ⟨this.2.1, this.1⟩
    rw [attr_plain l hb]
    have hn : lookL attrMap l = (0, false) := by
      refine look_not _ _ ?_
      intro e he heq
      have := map_on e he
      rw [heq, h2] at this
      exact absurd this (by decide)
    unfold coreL
    rw [hn, if_neg (by decide), if_pos]
    rw [List.isPrefixOf_iff_prefix]
    exact ⟨l.drop 2, hl.symm⟩
  rw [if_neg c1] at h
  by_cases c2 : (l == styleW) = true
  · rw [if_pos c2] at h
    obtain rfl : 1 = k := congrArg Prod.fst h
    obtain rfl : l = styleW := by simpa using c2
    decide +kernel
  rw [if_neg c2] at h
  by_cases c3 : urlNames.any (· == l) = true
  · rw [if_pos c3] at h
    obtain rfl : 6 = k := congrArg Prod.fst h
    obtain ⟨x, hx, hxl⟩ := List.any_eq_true.1 c3
    obtain rfl : x = l := by simpa using hxl
    have : ∀ x ∈ urlNames, attrTypeL x = 6 := by decide +kernel
    exact this x hx
  rw [if_neg c3] at h
  by_cases c4 : plainNames.any (· == l) = true
  · rw [if_pos c4] at h
    obtain rfl : 0 = k := congrArg Prod.fst h
    obtain ⟨x, hx, hxl⟩ := List.any_eq_true.1 c4
    obtain rfl : x = l := by simpa using hxl
    have : ∀ x ∈ plainNames, attrTypeL x = 0 := by decide +kernel
    exact this x hx
  rw [if_neg c4] at h
  cases h

theorem spaces_law (sp nm : Bytes) (h1 : wordB sp = true) (h2 : wordB nm = true) (h3 : sp ≠ xmlnsW) :
    attrTypeL (sp ++ 58 :: nm) = attrTypeL nm ∧ attrTypeL (dataW ++ nm) = attrTypeL nm ∧ attrTypeL (xmlnsW ++ 58 :: nm) = 6 := by
  have a1 := fun b hb => alnum_ne b (word_all _ h1 b hb)
  have a2 := fun b hb => alnum_ne b (word_all _ h2 b hb)
  have e0 : attrTypeL nm = coreL nm := attr_plain nm (fun b hb => ⟨(a2 b hb).2.1, (a2 b hb).1⟩)
  refine ⟨?_, ?_, ?_⟩
  · rw [e0]
    unfold attrTypeL
    rw [data_not, idxL_one 58 sp nm (fun b hb => (a1 b hb).1)]
    · have t1 : (sp ++ 58 :: nm).take sp.length = sp := by simp
      have t2 : (sp ++ 58 :: nm).drop (sp.length + 1) = nm := by simp [← List.drop_drop]
      show (if ((sp ++ 58 :: nm).take sp.length == xmlnsW) = true then 6 else coreL ((sp ++ 58 :: nm).drop (sp.length + 1))) = _
      rw [t1, t2, if_neg (by simpa using h3)]
    · intro b hb
      rcases List.mem_append.1 hb with hb | hb
      · exact (a1 b hb).2.1
      · rcases List.mem_cons.1 hb with rfl | hb
        · decide
        · exact (a2 b hb).2.1
  · rw [e0]
    unfold attrTypeL
    rw [if_pos (by rw [List.isPrefixOf_iff_prefix]; exact ⟨nm, rfl⟩)]
    rfl
  · unfold attrTypeL
    have e1 := idxL_one 58 xmlnsW nm (by decide)
    rw [if_neg (by simp [dataW, xmlnsW, List.isPrefixOf]), e1]
    show (if ((xmlnsW ++ 58 :: nm).take xmlnsW.length == xmlnsW) = true then 6 else _) = _
    rw [if_pos (by simp)]
end Go.Proofs.YtolamblmfejhoaaDoor
