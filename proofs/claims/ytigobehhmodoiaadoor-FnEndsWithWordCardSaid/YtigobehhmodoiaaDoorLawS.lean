/- Plain laws: values in strings of CSS are read as the values. -/
import Derived.Test.YtigobehhmodoiaaDoorChr
namespace Go.Proofs.YtigobehhmodoiaaDoor
set_option linter.unusedVariables false
set_option linter.unusedSimpArgs false

/-! ### a text that is replaced character by character -/
def genGo (one : Bytes → Bytes) : Nat → Bytes → Bytes
  | 0, _ => []
  | f + 1, l => if l = [] then [] else one l ++ genGo one f (l.drop (decL l).2)
def genL (one : Bytes → Bytes) (l : Bytes) : Bytes := genGo one l.length l
theorem genGo_mono (one : Bytes → Bytes) : ∀ (f g : Nat) (l : Bytes), l.length ≤ f → l.length ≤ g → genGo one f l = genGo one g l
  | 0, 0, l, _, _ => rfl
  | 0, g + 1, l, h, _ => by
    have : l = [] := List.eq_nil_of_length_eq_zero (by omega)
    subst this; rfl
  | f + 1, 0, l, _, h => by
    have : l = [] := List.eq_nil_of_length_eq_zero (by omega)
    subst this; rfl
  | f + 1, g + 1, l, h1, h2 => by
    unfold genGo
    by_cases hl : l = []
    · simp [hl]
    · have := decL_pos l
      rw [genGo_mono one f g (l.drop (decL l).2) (by rw [List.length_drop]; omega) (by rw [List.length_drop]; omega)]
theorem genL_nil (one : Bytes → Bytes) : genL one [] = [] := rfl
theorem genL_step (one : Bytes → Bytes) (l : Bytes) (h : l ≠ []) : genL one l = one l ++ genL one (l.drop (decL l).2) := by
  have hl : l.length ≠ 0 := fun h' => h (List.eq_nil_of_length_eq_zero h')
  unfold genL
  obtain ⟨m, hm⟩ : ∃ m, l.length = m + 1 := ⟨l.length - 1, by omega⟩
  rw [hm]
  have := decL_pos l
  conv => lhs; unfold genGo
  rw [if_neg h, genGo_mono one m (l.drop (decL l).2).length _ (by rw [List.length_drop]; omega) (Nat.le_refl _)]
/-- The loop's account: what has been written, what waits, what is to come. -/
def GAcct (one : Bytes → Bytes) (l acc : Bytes) (j k : Nat) : Prop :=
  acc ++ (l.drop j).take (k - j) ++ genL one (l.drop k) = genL one l ∧ acc.length ≤ 8 * k
theorem gacct_keep {one : Bytes → Bytes} {l acc : Bytes} {j k d z : Nat} (hl : l.length = z) (hd : d = (decL (l.drop k)).2) (hk : k < z) (hj : j ≤ k)
    (h : GAcct one l acc j k) (hs : one (l.drop k) = (l.drop k).take d) : GAcct one l acc j (k + d) := by
  subst hd
  refine ⟨?_, by have := h.2; omega⟩
  have hne : l.drop k ≠ [] := by intro h'; have := congrArg List.length h'; rw [List.length_drop] at this; simp at this; omega
  have h0 := h.1
  rw [genL_step one (l.drop k) hne, hs, List.drop_drop] at h0
  rw [← h0]
  have e1 : (l.drop j).take (k + (decL (l.drop k)).2 - j) = (l.drop j).take (k - j) ++ (l.drop k).take (decL (l.drop k)).2 := by
    have : k + (decL (l.drop k)).2 - j = (k - j) + (decL (l.drop k)).2 := by omega
    rw [this, List.take_add, List.drop_drop]
    congr 3
    omega
  rw [e1]
  simp [List.append_assoc]
theorem gacct_put {one : Bytes → Bytes} {l acc x : Bytes} {j k d z : Nat} (hl : l.length = z) (hd : d = (decL (l.drop k)).2) (hk : k < z) (hj : j ≤ k)
    (h : GAcct one l acc j k) (ha : acc.length ≤ 8 * j) (hs : one (l.drop k) = x) (hx : x.length ≤ 8) :
    GAcct one l (acc ++ (l.drop j).take (k - j) ++ x) (k + d) (k + d) ∧ (acc ++ (l.drop j).take (k - j) ++ x).length ≤ 8 * (k + d) := by
  have h1 := decL_pos (l.drop k)
  have h2 : (acc ++ (l.drop j).take (k - j) ++ x).length ≤ 8 * (k + d) := by
    have h3 : ((l.drop j).take (k - j)).length ≤ k - j := List.length_take_le _ _
    simp only [List.length_append]; omega
  refine ⟨⟨?_, h2⟩, h2⟩
  subst hd
  have hne : l.drop k ≠ [] := by intro h'; have := congrArg List.length h'; rw [List.length_drop] at this; simp at this; omega
  have h0 := h.1
  rw [genL_step one (l.drop k) hne, hs, List.drop_drop] at h0
  rw [← h0]
  simp [List.append_assoc]

/-! ### CSS -/
def isHexB (c : Nat) : Bool := decide (digitV c < 16)
def isBlankB (c : Nat) : Bool := c == 32 || c == 9 || c == 10 || c == 12 || c == 13
def cssTab (r : Nat) : Bytes :=
  if r = 0 then [92, 48] else if r = 9 then [92, 57] else if r = 10 then [92, 97] else if r = 12 then [92, 99] else if r = 13 then [92, 100]
  else if r = 34 then [92, 50, 50] else if r = 38 then [92, 50, 54] else if r = 39 then [92, 50, 55] else if r = 40 then [92, 50, 56] else if r = 41 then [92, 50, 57]
  else if r = 43 then [92, 50, 98] else if r = 47 then [92, 50, 102] else if r = 58 then [92, 51, 97] else if r = 59 then [92, 51, 98] else if r = 60 then [92, 51, 99]
  else if r = 62 then [92, 51, 101] else if r = 92 then [92, 92] else if r = 123 then [92, 55, 98] else if r = 125 then [92, 55, 100] else []
def cssBlank (x t : Bytes) : Bool := x != [92, 92] && (t.isEmpty || isHexB (at0 t 0) || isBlankB (at0 t 0))
def cssOne (l : Bytes) : Bytes :=
  if cssTab (decL l).1 = [] then l.take (decL l).2
  else cssTab (decL l).1 ++ (if cssBlank (cssTab (decL l).1) (l.drop (decL l).2) = true then [32] else [])
def cssL (l : Bytes) : Bytes := genL cssOne l

/-- The digits behind a backslash: the number and how many. -/
def hexRun : Nat → Bytes → Nat → Nat → Nat × Nat
  | 0, _, v, n => (v, n)
  | _ + 1, [], v, n => (v, n)
  | f + 1, b :: t, v, n => if digitV b.toNat < 16 then hexRun f t (v * 16 + digitV b.toNat) (n + 1) else (v, n)
def blankEnd (s : Bytes) (n : Nat) : Nat :=
  if n < s.length ∧ isBlankB (at0 s n) = true then (if at0 s n = 13 ∧ n + 1 < s.length ∧ at0 s (n + 1) = 10 then n + 2 else n + 1) else n
def cssChar (v : Nat) : Nat := if 0xd800 ≤ v ∧ v ≤ 0xdfff then 0xfffd else v
def cssEscL (s : Bytes) : Bytes × Nat × Bool :=
  if s = [] ∨ at0 s 0 = 10 ∨ at0 s 0 = 13 ∨ at0 s 0 = 12 then ([], 0, false)
  else if (hexRun 6 s 0 0).2 = 0 then (s.take (sizeL s), sizeL s, decide (0 < sizeL s))
  else if (hexRun 6 s 0 0).1 = 0 ∨ 0x10ffff < (hexRun 6 s 0 0).1 then ([], 0, false)
  else (codedL (cssChar (hexRun 6 s 0 0).1), blankEnd s (hexRun 6 s 0 0).2, true)
def styleGo : Nat → Bytes → Option Bytes
  | 0, _ => some []
  | _ + 1, [] => some []
  | f + 1, b :: t => if b.toNat ≠ 92 then (styleGo f t).map (b :: ·)
      else if (cssEscL t).2.2 = true then (styleGo f (t.drop (cssEscL t).2.1)).map ((cssEscL t).1 ++ ·) else none
def styleL (s : Bytes) : Option Bytes := styleGo s.length s

theorem styleGo_mono : ∀ (f g : Nat) (l : Bytes), l.length ≤ f → l.length ≤ g → styleGo f l = styleGo g l
  | 0, 0, l, _, _ => rfl
  | 0, g + 1, l, h, _ => by
    have : l = [] := List.eq_nil_of_length_eq_zero (by omega)
    subst this; rfl
  | f + 1, 0, l, _, h => by
    have : l = [] := List.eq_nil_of_length_eq_zero (by omega)
    subst this; rfl
  | f + 1, g + 1, [], _, _ => rfl
  | f + 1, g + 1, b :: t, h1, h2 => by
    simp only [List.length_cons] at h1 h2
    unfold styleGo
    rw [styleGo_mono f g t (by omega) (by omega), styleGo_mono f g (t.drop (cssEscL t).2.1) (by rw [List.length_drop]; omega) (by rw [List.length_drop]; omega)]
theorem styleL_nil : styleL [] = some [] := rfl
theorem styleL_byte (b : UInt8) (t : Bytes) (h : b.toNat ≠ 92) : styleL (b :: t) = (styleL t).map (b :: ·) := by
  show styleGo (t.length + 1) (b :: t) = _
  unfold styleGo
  rw [if_pos h]; rfl
theorem styleL_esc (b : UInt8) (t : Bytes) (h : b.toNat = 92) : styleL (b :: t) = if (cssEscL t).2.2 = true then (styleL (t.drop (cssEscL t).2.1)).map ((cssEscL t).1 ++ ·) else none := by
  show styleGo (t.length + 1) (b :: t) = _
  unfold styleGo
  rw [if_neg (by omega), styleGo_mono t.length (t.drop (cssEscL t).2.1).length _ (by rw [List.length_drop]; omega) (Nat.le_refl _)]; rfl
theorem styleL_plain : ∀ (x r : Bytes), (∀ b ∈ x, b.toNat ≠ 92) → styleL (x ++ r) = (styleL r).map (x ++ ·)
  | [], r, _ => by simp
  | b :: x, r, h => by
    show styleL (b :: (x ++ r)) = _
    rw [styleL_byte b _ (h b List.mem_cons_self), styleL_plain x r (fun y hy => h y (List.mem_cons_of_mem _ hy)), Option.map_map]; rfl

/-- What follows does not belong to an escape of digits. -/
def Off (r : Bytes) : Prop := r = [] ∨ (16 ≤ digitV (at0 r 0) ∧ isBlankB (at0 r 0) = false)
theorem hexRun_off (f : Nat) (r : Bytes) (v n : Nat) (h : Off r) : hexRun f r v n = (v, n) := by
  match f, r with
  | 0, _ => rfl
  | f + 1, [] => rfl
  | f + 1, b :: t =>
    rcases h with h | h
    · cases h
    · rw [at0_c0] at h
      unfold hexRun
      rw [if_neg (by omega)]
theorem hexRun_32 (f : Nat) (r : Bytes) (v n : Nat) : hexRun f (32 :: r) v n = (v, n) := by
  match f with
  | 0 => rfl
  | f + 1 => unfold hexRun; rw [if_neg (by decide)]
theorem blankEnd_off (x r : Bytes) (h : Off r) : blankEnd (x ++ r) x.length = x.length := by
  unfold blankEnd
  rw [if_neg]
  rintro ⟨h1, h2⟩
  have e : at0 (x ++ r) x.length = at0 r 0 := by
    unfold at0; simp [List.getD_eq_getElem?_getD, List.getElem?_append_right]
  rw [e] at h2
  rcases h with rfl | h
  · simp at h1
  · rw [h.2] at h2; cases h2
theorem blankEnd_32 (x r : Bytes) : blankEnd (x ++ 32 :: r) x.length = x.length + 1 := by
  unfold blankEnd
  have e : at0 (x ++ 32 :: r) x.length = 32 := by
    unfold at0; simp [List.getD_eq_getElem?_getD, List.getElem?_append_right]
  rw [e, if_pos ⟨by simp, by decide⟩, if_neg (by omega)]
/-- An escape of one or two digits, and what it stands for. -/
def hexPiece (hs : Bytes) (r : Nat) : Bool := (hs.length == 1 || hs.length == 2) && hs.all (fun b => isHexB b.toNat) && (hs.foldl (fun v b => v * 16 + digitV b.toNat) 0 == r) && r != 0 && decide (r < 128)
theorem cssEsc_piece (hs : Bytes) (r : Nat) (h : hexPiece hs r = true) (rest : Bytes) :
    (Off rest → cssEscL (hs ++ rest) = (codedL r, hs.length, true)) ∧ cssEscL (hs ++ 32 :: rest) = (codedL r, hs.length + 1, true) := by
  unfold hexPiece at h
  simp only [Bool.and_eq_true, Bool.or_eq_true, beq_iff_eq, bne_iff_ne, decide_eq_true_eq] at h
  obtain ⟨⟨⟨⟨h1, h2⟩, h3⟩, h4⟩, h5⟩ := h
  have hc : cssChar r = r := by unfold cssChar; rw [if_neg (by omega)]
  have key : ∀ x, (∀ v n, hexRun 5 x v n = (v, n)) → (∀ v n, hexRun 4 x v n = (v, n)) → hexRun 6 (hs ++ x) 0 0 = (r, hs.length) := by
    intro x hx5 hx4
    rcases h1 with h1 | h1
    · match hs, h1 with
      | [a], _ =>
        simp only [List.all_cons, List.all_nil, Bool.and_true, isHexB, decide_eq_true_eq] at h2
        simp only [List.foldl_cons, List.foldl_nil] at h3
        show hexRun 6 (a :: x) 0 0 = _
        unfold hexRun
        rw [if_pos h2, hx5, h3]; rfl
    · match hs, h1 with
      | [a, b], _ =>
        simp only [List.all_cons, List.all_nil, Bool.and_true, isHexB, decide_eq_true_eq, Bool.and_eq_true] at h2
        simp only [List.foldl_cons, List.foldl_nil] at h3
        show hexRun 6 (a :: b :: x) 0 0 = _
        unfold hexRun
        rw [if_pos h2.1]
        unfold hexRun
        rw [if_pos h2.2, hx4, h3]; rfl
  have hne : ∀ x, ¬ (hs ++ x = [] ∨ at0 (hs ++ x) 0 = 10 ∨ at0 (hs ++ x) 0 = 13 ∨ at0 (hs ++ x) 0 = 12) := by
    intro x hh
    have hl : 0 < hs.length := by omega
    rw [at0_app hs x 0 hl] at hh
    obtain ⟨b, hb, e⟩ := at0_mem hs 0 hl
    rw [List.all_eq_true] at h2
    have h6 := h2 b hb
    unfold isHexB at h6
    rw [decide_eq_true_eq, e] at h6
    rcases hh with hh | hh | hh | hh
    · have := congrArg List.length hh
      rw [List.length_append] at this
      simp only [List.length_nil] at this
      omega
    · rw [hh] at h6; revert h6; decide
    · rw [hh] at h6; revert h6; decide
    · rw [hh] at h6; revert h6; decide
  constructor
  · intro ho
    unfold cssEscL
    rw [if_neg (hne rest), key rest (fun v n => hexRun_off 5 rest v n ho) (fun v n => hexRun_off 4 rest v n ho)]
    show (if hs.length = 0 then _ else if r = 0 ∨ 0x10ffff < r then _ else (codedL (cssChar r), blankEnd (hs ++ rest) hs.length, true)) = _
    rw [if_neg (by omega), if_neg (by omega), hc, blankEnd_off hs rest ho]
  · unfold cssEscL
    rw [if_neg (hne _), key (32 :: rest) (fun v n => hexRun_32 5 rest v n) (fun v n => hexRun_32 4 rest v n)]
    show (if hs.length = 0 then _ else if r = 0 ∨ 0x10ffff < r then _ else (codedL (cssChar r), blankEnd (hs ++ 32 :: rest) hs.length, true)) = _
    rw [if_neg (by omega), if_neg (by omega), hc, blankEnd_32 hs rest]

def cssBytes (b : Nat) : Bool := b != 0 && b != 10 && b != 12 && b != 13 && b != 34 && b != 39 && b != 60 && b != 62 && b != 38 && b != 40 && b != 41 && b != 123 && b != 125
theorem cssTab_high (r : Nat) (h : 128 ≤ r) : cssTab r = [] := by
  unfold cssTab
  repeat' (rw [if_neg (by omega)])
def cssTabOk (r : Nat) : Bool := r == 0 || cssTab r == [] || (at0 (cssTab r) 0 == 92 && (cssTab r).all (fun b => cssBytes b.toNat && decide (b.toNat < 128)) && ((r == 92 && cssTab r == [92, 92]) || (cssTab r != [92, 92] && hexPiece ((cssTab r).drop 1) r)))
theorem cssTabOk_all : ∀ r, r < 128 → cssTabOk r = true := by decide +kernel
theorem cssTab_ok (r : Nat) (hr : r < 128) (h0 : r ≠ 0) (hT : cssTab r ≠ []) : at0 (cssTab r) 0 = 92 ∧ (cssTab r).all (fun b => cssBytes b.toNat && decide (b.toNat < 128)) = true ∧ ((r = 92 ∧ cssTab r = [92, 92]) ∨ (cssTab r ≠ [92, 92] ∧ hexPiece ((cssTab r).drop 1) r = true)) := by
  have h := cssTabOk_all r hr
  unfold cssTabOk at h
  rw [Bool.or_eq_true, Bool.or_eq_true, Bool.and_eq_true, Bool.and_eq_true, Bool.or_eq_true, Bool.and_eq_true, Bool.and_eq_true] at h
  simp only [beq_iff_eq, bne_iff_ne] at h
  rcases h with (h | h) | ⟨⟨h1, h2⟩, h3⟩
  · exact absurd h h0
  · exact absurd h hT
  · exact ⟨h1, h2, h3⟩
theorem cssTab_keep : ∀ r, r < 128 → cssTab r = [] → r ≠ 92 ∧ cssBytes r = true := by decide +kernel
theorem cssTab_le (r : Nat) : (cssTab r).length ≤ 3 := by
  rcases Nat.lt_or_ge r 128 with h | h
  · have : ∀ r, r < 128 → (cssTab r).length ≤ 3 := by decide +kernel
    exact this r h
  · rw [cssTab_high r h]; decide
theorem cssOne_first (l : Bytes) (hne : l ≠ []) (h : 16 ≤ digitV (at0 l 0) ∧ isBlankB (at0 l 0) = false) (r : Bytes) : Off (cssOne l ++ r) := by
  right
  unfold cssOne
  by_cases hT : cssTab (decL l).1 = []
  · rw [if_pos hT]
    have h1 := decL_pos l
    have h2 := decL_le l hne
    rw [at0_app _ _ _ (by rw [List.length_take]; omega), at0_take _ _ _ (by omega)]
    exact h
  · rw [if_neg hT]
    have hr : (decL l).1 < 128 := by
      rcases Nat.lt_or_ge (decL l).1 128 with h3 | h3
      · exact h3
      · exact absurd (cssTab_high _ h3) hT
    have h0 : at0 (cssTab (decL l).1) 0 = 92 := by
      have : ∀ r, r < 128 → cssTab r ≠ [] → at0 (cssTab r) 0 = 92 := by decide +kernel
      exact this _ hr hT
    have hl : 0 < (cssTab (decL l).1).length := by
      cases he : cssTab (decL l).1
      · exact absurd he hT
      · simp
    rw [List.append_assoc, at0_app _ _ _ hl, h0]
    decide

/-- THE LAW OF STRINGS OF CSS. -/
theorem css_reads (l : Bytes) (hv : validL l = true) (h0 : hasB l 0 = false) :
    styleL (cssL l) = some l ∧ validL (cssL l) = true ∧ (cssL l).all (fun b => cssBytes b.toNat) = true := by
  unfold cssL
  refine valid_ind (P := fun l => hasB l 0 = false → styleL (genL cssOne l) = some l ∧ validL (genL cssOne l) = true ∧ (genL cssOne l).all (fun b => cssBytes b.toNat) = true) ?_ ?_ l hv h0
  · intro _; exact ⟨rfl, rfl, rfl⟩
  · intro l hne hs hvd ih hz
    have hz1 : hasB (l.take (sizeL l)) 0 = false ∧ hasB (l.drop (sizeL l)) 0 = false := by
      rw [← List.take_append_drop (sizeL l) l, hasB_app, Bool.or_eq_false_iff] at hz
      exact hz
    obtain ⟨i1, i2, i3⟩ := ih hz1.2
    have hfirst : ∀ t, t = l.drop (sizeL l) → t ≠ [] → 16 ≤ digitV (at0 t 0) → isBlankB (at0 t 0) = false → Off (genL cssOne t) := by
      intro t _ htne h1 h2
      rw [genL_step cssOne t htne]
      exact cssOne_first t htne ⟨h1, h2⟩ _
    rw [genL_step cssOne l hne, size_dec l hs]
    have hsplit : l = l.take (sizeL l) ++ l.drop (sizeL l) := (List.take_append_drop _ _).symm
    have hF := hfirst _ rfl
    generalize hrest : genL cssOne (l.drop (sizeL l)) = rest at i1 i2 i3 hF ⊢
    obtain ⟨hc, hlen⟩ := isChar_take l hne hs
    unfold cssOne
    rw [size_dec l hs]
    by_cases hT : cssTab (decL l).1 = []
    · rw [if_pos hT]
      have hb : ∀ b ∈ l.take (sizeL l), b.toNat ≠ 92 ∧ cssBytes b.toNat = true := by
        intro b hb
        rcases hc.bytes with ⟨x, hx, hx1⟩ | hall
        · rw [hx] at hb
          have hbx : b = x := by simpa using hb
          have h3 : at0 l 0 = x.toNat := by
            rw [← at0_take l (sizeL l) 0 (by omega), hx, at0_c0]
          have h4 : (decL l).1 = x.toNat := by
            unfold decL Go.Lib.decodeN
            rw [if_pos (by omega)]; exact h3
          rw [h4] at hT
          rw [hbx]
          exact cssTab_keep _ hx1 hT
        · have := hall b hb
          refine ⟨by omega, ?_⟩
          unfold cssBytes; simp; omega
      refine ⟨?_, by rw [validL_char _ _ hc]; exact i2, ?_⟩
      · rw [styleL_plain _ _ (fun b h => (hb b h).1), i1, Option.map_some]
        rw [← hsplit]
      · rw [List.all_append, i3, Bool.and_true, List.all_eq_true]
        exact fun b h => (hb b h).2
    · rw [if_neg hT]
      have hr : (decL l).1 < 128 := by
        rcases Nat.lt_or_ge (decL l).1 128 with h3 | h3
        · exact h3
        · exact absurd (cssTab_high _ h3) hT
      obtain ⟨e1, e2⟩ := dec_ascii l hr
      rw [size_dec l hs] at e2
      have hone : l.take (sizeL l) = [UInt8.ofNat (decL l).1] := by
        rw [e2, ← e1]
        match l, hne with
        | b :: t, _ => simp [at0]
      have hr0 : (decL l).1 ≠ 0 := by
        intro h
        rw [hone, h] at hz1
        exact absurd hz1.1 (by decide)
      obtain ⟨p1, p2, p3⟩ := cssTab_ok _ hr hr0 hT
      have hcod : codedL (decL l).1 = l.take (sizeL l) := coded_dec l hne hs
      have hall : ∀ y : Bytes, (y = [] ∨ y = [32]) → validL (cssTab (decL l).1 ++ y ++ rest) = true ∧ (cssTab (decL l).1 ++ y ++ rest).all (fun b => cssBytes b.toNat) = true := by
        intro y hy
        have hy2 : y.all (fun b => cssBytes b.toNat && decide (b.toNat < 128)) = true := by rcases hy with rfl | rfl <;> decide
        have h3 : (cssTab (decL l).1 ++ y).all (fun b => cssBytes b.toNat && decide (b.toNat < 128)) = true := by rw [List.all_append, p2, hy2]; rfl
        rw [List.all_eq_true] at h3
        refine ⟨?_, ?_⟩
        · rw [validL_ascii _ _ (fun b hb => ?_)]
          · exact i2
          · have := h3 b hb
            rw [Bool.and_eq_true, decide_eq_true_eq] at this
            exact this.2
        · rw [List.all_append, i3, Bool.and_true, List.all_eq_true]
          intro b hb
          have := h3 b hb
          rw [Bool.and_eq_true] at this
          exact this.1
      rcases p3 with ⟨hr92, h92⟩ | ⟨hn92, hpc⟩
      · have hcb : cssBlank (cssTab (decL l).1) (l.drop (sizeL l)) = false := by unfold cssBlank; rw [h92]; rfl
        rw [hcb, if_neg (by decide)]
        refine ⟨?_, hall [] (.inl rfl)⟩
        rw [h92]
        show styleL (92 :: 92 :: ([] ++ rest)) = _
        rw [List.nil_append]
        have hz2 : sizeL (92 :: rest) = 1 := sizeL_1 _ (by rw [at0_c0]; decide)
        have he : cssEscL (92 :: rest) = ([92], 1, true) := by
          unfold cssEscL
          rw [if_neg (by rw [at0_c0]; simp)]
          have : hexRun 6 (92 :: rest) 0 0 = (0, 0) := by unfold hexRun; rw [if_neg (by decide)]
          rw [this, if_pos rfl, hz2]; rfl
        rw [styleL_esc 92 _ rfl, he]
        simp only [if_true]
        rw [List.drop_one, List.tail_cons, i1, Option.map_some]
        conv => rhs; rw [hsplit, hone, hr92]
        rfl
      · obtain ⟨hs', hcons⟩ : ∃ hs', cssTab (decL l).1 = 92 :: hs' := by
          cases hx : cssTab (decL l).1 with
          | nil => exact absurd hx hT
          | cons a m =>
            rw [hx, at0_c0] at p1
            exact ⟨m, by rw [UInt8.toNat_inj.1 (show a.toNat = (92 : UInt8).toNat from p1)]⟩
        rw [hcons] at hpc
        simp only [List.drop_succ_cons, List.drop_zero] at hpc
        obtain ⟨c1, c2⟩ := cssEsc_piece hs' _ hpc rest
        by_cases hcb : cssBlank (cssTab (decL l).1) (l.drop (sizeL l)) = true
        · rw [if_pos hcb]
          refine ⟨?_, hall [32] (.inr rfl)⟩
          rw [hcons]
          show styleL (92 :: (hs' ++ [32] ++ rest)) = _
          rw [List.append_assoc, styleL_esc 92 _ rfl]
          show (if (cssEscL (hs' ++ 32 :: rest)).2.2 = true then (styleL ((hs' ++ 32 :: rest).drop (cssEscL (hs' ++ 32 :: rest)).2.1)).map ((cssEscL (hs' ++ 32 :: rest)).1 ++ ·) else none) = _
          rw [c2]
          simp only [if_true]
          have hd : (hs' ++ 32 :: rest).drop (hs'.length + 1) = rest := by
            rw [List.drop_append, List.drop_of_length_le (by omega)]; simp
          rw [hd, i1, Option.map_some, hcod, ← hsplit]
        · rw [if_neg hcb]
          refine ⟨?_, hall [] (.inl rfl)⟩
          have hoff : Off rest := by
            have hcb' : cssBlank (cssTab (decL l).1) (l.drop (sizeL l)) = false := by simpa using hcb
            unfold cssBlank at hcb'
            rw [show (cssTab (decL l).1 != [92, 92]) = true by simpa using hn92, Bool.true_and, Bool.or_eq_false_iff, Bool.or_eq_false_iff] at hcb'
            obtain ⟨⟨b1, b2⟩, b3⟩ := hcb'
            refine hF ?_ ?_ b3
            · rw [List.isEmpty_eq_false_iff] at b1; exact b1
            · unfold isHexB at b2; rw [decide_eq_false_iff_not] at b2; omega
          rw [hcons]
          show styleL (92 :: (hs' ++ [] ++ rest)) = _
          rw [List.append_nil, styleL_esc 92 _ rfl, c1 hoff]
          simp only [if_true]
          rw [List.drop_left, i1, Option.map_some, hcod, ← hsplit]
end Go.Proofs.YtigobehhmodoiaaDoor
