/- Plain laws: values in URLs. -/
import Derived.Test.YtolamblmfejhoaaDoorPlainH
namespace Go.Proofs.YtolamblmfejhoaaDoor
set_option linter.unusedVariables false
set_option linter.unusedSimpArgs false

def hexB (c : Nat) : Bool := decide (digitV c < 16)
def unresB (c : Nat) : Bool := isAlnumB c || c == 45 || c == 46 || c == 95 || c == 126
def resSet : Bytes := [58, 47, 63, 35, 91, 93, 64, 33, 36, 38, 39, 40, 41, 42, 43, 44, 59, 61]
def plainB (c : Nat) : Bool := unresB c || hasB resSet c
/-- Two hexadecimal digits stand at the beginning. -/
def encB (t : Bytes) : Bool := decide (2 ≤ t.length) && hexB (at0 t 0) && hexB (at0 t 1)
def hexV2 (t : Bytes) : Nat := digitV (at0 t 0) * 16 + digitV (at0 t 1)
def percentGo : Nat → Bytes → Bytes
  | 0, _ => []
  | _ + 1, [] => []
  | f + 1, c :: t => if c.toNat = 37 ∧ encB t = true then UInt8.ofNat (hexV2 t) :: percentGo f (t.drop 2) else c :: percentGo f t
def percentL (s : Bytes) : Bytes := percentGo s.length s
def okGo (P : Nat → Bool) : Nat → Bytes → Bool
  | 0, _ => true
  | _ + 1, [] => true
  | f + 1, c :: t => if c.toNat = 37 then encB t && okGo P f (t.drop 2) else P c.toNat && okGo P f t
def okL (P : Nat → Bool) (s : Bytes) : Bool := okGo P s.length s
def normSet : Bytes := [33, 35, 36, 38, 42, 43, 44, 47, 58, 59, 61, 63, 64, 91, 93]
def urlKeep (norm : Bool) (c : Nat) (t : Bytes) : Bool := (norm && hasB normSet c) || c == 45 || c == 46 || c == 95 || c == 126 || (norm && c == 37 && encB t) || isAlnumB c
def pct (c : Nat) : Bytes := [37, lowHex (c / 16), lowHex (c % 16)]
def urlOne (norm : Bool) (c : UInt8) (t : Bytes) : Bytes := if urlKeep norm c.toNat t = true then [c] else pct c.toNat
def urlL (norm : Bool) : Bytes → Bytes
  | [] => []
  | c :: t => urlOne norm c t ++ urlL norm t

theorem percentGo_mono : ∀ (f g : Nat) (l : Bytes), l.length ≤ f → l.length ≤ g → percentGo f l = percentGo g l
  | 0, 0, l, _, _ => rfl
  | 0, g + 1, l, h, _ => by
    have : l = [] := List.eq_nil_of_length_eq_zero (by omega)
    subst this; rfl
  | f + 1, 0, l, _, h => by
    have : l = [] := List.eq_nil_of_length_eq_zero (by omega)
    subst this; rfl
  | f + 1, g + 1, [], _, _ => rfl
  | f + 1, g + 1, c :: t, h1, h2 => by
    simp only [List.length_cons] at h1 h2
    unfold percentGo
    rw [percentGo_mono f g t (by omega) (by omega), percentGo_mono f g (t.drop 2) (by rw [List.length_drop]; omega) (by rw [List.length_drop]; omega)]
theorem percentL_nil : percentL [] = [] := rfl
theorem percentL_step (c : UInt8) (t : Bytes) : percentL (c :: t) = if c.toNat = 37 ∧ encB t = true then UInt8.ofNat (hexV2 t) :: percentL (t.drop 2) else c :: percentL t := by
  show percentGo (t.length + 1) (c :: t) = _
  unfold percentGo
  rw [percentGo_mono t.length (t.drop 2).length _ (by rw [List.length_drop]; omega) (Nat.le_refl _)]; rfl
theorem okGo_mono (P : Nat → Bool) : ∀ (f g : Nat) (l : Bytes), l.length ≤ f → l.length ≤ g → okGo P f l = okGo P g l
  | 0, 0, l, _, _ => rfl
  | 0, g + 1, l, h, _ => by
    have : l = [] := List.eq_nil_of_length_eq_zero (by omega)
    subst this; rfl
  | f + 1, 0, l, _, h => by
    have : l = [] := List.eq_nil_of_length_eq_zero (by omega)
    subst this; rfl
  | f + 1, g + 1, [], _, _ => rfl
  | f + 1, g + 1, c :: t, h1, h2 => by
    simp only [List.length_cons] at h1 h2
    unfold okGo
    rw [okGo_mono P f g t (by omega) (by omega), okGo_mono P f g (t.drop 2) (by rw [List.length_drop]; omega) (by rw [List.length_drop]; omega)]
theorem okL_nil (P : Nat → Bool) : okL P [] = true := rfl
theorem okL_step (P : Nat → Bool) (c : UInt8) (t : Bytes) : okL P (c :: t) = if c.toNat = 37 then encB t && okL P (t.drop 2) else P c.toNat && okL P t := by
  show okGo P (t.length + 1) (c :: t) = _
  unfold okGo
  rw [okGo_mono P t.length (t.drop 2).length _ (by rw [List.length_drop]; omega) (Nat.le_refl _)]; rfl

theorem lowHex_hex (d : Nat) (h : d < 16) : digitV (lowHex d).toNat = d ∧ isAlnumB (lowHex d).toNat = true := by
  have : ∀ d, d < 16 → digitV (lowHex d).toNat = d ∧ isAlnumB (lowHex d).toNat = true := by decide
  exact this d h
theorem hexB_alnum (c : Nat) (hc : c < 256) (h : hexB c = true) : isAlnumB c = true := by
  have : ∀ c, c < 256 → hexB c = true → isAlnumB c = true := by decide +kernel
  exact this c hc h
theorem enc_pct (c : Nat) (hc : c < 256) (r : Bytes) : encB (lowHex (c / 16) :: lowHex (c % 16) :: r) = true ∧ hexV2 (lowHex (c / 16) :: lowHex (c % 16) :: r) = c := by
  have h1 := (lowHex_hex (c / 16) (by omega)).1
  have h2 := (lowHex_hex (c % 16) (by omega)).1
  have e0 : at0 (lowHex (c / 16) :: lowHex (c % 16) :: r) 0 = (lowHex (c / 16)).toNat := by simp [at0]
  have e1 : at0 (lowHex (c / 16) :: lowHex (c % 16) :: r) 1 = (lowHex (c % 16)).toNat := by simp [at0]
  constructor
  · unfold encB hexB
    rw [e0, e1, h1, h2]
    simp; omega
  · unfold hexV2
    rw [e0, e1, h1, h2]; omega
theorem percentL_pct (c : UInt8) (r : Bytes) : percentL (pct c.toNat ++ r) = c :: percentL r := by
  show percentL (37 :: (lowHex (c.toNat / 16) :: lowHex (c.toNat % 16) :: r)) = _
  obtain ⟨h1, h2⟩ := enc_pct c.toNat c.toNat_lt r
  rw [percentL_step, if_pos ⟨by decide, h1⟩, h2]
  simp
theorem okL_pct (P : Nat → Bool) (c : UInt8) (r : Bytes) : okL P (pct c.toNat ++ r) = okL P r := by
  show okL P (37 :: (lowHex (c.toNat / 16) :: lowHex (c.toNat % 16) :: r)) = _
  obtain ⟨h1, h2⟩ := enc_pct c.toNat c.toNat_lt r
  rw [okL_step, if_pos (by decide), h1]; simp
theorem keep_alnum (norm : Bool) (c : Nat) (t : Bytes) (h : isAlnumB c = true) : urlKeep norm c t = true := by unfold urlKeep; rw [h, Bool.or_true]
theorem keep_free (norm : Bool) (c : Nat) (t u : Bytes) (h : c ≠ 37) : urlKeep norm c t = urlKeep norm c u := by
  have : (c == 37) = false := by simpa using h
  unfold urlKeep; rw [this]; simp
/-- The two digits behind an encoded byte are letters and digits. -/
theorem enc_two (t : Bytes) (h : encB t = true) : ∃ a b r, t = a :: b :: r ∧ isAlnumB a.toNat = true ∧ isAlnumB b.toNat = true ∧ ∀ u, encB (a :: b :: u) = true ∧ hexV2 (a :: b :: u) = hexV2 t := by
  unfold encB at h
  simp only [Bool.and_eq_true, decide_eq_true_eq] at h
  obtain ⟨⟨h1, h2⟩, h3⟩ := h
  match t, h1 with
  | a :: b :: r, _ =>
    have e0 : ∀ u, at0 (a :: b :: u) 0 = a.toNat := fun u => by simp [at0]
    have e1 : ∀ u, at0 (a :: b :: u) 1 = b.toNat := fun u => by simp [at0]
    rw [e0] at h2
    rw [e1] at h3
    refine ⟨a, b, r, rfl, hexB_alnum _ a.toNat_lt h2, hexB_alnum _ b.toNat_lt h3, fun u => ⟨?_, ?_⟩⟩
    · unfold encB; rw [e0, e1, h2, h3]; simp
    · unfold hexV2; rw [e0, e1, e0, e1]

theorem query_ok : ∀ s, okL unresB (urlL false s) = true
  | [] => rfl
  | c :: t => by
    show okL unresB (urlOne false c t ++ urlL false t) = true
    unfold urlOne
    by_cases h : urlKeep false c.toNat t = true
    · rw [if_pos h]
      have h37 : c.toNat ≠ 37 := by
        intro h'; rw [h'] at h; unfold urlKeep at h; revert h; simp; decide
      have hu : unresB c.toNat = true := by
        unfold urlKeep at h
        unfold unresB
        simp only [Bool.false_and, Bool.or_false, Bool.false_or] at h
        revert h
        cases isAlnumB c.toNat <;> simp
      show okL unresB (c :: urlL false t) = true
      rw [okL_step, if_neg h37, hu, query_ok t]; rfl
    · rw [if_neg h, okL_pct, query_ok t]
theorem query_back : ∀ s, percentL (urlL false s) = s
  | [] => rfl
  | c :: t => by
    show percentL (urlOne false c t ++ urlL false t) = _
    unfold urlOne
    by_cases h : urlKeep false c.toNat t = true
    · rw [if_pos h]
      have h37 : c.toNat ≠ 37 := by
        intro h'; rw [h'] at h; unfold urlKeep at h; revert h; simp; decide
      show percentL (c :: urlL false t) = _
      rw [percentL_step, if_neg (fun h' => h37 h'.1), query_back t]
    · rw [if_neg h, percentL_pct, query_back t]
theorem query_app : ∀ s t, urlL false (s ++ t) = urlL false s ++ urlL false t
  | [], t => rfl
  | c :: s, t => by
    show urlOne false c (s ++ t) ++ urlL false (s ++ t) = (urlOne false c s ++ urlL false s) ++ urlL false t
    rw [query_app s t, List.append_assoc]
    have : urlKeep false c.toNat (s ++ t) = urlKeep false c.toNat s := by unfold urlKeep; simp
    unfold urlOne
    rw [this]

def noBad (b : Nat) : Bool := b != 39 && b != 40 && b != 41 && b != 34 && b != 60 && b != 62
theorem alnum_plain (c : Nat) (h : isAlnumB c = true) : plainB c = true ∧ noBad c = true ∧ c ≠ 37 := by
  have hr : c < 256 ∨ 256 ≤ c := by omega
  rcases hr with hr | hr
  · have : ∀ c, c < 256 → isAlnumB c = true → plainB c = true ∧ noBad c = true ∧ c ≠ 37 := by decide +kernel
    exact this c hr h
  · unfold isAlnumB isAlphaB at h; simp at h; omega
theorem keep_plain (c : Nat) (hc : c < 256) (t : Bytes) (h37 : c ≠ 37) (h : urlKeep true c t = true) : plainB c = true ∧ noBad c = true := by
  rw [keep_free true c t [] h37] at h
  have : ∀ c, c < 256 → urlKeep true c [] = true → plainB c = true ∧ noBad c = true := by decide +kernel
  exact this c hc h
theorem url_cases (c : UInt8) (t : Bytes) :
    (urlKeep true c.toNat t = false ∧ ¬ (c.toNat = 37 ∧ encB t = true) ∧ urlL true (c :: t) = pct c.toNat ++ urlL true t) ∨
    (c.toNat ≠ 37 ∧ urlKeep true c.toNat t = true ∧ urlL true (c :: t) = c :: urlL true t) ∨
    (c = 37 ∧ ∃ a b r, t = a :: b :: r ∧ isAlnumB a.toNat = true ∧ isAlnumB b.toNat = true ∧ (∀ u, encB (a :: b :: u) = true ∧ hexV2 (a :: b :: u) = hexV2 t) ∧ urlL true (c :: t) = c :: a :: b :: urlL true r) := by
  by_cases h : urlKeep true c.toNat t = true
  · have e : urlL true (c :: t) = c :: urlL true t := by
      show urlOne true c t ++ urlL true t = _
      unfold urlOne; rw [if_pos h]; rfl
    by_cases h37 : c.toNat = 37
    · right; right
      have hc : c = 37 := UInt8.toNat_inj.1 h37
      have he : encB t = true := by
        rw [h37] at h; unfold urlKeep at h; revert h
        cases encB t
        · decide
        · intro _; rfl
      obtain ⟨a, b, r, rfl, ha, hb, hu⟩ := enc_two t he
      refine ⟨hc, a, b, r, rfl, ha, hb, hu, ?_⟩
      rw [e]
      show c :: (urlOne true a (b :: r) ++ (urlOne true b r ++ urlL true r)) = _
      unfold urlOne
      rw [keep_alnum true _ _ ha, keep_alnum true _ _ hb]; rfl
    · exact .inr (.inl ⟨h37, h, e⟩)
  · left
    refine ⟨by simpa using h, ?_, ?_⟩
    · rintro ⟨h1, h2⟩
      apply h
      unfold urlKeep
      rw [h1, h2]; decide
    · show urlOne true c t ++ urlL true t = _
      unfold urlOne; rw [if_neg h]
theorem norm_law (s : Bytes) : okL plainB (urlL true s) = true ∧ (urlL true s).all (fun b => noBad b.toNat) = true ∧ percentL (urlL true s) = percentL s ∧ urlL true (urlL true s) = urlL true s := by
  generalize hn : s.length = n
  induction n using Nat.strongRecOn generalizing s with
  | _ n ih =>
    match s with
    | [] => exact ⟨rfl, rfl, rfl, rfl⟩
    | c :: t =>
      rw [List.length_cons] at hn
      rcases url_cases c t with ⟨h1, h2, e⟩ | ⟨h1, h2, e⟩ | ⟨rfl, a, b, r, rfl, ha, hb, hu, e⟩
      · obtain ⟨i1, i2, i3, i4⟩ := ih t.length (by omega) t rfl
        rw [e]
        refine ⟨by rw [okL_pct]; exact i1, ?_, ?_, ?_⟩
        · rw [List.all_append, i2, Bool.and_true]
          have g := fun d (hd : d < 16) => (alnum_plain _ (lowHex_hex d hd).2).2.1
          have hc := c.toNat_lt
          simp only [pct, List.all_cons, List.all_nil, g _ (show c.toNat / 16 < 16 by omega), g _ (show c.toNat % 16 < 16 by omega)]
          decide
        · rw [percentL_pct, i3, percentL_step, if_neg h2]
        · rcases url_cases 37 (lowHex (c.toNat / 16) :: lowHex (c.toNat % 16) :: urlL true t) with ⟨k1, k2, k3⟩ | ⟨k1, _⟩ | ⟨_, a, b, r, k1, _, _, _, k3⟩
          · exact absurd ⟨by decide, (enc_pct c.toNat c.toNat_lt _).1⟩ k2
          · exact absurd rfl k1
          · simp only [List.cons.injEq] at k1
            obtain ⟨rfl, rfl, rfl⟩ := k1
            show urlL true (37 :: (lowHex (c.toNat / 16) :: lowHex (c.toNat % 16) :: urlL true t)) = _
            rw [k3, i4]; rfl
      · obtain ⟨i1, i2, i3, i4⟩ := ih t.length (by omega) t rfl
        obtain ⟨p1, p2⟩ := keep_plain c.toNat c.toNat_lt t h1 h2
        rw [e]
        refine ⟨?_, ?_, ?_, ?_⟩
        · rw [okL_step, if_neg h1, p1, i1]; rfl
        · rw [List.all_cons, i2, p2]; rfl
        · rw [percentL_step, if_neg (fun h => h1 h.1), percentL_step, if_neg (fun h => h1 h.1), i3]
        · show urlOne true c (urlL true t) ++ urlL true (urlL true t) = _
          unfold urlOne
          rw [keep_free true _ _ t h1, if_pos h2, i4]; rfl
      · simp only [List.length_cons] at hn
        obtain ⟨i1, i2, i3, i4⟩ := ih r.length (by omega) r rfl
        obtain ⟨_, a2, _⟩ := alnum_plain _ ha
        obtain ⟨_, b2, _⟩ := alnum_plain _ hb
        rw [e]
        refine ⟨?_, ?_, ?_, ?_⟩
        · rw [okL_step, if_pos (by decide), (hu _).1]
          simpa using i1
        · simp only [List.all_cons, i2, a2, b2]; decide
        · rw [percentL_step, if_pos ⟨by decide, (hu _).1⟩, percentL_step, if_pos ⟨by decide, (hu r).1⟩, (hu _).2]
          simp only [List.drop_succ_cons, List.drop_zero]
          rw [i3]
        · rcases url_cases 37 (a :: b :: urlL true r) with ⟨k1, k2, k3⟩ | ⟨k1, _⟩ | ⟨_, a', b', r', k1, _, _, _, k3⟩
          · exact absurd ⟨by decide, (hu _).1⟩ k2
          · exact absurd rfl k1
          · simp only [List.cons.injEq] at k1
            obtain ⟨rfl, rfl, rfl⟩ := k1
            rw [k3, i4]
theorem urlL_le (norm : Bool) : ∀ s, (urlL norm s).length ≤ 3 * s.length
  | [] => by simp [urlL]
  | c :: t => by
    have := urlL_le norm t
    show (urlOne norm c t ++ urlL norm t).length ≤ _
    rw [List.length_append, List.length_cons]
    unfold urlOne
    split
    · simp only [List.length_cons, List.length_nil]; omega
    · simp only [pct, List.length_cons, List.length_nil]; omega
end Go.Proofs.YtolamblmfejhoaaDoor
