/- Plain laws: values in literals of ECMAScript are read as the values. -/
import Derived.Test.YteheelcppgjeaaaDoorLawH
namespace Go.Proofs.YteheelcppgjeaaaDoor
set_option linter.unusedVariables false
set_option linter.unusedSimpArgs false

def lineEndL (s : Bytes) : Bool := at0 s 0 == 10 || at0 s 0 == 13 || (decide (2 < s.length) && at0 s 0 == 226 && at0 s 1 == 128 && (at0 s 2 == 168 || at0 s 2 == 169))
def singleV (c : Nat) : Nat := if c = 98 then 8 else if c = 116 then 9 else if c = 110 then 10 else if c = 118 then 11 else if c = 102 then 12 else if c = 114 then 13 else 0
def selfB (c : Nat) : Bool := decide (c < 128) && !isAlnumB c && c != 10 && c != 13
/-- What stands behind a backslash: the text that it stands for, and its length. -/
inductive Esc : Bytes → Bytes → Nat → Prop
  | u (a b c d : UInt8) (v : Nat) (r : Bytes) : digitV a.toNat < 16 → digitV b.toNat < 16 → digitV c.toNat < 16 → digitV d.toNat < 16 →
      v = ((digitV a.toNat * 16 + digitV b.toNat) * 16 + digitV c.toNat) * 16 + digitV d.toNat → ¬ (0xd800 ≤ v ∧ v ≤ 0xdfff) → Esc (117 :: a :: b :: c :: d :: r) (codedL v) 5
  | single (c : UInt8) (r : Bytes) : singleV c.toNat ≠ 0 → Esc (c :: r) (codedL (singleV c.toNat)) 1
  | self (c : UInt8) (r : Bytes) : selfB c.toNat = true → Esc (c :: r) (codedL c.toNat) 1
/-- A literal's text and its value. stop: where the literal ends, or is none; eok: what may stand behind a backslash. -/
inductive Reads (stop : Bytes → Bool) (eok : Nat → Bool) : Bytes → Bytes → Prop
  | nil : Reads stop eok [] []
  | byte (b : UInt8) (t o : Bytes) : stop (b :: t) = false → b.toNat ≠ 92 → Reads stop eok t o → Reads stop eok (b :: t) (b :: o)
  | esc (t x : Bytes) (n : Nat) (o : Bytes) : stop (92 :: t) = false → eok (at0 t 0) = true → Esc t x n → Reads stop eok (t.drop n) o → Reads stop eok (92 :: t) (x ++ o)
def stopStr (q : Nat) (s : Bytes) : Bool := at0 s 0 == q || lineEndL s
def stopTmpl (s : Bytes) : Bool := at0 s 0 == 96 || at0 s 0 == 13 || at0 s 0 == 36
def patSet : Bytes := [94, 36, 46, 42, 43, 63, 40, 41, 91, 93, 123, 125, 124, 47]
def stopPat (s : Bytes) : Bool := hasB patSet (at0 s 0) || lineEndL s
def eokAny (_ : Nat) : Bool := true
def escLetters : Bytes := [120, 117, 116, 110, 118, 102, 114, 48]
def eokPat (c : Nat) : Bool := !((isAlnumB c && !hasB escLetters c) || decide (128 ≤ c))

theorem Reads.chars {stop : Bytes → Bool} {eok : Nat → Bool} {rest o : Bytes} (hr : Reads stop eok rest o) : ∀ (c : Bytes), (∀ i, i < c.length → stop ((c ++ rest).drop i) = false ∧ at0 c i ≠ 92) → Reads stop eok (c ++ rest) (c ++ o)
  | [], _ => hr
  | b :: c, h => by
    have h0 := h 0 (by simp)
    refine .byte b (c ++ rest) (c ++ o) h0.1 (by have := h0.2; rwa [at0_c0] at this) (Reads.chars hr c fun i hi => ?_)
    have h1 := h (i + 1) (by simp; omega)
    exact ⟨h1.1, by have := h1.2; rwa [at0_cons_succ] at this⟩

/-- A character that is no line end has none in it, whatever follows. -/
theorem char_line (l rest : Bytes) (hne : l ≠ []) (hs : sizeL l ≠ 0) (h : (decL l).1 ≠ 10 ∧ (decL l).1 ≠ 13 ∧ (decL l).1 ≠ 8232 ∧ (decL l).1 ≠ 8233) :
    ∀ i, i < sizeL l → lineEndL ((l.take (sizeL l) ++ rest).drop i) = false := by
  intro i hi
  rcases char_cases l hne hs with ⟨x, t, rfl, h1, hd, hz⟩ | ⟨x, y, t, rfl, h1, h2, h3, hd, hz⟩ | ⟨x, y, z, t, rfl, h1, h2, h3, h4, h5, h6, hd, hz⟩ | ⟨x, y, z, u, t, rfl, h1, h2, h3, h4, h5, h6, h7, hd, hz⟩
  all_goals rw [hd] at h; rw [hz] at hi ⊢; simp only at h
  · obtain rfl : i = 0 := by omega
    show lineEndL (x :: rest) = false
    unfold lineEndL
    rw [at0_c0, Bool.eq_false_iff]; simp; omega
  · rcases (by omega : i = 0 ∨ i = 1) with rfl | rfl
    · show lineEndL (x :: y :: rest) = false
      unfold lineEndL
      rw [at0_c0, Bool.eq_false_iff]; simp; omega
    · show lineEndL (y :: rest) = false
      unfold lineEndL
      rw [at0_c0, Bool.eq_false_iff]; simp; omega
  · rcases (by omega : i = 0 ∨ i = 1 ∨ i = 2) with rfl | rfl | rfl
    · show lineEndL (x :: y :: z :: rest) = false
      unfold lineEndL
      rw [at0_c0, at0_c1, at0_c2, Bool.eq_false_iff]; simp; omega
    · show lineEndL (y :: z :: rest) = false
      unfold lineEndL
      rw [at0_c0, Bool.eq_false_iff]; simp; omega
    · show lineEndL (z :: rest) = false
      unfold lineEndL
      rw [at0_c0, Bool.eq_false_iff]; simp; omega
  · rcases (by omega : i = 0 ∨ i = 1 ∨ i = 2 ∨ i = 3) with rfl | rfl | rfl | rfl
    · show lineEndL (x :: y :: z :: u :: rest) = false
      unfold lineEndL
      rw [at0_c0, Bool.eq_false_iff]; simp; omega
    · show lineEndL (y :: z :: u :: rest) = false
      unfold lineEndL
      rw [at0_c0, Bool.eq_false_iff]; simp; omega
    · show lineEndL (z :: u :: rest) = false
      unfold lineEndL
      rw [at0_c0, Bool.eq_false_iff]; simp; omega
    · show lineEndL (u :: rest) = false
      unfold lineEndL
      rw [at0_c0, Bool.eq_false_iff]; simp; omega

/-! ### the pieces -/
def pieceU (r : Nat) (x : Bytes) : Bool := x == [92, 117] ++ hex4 r && decide (r < 55296)
def piece1 (r : Nat) (x : Bytes) : Bool := x.length == 2 && at0 x 0 == 92 && singleV (at0 x 1) == r && r != 0
def pieceS (r : Nat) (x : Bytes) : Bool := x == [92, UInt8.ofNat r] && selfB r
def isPiece (r : Nat) (x : Bytes) : Bool := pieceU r x || piece1 r x || pieceS r x
theorem esc_u (r : Nat) (h : r < 55296) (rest : Bytes) : Esc (117 :: (hex4 r ++ rest)) (codedL r) 5 := by
  have e := fun d (hd : d < 16) => lowHex_digit d hd
  show Esc (117 :: lowHex (r / 4096 % 16) :: lowHex (r / 256 % 16) :: lowHex (r / 16 % 16) :: lowHex (r % 16) :: rest) (codedL r) 5
  refine .u _ _ _ _ r rest ?_ ?_ ?_ ?_ ?_ (by omega)
  all_goals (repeat rw [e _ (by omega)]); omega
theorem piece_esc (r : Nat) (x : Bytes) (h : isPiece r x = true) : ∃ t, x = 92 :: t ∧ t ≠ [] ∧ ∀ rest, Esc (t ++ rest) (codedL r) t.length := by
  unfold isPiece at h
  rw [Bool.or_eq_true, Bool.or_eq_true] at h
  rcases h with (h | h) | h
  · unfold pieceU at h
    rw [Bool.and_eq_true, beq_iff_eq, decide_eq_true_eq] at h
    obtain ⟨rfl, h⟩ := h
    exact ⟨117 :: hex4 r, rfl, by simp, fun rest => esc_u r h rest⟩
  · unfold piece1 at h
    simp only [Bool.and_eq_true, beq_iff_eq, bne_iff_ne] at h
    obtain ⟨⟨⟨h1, h2⟩, h3⟩, h4⟩ := h
    match x, h1 with
    | [a, b], _ =>
      rw [at0_c0] at h2
      rw [at0_c1] at h3
      have ha : a = 92 := UInt8.toNat_inj.1 h2
      subst ha
      refine ⟨[b], rfl, by simp, fun rest => ?_⟩
      rw [← h3]
      exact .single b rest (by rw [h3]; exact h4)
  · unfold pieceS at h
    rw [Bool.and_eq_true, beq_iff_eq] at h
    obtain ⟨rfl, h⟩ := h
    refine ⟨[UInt8.ofNat r], rfl, by simp, fun rest => ?_⟩
    have hr : (UInt8.ofNat r).toNat = r := by
      have : r < 128 := by unfold selfB at h; simp at h; omega
      simp; omega
    have := Esc.self (UInt8.ofNat r) rest (by rw [hr]; exact h)
    rw [hr] at this
    exact this

/-- A table's work, with the characters that end a line. -/
def lowTab (r : Nat) : Bytes := if r = 9 then [92, 116] else if r = 10 then [92, 110] else if r = 12 then [92, 102] else if r = 13 then [92, 114] else [92, 117] ++ hex4 r
def jsRepl (T : Nat → Bytes) (r : Nat) : Bytes :=
  if r < 32 then lowTab r else if T r ≠ [] then T r else if r = 8232 then [92, 117, 50, 48, 50, 56] else if r = 8233 then [92, 117, 50, 48, 50, 57] else []
def jsN : Nat := 1114112
def jsL (T : Nat → Bytes) (l : Bytes) : Bytes := replL (jsRepl T) jsN true l

/-- What a table must have. F: the bytes that may occur. -/
structure Good (T : Nat → Bytes) (stop : Bytes → Bool) (eok F : Nat → Bool) : Prop where
  high : ∀ r, 128 ≤ r → T r = []
  low : ∀ r, r < 128 → jsRepl T r ≠ [] → isPiece r (jsRepl T r) = true ∧ eok (at0 (jsRepl T r) 1) = true ∧ (jsRepl T r).all (fun b => F b.toNat && decide (b.toNat < 128)) = true
  keep : ∀ r, r < 128 → jsRepl T r = [] → r ≠ 92 ∧ F r = true
  stopK : ∀ b t, jsRepl T b.toNat = [] → b.toNat < 128 → stop (b :: t) = false
  stopH : ∀ m, 128 ≤ at0 m 0 → lineEndL m = false → stop m = false
  stop92 : ∀ t, stop (92 :: t) = false
  more : ∀ b, 128 ≤ b → F b = true
  hexF : eok 117 = true ∧ F 92 = true ∧ F 117 = true ∧ ∀ d, 48 ≤ d → d ≤ 57 → F d = true

theorem Good.piece {T : Nat → Bytes} {stop : Bytes → Bool} {eok F : Nat → Bool} (g : Good T stop eok F) (r : Nat) (h : jsRepl T r ≠ []) :
    isPiece r (jsRepl T r) = true ∧ eok (at0 (jsRepl T r) 1) = true ∧ (jsRepl T r).all (fun b => F b.toNat && decide (b.toNat < 128)) = true := by
  by_cases hr : r < 128
  · exact g.low r hr h
  · have h1 : jsRepl T r = if r = 8232 then [92, 117, 50, 48, 50, 56] else if r = 8233 then [92, 117, 50, 48, 50, 57] else [] := by
      unfold jsRepl
      rw [if_neg (by omega), if_neg (by rw [g.high r (by omega)]; simp)]
    obtain ⟨e1, e2, e3, e4⟩ := g.hexF
    by_cases h2 : r = 8232
    · subst h2
      rw [h1, if_pos rfl]
      refine ⟨by decide, e1, ?_⟩
      simp [e2, e3, e4]
    · by_cases h3 : r = 8233
      · subst h3
        rw [h1, if_neg (by decide), if_pos rfl]
        refine ⟨by decide, e1, ?_⟩
        simp [e2, e3, e4]
      · rw [h1, if_neg h2, if_neg h3] at h
        exact absurd rfl h

/-- THE LAW OF LITERALS. -/
theorem Good.reads {T : Nat → Bytes} {stop : Bytes → Bool} {eok F : Nat → Bool} (g : Good T stop eok F) (l : Bytes) (hv : validL l = true) :
    Reads stop eok (jsL T l) l ∧ validL (jsL T l) = true ∧ (jsL T l).all (fun b => F b.toNat) = true := by
  unfold jsL
  refine valid_ind (P := fun l => Reads stop eok (replL (jsRepl T) jsN true l) l ∧ validL (replL (jsRepl T) jsN true l) = true ∧ (replL (jsRepl T) jsN true l).all (fun b => F b.toNat) = true) ?_ ?_ l hv
  · exact ⟨.nil, rfl, rfl⟩
  · intro l hne hs hvd ih
    obtain ⟨i1, i2, i3⟩ := ih
    have hlt : (decL l).1 < jsN := decL_lt l
    rw [replL_step _ _ _ l hne, size_dec l hs]
    have hsplit : l = l.take (sizeL l) ++ l.drop (sizeL l) := (List.take_append_drop _ _).symm
    unfold replOne
    rw [if_pos hlt, size_dec l hs]
    generalize hrest : replL (jsRepl T) jsN true (l.drop (sizeL l)) = rest at i1 i2 i3 ⊢
    by_cases hR : jsRepl T (decL l).1 = []
    · rw [if_pos hR]
      obtain ⟨hc, hlen⟩ := isChar_take l hne hs
      refine ⟨?_, by rw [validL_char _ _ hc]; exact i2, ?_⟩
      · conv => rhs; rw [hsplit]
        refine Reads.chars i1 _ fun i hi => ?_
        have hn : (decL l).1 ≠ 10 ∧ (decL l).1 ≠ 13 ∧ (decL l).1 ≠ 8232 ∧ (decL l).1 ≠ 8233 := by
          refine ⟨?_, ?_, ?_, ?_⟩ <;> (intro h; rw [h] at hR; unfold jsRepl at hR)
          · rw [if_pos (by decide)] at hR; revert hR; decide
          · rw [if_pos (by decide)] at hR; revert hR; decide
          · rw [if_neg (by decide), g.high _ (by decide), if_neg (by simp), if_pos rfl] at hR; cases hR
          · rw [if_neg (by decide), g.high _ (by decide), if_neg (by simp), if_neg (by decide), if_pos rfl] at hR; cases hR
        rw [hlen] at hi
        have hle := char_line l rest hne hs hn i hi
        rcases hc.bytes with ⟨x, hx, hx1⟩ | hall
        · have hz : sizeL l = 1 := by rw [← hlen, hx]; rfl
          rw [hx] at hle ⊢
          obtain rfl : i = 0 := by omega
          have h3 : at0 l 0 = x.toNat := by
            rw [← at0_take l (sizeL l) 0 (by omega), hx, at0_c0]
          have h4 : (decL l).1 = x.toNat := by
            unfold decL Go.Lib.decodeN
            rw [if_pos (by omega)]; exact h3
          rw [h4] at hR
          exact ⟨g.stopK x rest hR hx1, by rw [at0_c0]; exact (g.keep _ hx1 hR).1⟩
        · have h0 : 128 ≤ at0 (l.take (sizeL l)) i := by
            obtain ⟨b, hb, e⟩ := at0_mem (l.take (sizeL l)) i (by omega)
            rw [← e]; exact hall b hb
          have h1 : at0 ((l.take (sizeL l) ++ rest).drop i) 0 = at0 (l.take (sizeL l)) i := by
            have h2 : at0 ((l.take (sizeL l) ++ rest).drop i) 0 = at0 (l.take (sizeL l) ++ rest) i := by
              unfold at0; simp [List.getD_eq_getElem?_getD, List.getElem?_drop]
            rw [h2, at0_app _ _ _ (by omega)]
          exact ⟨g.stopH _ (by omega) hle, by omega⟩
      · rw [List.all_append, i3, Bool.and_true, List.all_eq_true]
        intro b hb
        rcases hc.bytes with ⟨x, hx, hx1⟩ | hall
        · rw [hx] at hb
          have hbx : b = x := by simpa using hb
          have h3 : at0 l 0 = x.toNat := by
            rw [← at0_take l (sizeL l) 0 (by omega), hx, at0_c0]
          have h4 : (decL l).1 = x.toNat := by
            unfold decL Go.Lib.decodeN
            rw [if_pos (by omega)]; exact h3
          rw [h4] at hR
          rw [hbx]
          exact (g.keep _ hx1 hR).2
        · exact g.more _ (hall b hb)
    · rw [if_neg hR]
      obtain ⟨p1, p2, p3⟩ := g.piece _ hR
      obtain ⟨t, ht, htne, hesc⟩ := piece_esc _ _ p1
      refine ⟨?_, ?_, ?_⟩
      · conv => rhs; rw [hsplit, ← coded_dec l hne hs]
        rw [ht]
        rw [ht] at p2
        refine .esc (t ++ rest) _ t.length _ (g.stop92 _) ?_ (hesc rest) ?_
        · rw [at0_app t rest 0 (List.length_pos_iff.2 htne), ← at0_cons_succ 92 t 0]; exact p2
        · rw [List.drop_left]; exact i1
      · rw [validL_ascii _ _ (fun b hb => ?_)]
        · exact i2
        · rw [List.all_eq_true] at p3
          have := p3 b hb
          rw [Bool.and_eq_true, decide_eq_true_eq] at this
          exact this.2
      · rw [List.all_append, i3, Bool.and_true, List.all_eq_true]
        intro b hb
        rw [List.all_eq_true] at p3
        have := p3 b hb
        rw [Bool.and_eq_true] at this
        exact this.1

/-! ### the tables -/
def strTab (r : Nat) : Bytes :=
  if r = 34 then [92, 117, 48, 48, 50, 50] else if r = 96 then [92, 117, 48, 48, 54, 48] else if r = 38 then [92, 117, 48, 48, 50, 54] else if r = 39 then [92, 117, 48, 48, 50, 55]
  else if r = 43 then [92, 117, 48, 48, 50, 98] else if r = 47 then [92, 47] else if r = 60 then [92, 117, 48, 48, 51, 99] else if r = 62 then [92, 117, 48, 48, 51, 101] else if r = 92 then [92, 92] else
  if r = 0 then [92, 117, 48, 48, 48, 48] else if r = 9 then [92, 116] else if r = 10 then [92, 110] else if r = 11 then [92, 117, 48, 48, 48, 98] else if r = 12 then [92, 102] else if r = 13 then [92, 114] else []
def bqTab (r : Nat) : Bytes :=
  if r = 36 then [92, 117, 48, 48, 50, 52] else if r = 123 then [92, 117, 48, 48, 55, 98] else if r = 125 then [92, 117, 48, 48, 55, 100] else strTab r
def rxTab (r : Nat) : Bytes :=
  if r = 96 then [] else if r = 36 ∨ r = 40 ∨ r = 41 ∨ r = 42 ∨ r = 45 ∨ r = 46 ∨ r = 63 ∨ r = 91 ∨ r = 93 ∨ r = 94 ∨ r = 123 ∨ r = 124 ∨ r = 125 then [92, UInt8.ofNat r] else strTab r
def noHtml (b : Nat) : Bool := b != 60 && b != 62 && b != 38
def noHtmlQ (b : Nat) : Bool := b != 60 && b != 62 && b != 38 && b != 34 && b != 39
def noStr (b : Nat) : Bool := b != 60 && b != 62 && b != 38 && b != 34 && b != 39 && b != 0 && b != 13

theorem strTab_high (r : Nat) (h : 128 ≤ r) : strTab r = [] := by
  unfold strTab
  repeat' (rw [if_neg (by omega)])
theorem bqTab_high (r : Nat) (h : 128 ≤ r) : bqTab r = [] := by
  unfold bqTab
  rw [if_neg (by omega), if_neg (by omega), if_neg (by omega), strTab_high r h]
theorem rxTab_high (r : Nat) (h : 128 ≤ r) : rxTab r = [] := by
  unfold rxTab
  rw [if_neg (by omega), if_neg (by omega), strTab_high r h]
theorem lineEnd_ascii (b : UInt8) (t : Bytes) (h : b.toNat ≠ 10 ∧ b.toNat ≠ 13 ∧ b.toNat ≠ 226) : lineEndL (b :: t) = false := by
  unfold lineEndL
  rw [at0_c0, Bool.eq_false_iff]; simp; omega

set_option maxRecDepth 100000 in
theorem good_str (q : Nat) (hq : q = 34 ∨ q = 39) : Good strTab (stopStr q) eokAny noStr where
  high := strTab_high
  low := by decide +kernel
  keep := by decide +kernel
  stopK := by
    intro b t hT hb
    have h1 : ∀ r, r < 128 → jsRepl strTab r = [] → r ≠ 34 ∧ r ≠ 39 ∧ r ≠ 10 ∧ r ≠ 13 := by decide +kernel
    have := h1 _ hb hT
    unfold stopStr
    rw [lineEnd_ascii b t (by omega), at0_c0, Bool.or_false, beq_eq_false_iff_ne]; omega
  stopH := by
    intro m h1 h2
    unfold stopStr
    rw [h2, Bool.or_false, beq_eq_false_iff_ne]; omega
  stop92 := by
    intro t
    unfold stopStr
    rw [lineEnd_ascii 92 t (by decide), at0_c0, Bool.or_false, beq_eq_false_iff_ne]
    show (92 : Nat) ≠ q
    omega
  more := by intro b hb; unfold noStr; simp; omega
  hexF := by
    refine ⟨rfl, by decide, by decide, fun d h1 h2 => ?_⟩
    unfold noStr; simp; omega
set_option maxRecDepth 100000 in
theorem good_tmpl : Good bqTab stopTmpl eokAny noHtml where
  high := bqTab_high
  low := by decide +kernel
  keep := by decide +kernel
  stopK := by
    intro b t hT hb
    have h1 : ∀ r, r < 128 → jsRepl bqTab r = [] → r ≠ 96 ∧ r ≠ 13 ∧ r ≠ 36 := by decide +kernel
    have := h1 _ hb hT
    unfold stopTmpl
    rw [at0_c0, Bool.eq_false_iff]; simp; omega
  stopH := by
    intro m h1 h2
    unfold stopTmpl
    rw [Bool.eq_false_iff]; simp; omega
  stop92 := by
    intro t
    unfold stopTmpl
    rw [at0_c0]; rfl
  more := by intro b hb; unfold noHtml; simp; omega
  hexF := by
    refine ⟨rfl, by decide, by decide, fun d h1 h2 => ?_⟩
    unfold noHtml; simp; omega
set_option maxRecDepth 100000 in
theorem good_pat : Good rxTab stopPat eokPat noHtmlQ where
  high := rxTab_high
  low := by decide +kernel
  keep := by decide +kernel
  stopK := by
    intro b t hT hb
    have h1 : ∀ r, r < 128 → jsRepl rxTab r = [] → hasB patSet r = false ∧ r ≠ 10 ∧ r ≠ 13 := by decide +kernel
    have := h1 _ hb hT
    unfold stopPat
    rw [lineEnd_ascii b t (by omega), at0_c0, Bool.or_false]; exact this.1
  stopH := by
    intro m h1 h2
    unfold stopPat
    rw [h2, Bool.or_false]
    unfold hasB
    rw [List.any_eq_false]
    intro x hx
    have : ∀ x ∈ patSet, x.toNat < 128 := by decide
    have := this x hx
    simp; omega
  stop92 := by
    intro t
    unfold stopPat
    rw [lineEnd_ascii 92 t (by decide), at0_c0, Bool.or_false]; decide
  more := by intro b hb; unfold noHtmlQ; simp; omega
  hexF := by
    refine ⟨by decide, by decide, by decide, fun d h1 h2 => ?_⟩
    unfold noHtmlQ; simp; omega

theorem all_not (e m : Bytes) (F : Nat → Bool) (h : e.all (fun b => F b.toNat) = true) (hm : ∀ x ∈ m, F x.toNat = false) : hasAnyB e m = false := by
  unfold hasAnyB
  rw [List.any_eq_false]
  intro b hb
  rw [List.all_eq_true] at h
  have h1 := h b hb
  unfold hasB
  rw [Bool.not_eq_true, List.any_eq_false]
  intro x hx
  have h2 := hm x hx
  simp only [beq_iff_eq]
  intro h3
  rw [h3] at h2
  rw [h2] at h1; cases h1
/-- A text without references is read as itself. -/
theorem str_quoted (e : Bytes) (hv : validL e = true) (h : e.all (fun b => noStr b.toNat) = true) : readL e 34 true = (e, true) := by
  have hb : ∀ b ∈ e, b.toNat ≠ 38 ∧ b.toNat ≠ 34 := by
    rw [List.all_eq_true] at h
    intro b hb
    have := h b hb
    unfold noStr at this
    simp at this; omega
  have h1 : hasB e 34 = false := by
    unfold hasB
    rw [List.any_eq_false]
    intro b hb'
    simpa using (hb b hb').2
  have h2 := all_not e [0, 13] noStr h (by decide)
  have h3 : knownL e = true := by
    have := knownL_plain e [] (fun b hb' => (hb b hb').1)
    rw [List.append_nil] at this
    rw [this]; rfl
  have h4 : unescL e true = e := by
    have := unescL_plain true e [] (fun b hb' => (hb b hb').1)
    rw [List.append_nil] at this
    rw [this]
    simp [unescL, unescGo]
  unfold readL readBad
  rw [h1, hv, h3, h2, h4]; rfl
end Go.Proofs.YteheelcppgjeaaaDoor
