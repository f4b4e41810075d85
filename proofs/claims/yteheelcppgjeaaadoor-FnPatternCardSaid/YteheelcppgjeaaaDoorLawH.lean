/- Plain laws: characters and their numbers; a value in an attribute without quotes is read as the value. -/
import Derived.Test.YteheelcppgjeaaaDoorLawP
namespace Go.Proofs.YteheelcppgjeaaaDoor
set_option linter.unusedVariables false
set_option linter.unusedSimpArgs false

theorem at0_c0 (a : UInt8) (t : Bytes) : at0 (a :: t) 0 = a.toNat := by simp [at0]
theorem at0_c1 (a b : UInt8) (t : Bytes) : at0 (a :: b :: t) 1 = b.toNat := by simp [at0]
theorem at0_c2 (a b c : UInt8) (t : Bytes) : at0 (a :: b :: c :: t) 2 = c.toNat := by simp [at0]
theorem at0_c3 (a b c d : UInt8) (t : Bytes) : at0 (a :: b :: c :: d :: t) 3 = d.toNat := by simp [at0]
theorem u8_ofNat (b : UInt8) (n : Nat) (h : n = b.toNat) : UInt8.ofNat n = b := by subst h; simp

/-- The four shapes of a character at the beginning of a text. -/
theorem char_cases (l : Bytes) (hne : l ≠ []) (hs : sizeL l ≠ 0) :
    (∃ x t, l = x :: t ∧ x.toNat < 128 ∧ decL l = (x.toNat, 1) ∧ sizeL l = 1) ∨
    (∃ x y t, l = x :: y :: t ∧ 194 ≤ x.toNat ∧ x.toNat < 224 ∧ y.toNat / 64 = 2 ∧ decL l = (x.toNat % 32 * 64 + y.toNat % 64, 2) ∧ sizeL l = 2) ∨
    (∃ x y z t, l = x :: y :: z :: t ∧ 224 ≤ x.toNat ∧ x.toNat < 240 ∧ y.toNat / 64 = 2 ∧ z.toNat / 64 = 2 ∧ 2048 ≤ x.toNat % 16 * 4096 + y.toNat % 64 * 64 + z.toNat % 64 ∧
      (x.toNat % 16 * 4096 + y.toNat % 64 * 64 + z.toNat % 64 < 55296 ∨ 57343 < x.toNat % 16 * 4096 + y.toNat % 64 * 64 + z.toNat % 64) ∧ decL l = (x.toNat % 16 * 4096 + y.toNat % 64 * 64 + z.toNat % 64, 3) ∧ sizeL l = 3) ∨
    (∃ x y z u t, l = x :: y :: z :: u :: t ∧ 240 ≤ x.toNat ∧ x.toNat < 245 ∧ y.toNat / 64 = 2 ∧ z.toNat / 64 = 2 ∧ u.toNat / 64 = 2 ∧
      65536 ≤ x.toNat % 8 * 262144 + y.toNat % 64 * 4096 + z.toNat % 64 * 64 + u.toNat % 64 ∧ x.toNat % 8 * 262144 + y.toNat % 64 * 4096 + z.toNat % 64 * 64 + u.toNat % 64 ≤ 1114111 ∧
      decL l = (x.toNat % 8 * 262144 + y.toNat % 64 * 4096 + z.toNat % 64 * 64 + u.toNat % 64, 4) ∧ sizeL l = 4) := by
  have hw := wide_of l hs
  generalize hn : sizeL l = n at hw ⊢
  cases hw with
  | one a =>
    left
    match l, hne with
    | b :: t, _ =>
      rw [at0_c0] at a
      exact ⟨b, t, rfl, a, by unfold decL Go.Lib.decodeN; rw [at0_c0, if_pos a], rfl⟩
  | two a b c d =>
    right; left
    match l, c with
    | x :: y :: t, _ =>
      rw [at0_c0] at a b
      rw [at0_c1] at d
      refine ⟨x, y, t, rfl, a, b, d, ?_, rfl⟩
      unfold decL Go.Lib.decodeN
      rw [at0_c0, at0_c1, if_neg (by omega), if_pos ⟨by omega, by simp, d⟩, if_pos (by omega)]
  | three a b c d k f =>
    right; right; left
    match l, c with
    | x :: y :: z :: t, _ =>
      rw [at0_c0] at a b
      rw [at0_c1] at d
      rw [at0_c2] at k
      rw [at0_c0, at0_c1, at0_c2] at f
      refine ⟨x, y, z, t, rfl, a, b, d, k, by omega, by omega, ?_, rfl⟩
      unfold decL Go.Lib.decodeN
      rw [at0_c0, at0_c1, at0_c2, if_neg (by omega), if_neg (by omega), if_pos ⟨by omega, ⟨by simp, d⟩, ⟨by simp, k⟩⟩, if_pos (by omega)]
  | four a b c d k f g =>
    right; right; right
    match l, c with
    | x :: y :: z :: u :: t, _ =>
      rw [at0_c0] at a b
      rw [at0_c1] at d
      rw [at0_c2] at k
      rw [at0_c3] at f
      rw [at0_c0, at0_c1, at0_c2, at0_c3] at g
      refine ⟨x, y, z, u, t, rfl, a, b, d, k, f, by omega, by omega, ?_, rfl⟩
      unfold decL Go.Lib.decodeN
      rw [at0_c0, at0_c1, at0_c2, at0_c3, if_neg (by omega), if_neg (by omega), if_neg (by omega), if_pos ⟨by omega, ⟨by simp, d⟩, ⟨by simp, k⟩, ⟨by simp, f⟩⟩, if_pos (by omega)]

/-- A character's number, written in UTF-8, is the character. -/
theorem coded_dec (l : Bytes) (hne : l ≠ []) (hs : sizeL l ≠ 0) : codedL (decL l).1 = l.take (sizeL l) := by
  rcases char_cases l hne hs with ⟨x, t, rfl, h1, hd, hz⟩ | ⟨x, y, t, rfl, h1, h2, h3, hd, hz⟩ | ⟨x, y, z, t, rfl, h1, h2, h3, h4, h5, h6, hd, hz⟩ | ⟨x, y, z, u, t, rfl, h1, h2, h3, h4, h5, h6, h7, hd, hz⟩
  all_goals rw [hd, hz]; unfold codedL; simp only
  · rw [if_pos h1, u8_ofNat x _ rfl]; rfl
  · rw [if_neg (by omega), if_pos (by omega), u8_ofNat x _ (by omega), u8_ofNat y _ (by omega)]; rfl
  · rw [if_neg (by omega), if_neg (by omega), if_pos (by omega), u8_ofNat x _ (by omega), u8_ofNat y _ (by omega), u8_ofNat z _ (by omega)]; rfl
  · rw [if_neg (by omega), if_neg (by omega), if_neg (by omega), u8_ofNat x _ (by omega), u8_ofNat y _ (by omega), u8_ofNat z _ (by omega), u8_ofNat u _ (by omega)]; rfl

/-- Decimal references of one digit. -/
theorem piece_num1 (attr : Bool) (q : Nat) (d : UInt8) (n : Nat) (hd : 48 ≤ d.toNat ∧ d.toNat ≤ 57) (hn : n = d.toNat - 48) (h0 : n ≠ 0) (hq : q ≠ 38 ∧ q ≠ 35 ∧ q ≠ 59 ∧ q ≠ d.toNat) :
    Piece attr q [38, 35, d, 59] [UInt8.ofNat n] := by
  refine piece_of (t := [35, d, 59]) (fun r => ?_) (fun r => ?_) ?_ hq.1
  · have e1 : digitV d.toNat = d.toNat - 48 := by unfold digitV; rw [if_pos hd]
    have hb : numBase ([38, 35, d, 59] ++ r) = 10 := by
      unfold numBase; rw [if_neg]; simp [at0]; omega
    have hf : numFirst ([38, 35, d, 59] ++ r) = 2 := by
      unfold numFirst; rw [if_neg]; simp [at0]; omega
    have hg : numGo 10 (([38, 35, d, 59] ++ r).drop 2) 0 2 = (n, 3) := by
      show numGo 10 (d :: 59 :: r) 0 2 = _
      have h59 : digitV (59 : UInt8).toNat = 99 := by decide
      simp only [numGo, e1, h59]
      rw [if_pos (by omega), if_neg (by omega)]
      ext <;> simp <;> omega
    have hc : codedL (charOfN n) = [UInt8.ofNat n] := by
      have : charOfN n = n := by unfold charOfN; rw [if_neg (by omega), if_neg (by omega)]
      rw [this]; unfold codedL; rw [if_pos (by omega)]
    show referenceL ([38, 35, d, 59] ++ r) attr = _
    unfold referenceL
    rw [if_neg (by simp [at0]), if_pos (by simp [at0])]
    unfold numericL
    rw [hb, hf, hg]
    simp [hc, at0]
  · unfold knownAt
    have : wordL ([35, d, 59] ++ r) = [] := by simp [wordL, isAlnumB, isAlphaB]
    rw [this]; rfl
  · obtain ⟨h1, h2, h3, h4⟩ := hq
    intro b hb
    simp only [List.mem_cons, List.not_mem_nil, or_false] at hb
    rcases hb with rfl | rfl | rfl
    · exact ⟨by decide, by decide, fun h => h2 h.symm, by decide, by decide⟩
    · omega
    · exact ⟨by decide, by decide, fun h => h3 h.symm, by decide, by decide⟩

theorem lowHex_digit (d : Nat) (h : d < 16) : digitV (lowHex d).toNat = d := by
  have : ∀ d, d < 16 → digitV (lowHex d).toNat = d := by decide
  exact this d h
theorem lowHex_range (d : Nat) (h : d < 16) : (48 ≤ (lowHex d).toNat ∧ (lowHex d).toNat ≤ 57) ∨ (97 ≤ (lowHex d).toNat ∧ (lowHex d).toNat ≤ 102) := by
  have : ∀ d, d < 16 → (48 ≤ (lowHex d).toNat ∧ (lowHex d).toNat ≤ 57) ∨ (97 ≤ (lowHex d).toNat ∧ (lowHex d).toNat ≤ 102) := by decide
  exact this d h
/-- Hexadecimal references of four digits. -/
theorem piece_hex4 (attr : Bool) (q r : Nat) (h1 : 160 ≤ r) (h2 : r < 65536) (h3 : ¬ (0xd800 ≤ r ∧ r ≤ 0xdfff)) (hq : q ≠ 38 ∧ q ≠ 35 ∧ q ≠ 120 ∧ q ≠ 59 ∧ ¬ (48 ≤ q ∧ q ≤ 57) ∧ ¬ (97 ≤ q ∧ q ≤ 102)) :
    Piece attr q (badText r) (codedL r) := by
  obtain ⟨a, ha⟩ : ∃ a, a = lowHex (r / 4096 % 16) := ⟨_, rfl⟩
  obtain ⟨b, hb⟩ : ∃ b, b = lowHex (r / 256 % 16) := ⟨_, rfl⟩
  obtain ⟨c, hc⟩ : ∃ c, c = lowHex (r / 16 % 16) := ⟨_, rfl⟩
  obtain ⟨d, hd⟩ : ∃ d, d = lowHex (r % 16) := ⟨_, rfl⟩
  have da : digitV a.toNat = r / 4096 % 16 := by rw [ha]; exact lowHex_digit _ (by omega)
  have db : digitV b.toNat = r / 256 % 16 := by rw [hb]; exact lowHex_digit _ (by omega)
  have dc : digitV c.toNat = r / 16 % 16 := by rw [hc]; exact lowHex_digit _ (by omega)
  have dd : digitV d.toNat = r % 16 := by rw [hd]; exact lowHex_digit _ (by omega)
  have ra := lowHex_range (r / 4096 % 16) (by omega)
  have rb := lowHex_range (r / 256 % 16) (by omega)
  have rc := lowHex_range (r / 16 % 16) (by omega)
  have rd := lowHex_range (r % 16) (by omega)
  rw [← ha] at ra
  rw [← hb] at rb
  rw [← hc] at rc
  rw [← hd] at rd
  have e : badText r = 38 :: [35, 120, a, b, c, d, 59] := by unfold badText hex4; rw [← ha, ← hb, ← hc, ← hd]; rfl
  rw [e]
  clear e ha hb hc hd
  refine piece_of (t := [35, 120, a, b, c, d, 59]) (fun x => ?_) (fun x => ?_) ?_ hq.1
  · have hbs : numBase (38 :: [35, 120, a, b, c, d, 59] ++ x) = 16 := by
      unfold numBase; rw [if_pos]; simp [at0]
    have hf : numFirst (38 :: [35, 120, a, b, c, d, 59] ++ x) = 3 := by
      unfold numFirst; rw [if_pos]; simp [at0]
    have hg : numGo 16 ((38 :: [35, 120, a, b, c, d, 59] ++ x).drop 3) 0 3 = (r, 7) := by
      show numGo 16 (a :: b :: c :: d :: 59 :: x) 0 3 = _
      have h59 : digitV (59 : UInt8).toNat = 99 := by decide
      simp only [numGo, da, db, dc, dd, h59]
      rw [if_pos (by omega), if_pos (by omega), if_pos (by omega), if_pos (by omega), if_neg (by omega)]
      ext <;> simp only <;> omega
    have hch : charOfN r = r := by unfold charOfN; rw [if_neg (by omega), if_neg (by omega)]
    unfold referenceL
    rw [if_neg (by simp [at0]), if_pos (by simp [at0])]
    unfold numericL
    rw [hbs, hf, hg]
    simp [hch, at0]
  · unfold knownAt
    have : wordL ([35, 120, a, b, c, d, 59] ++ x) = [] := by simp [wordL, isAlnumB, isAlphaB]
    rw [this]; rfl
  · obtain ⟨q1, q2, q3, q4, q5, q6⟩ := hq
    intro y hy
    simp only [List.mem_cons, List.not_mem_nil, or_false] at hy
    rcases hy with rfl | rfl | rfl | rfl | rfl | rfl | rfl
    · exact ⟨by decide, by decide, fun h => q2 h.symm, by decide, by decide⟩
    · exact ⟨by decide, by decide, fun h => q3 h.symm, by decide, by decide⟩
    · omega
    · omega
    · omega
    · omega
    · exact ⟨by decide, by decide, fun h => q4 h.symm, by decide, by decide⟩

def bareTab (r : Nat) : Bytes :=
  if r = 0 then [38, 35, 120, 102, 102, 102, 100, 59] else if r = 9 then [38, 35, 57, 59] else if r = 10 then [38, 35, 49, 48, 59] else if r = 11 then [38, 35, 49, 49, 59]
  else if r = 12 then [38, 35, 49, 50, 59] else if r = 13 then [38, 35, 49, 51, 59] else if r = 32 then [38, 35, 51, 50, 59] else if r = 34 then [38, 35, 51, 52, 59]
  else if r = 38 then [38, 97, 109, 112, 59] else if r = 39 then [38, 35, 51, 57, 59] else if r = 43 then [38, 35, 52, 51, 59] else if r = 60 then [38, 108, 116, 59]
  else if r = 61 then [38, 35, 54, 49, 59] else if r = 62 then [38, 103, 116, 59] else if r = 96 then [38, 35, 57, 54, 59] else []
def bareSet : Bytes := [32, 9, 10, 12, 13, 62, 34, 39, 60, 61, 96, 0]
def bareL (l : Bytes) : Bytes := replL bareTab 97 false l
def readUnqBad (s : Bytes) : Bool := s.isEmpty || hasAnyB s bareSet || !validL s || !knownL s
def readUnqL (s : Bytes) : Bytes × Bool := if readUnqBad s = true then ([], false) else (unescL s true, true)

theorem bareTab_high (r : Nat) (h : 128 ≤ r) : bareTab r = [] := by
  unfold bareTab
  repeat' (rw [if_neg (by omega)])
theorem bareTab_le (r : Nat) : (bareTab r).length ≤ 8 := by
  rcases Nat.lt_or_ge r 128 with h | h
  · have : ∀ r, r < 128 → (bareTab r).length ≤ 8 := by decide +kernel
    exact this r h
  · rw [bareTab_high r h]; decide
theorem bareTab_hit : ∀ r, r < 97 → bareTab r ≠ [] → r = 0 ∨ r = 13 ∨ r = 9 ∨ r = 10 ∨ r = 11 ∨ r = 12 ∨ r = 32 ∨ r = 34 ∨ r = 38 ∨ r = 39 ∨ r = 43 ∨ r = 60 ∨ r = 61 ∨ r = 62 ∨ r = 96 := by decide +kernel

theorem bare_piece (q : Nat) (hq : q = 32 ∨ q = 9 ∨ q = 10 ∨ q = 12 ∨ q = 13 ∨ q = 62 ∨ q = 34 ∨ q = 39 ∨ q = 60 ∨ q = 61 ∨ q = 96 ∨ q = 0) (l : Bytes) (hne : l ≠ []) (hs : sizeL l ≠ 0) (hz : hasAnyB (l.take (sizeL l)) [0, 13] = false) :
    Piece true q (replOne bareTab 97 false l) (l.take (sizeL l)) := by
  have hkeep : ((decL l).1 < 128 → (decL l).1 ≠ 38 ∧ (decL l).1 ≠ q) → Piece true q (l.take (sizeL l)) (l.take (sizeL l)) := fun h =>
    keep_char true q l hne hs hz (by omega) h
  unfold replOne
  rw [size_dec l hs]
  split
  · rename_i h97
    obtain ⟨e1, e2⟩ := dec_ascii l (by omega)
    rw [size_dec l hs] at e2
    have hone : l.take (sizeL l) = [UInt8.ofNat (decL l).1] := by
      rw [e2, ← e1]
      match l, hne with
      | b :: t, _ => simp [at0]
    split
    · rename_i hT
      refine hkeep (fun _ => ⟨?_, ?_⟩)
      · intro h; rw [h] at hT; revert hT; decide
      · rcases hq with rfl | rfl | rfl | rfl | rfl | rfl | rfl | rfl | rfl | rfl | rfl | rfl <;> (intro h; rw [h] at hT; revert hT; decide)
    · rename_i hT
      rw [hone]
      have hz0 := hasAny_mem hz (b := UInt8.ofNat (decL l).1) (by rw [hone]; simp)
      have hz1 : (decL l).1 ≠ 0 := fun h => by rw [h] at hz0; exact hz0.1 rfl
      have hz2 : (decL l).1 ≠ 13 := fun h => by rw [h] at hz0; exact hz0.2 rfl
      have hcs : (decL l).1 = 9 ∨ (decL l).1 = 10 ∨ (decL l).1 = 11 ∨ (decL l).1 = 12 ∨ (decL l).1 = 32 ∨ (decL l).1 = 34 ∨ (decL l).1 = 38 ∨ (decL l).1 = 39 ∨ (decL l).1 = 43 ∨ (decL l).1 = 60 ∨ (decL l).1 = 61 ∨ (decL l).1 = 62 ∨ (decL l).1 = 96 := by
        have := bareTab_hit _ h97 hT
        omega
      have hq1 : ∀ d e : UInt8, (48 ≤ d.toNat ∧ d.toNat ≤ 57) → (48 ≤ e.toNat ∧ e.toNat ≤ 57) → q ≠ 38 ∧ q ≠ 35 ∧ q ≠ 59 ∧ q ≠ d.toNat ∧ q ≠ e.toNat := by
        intro d e h1 h2; omega
      rcases hcs with h | h | h | h | h | h | h | h | h | h | h | h | h <;> rw [h]
      · exact piece_num1 true q 57 9 (by decide) (by decide) (by decide) (by rcases hq with rfl | rfl | rfl | rfl | rfl | rfl | rfl | rfl | rfl | rfl | rfl | rfl <;> decide)
      · exact piece_num2 true q 49 48 10 (by decide) (by decide) (by decide) (by decide) (hq1 _ _ (by decide) (by decide))
      · exact piece_num2 true q 49 49 11 (by decide) (by decide) (by decide) (by decide) (hq1 _ _ (by decide) (by decide))
      · exact piece_num2 true q 49 50 12 (by decide) (by decide) (by decide) (by decide) (hq1 _ _ (by decide) (by decide))
      · exact piece_num2 true q 51 50 32 (by decide) (by decide) (by decide) (by decide) (hq1 _ _ (by decide) (by decide))
      · exact piece_num2 true q 51 52 34 (by decide) (by decide) (by decide) (by decide) (hq1 _ _ (by decide) (by decide))
      · exact piece_amp true q (by rcases hq with rfl | rfl | rfl | rfl | rfl | rfl | rfl | rfl | rfl | rfl | rfl | rfl <;> decide)
      · exact piece_num2 true q 51 57 39 (by decide) (by decide) (by decide) (by decide) (hq1 _ _ (by decide) (by decide))
      · exact piece_num2 true q 52 51 43 (by decide) (by decide) (by decide) (by decide) (hq1 _ _ (by decide) (by decide))
      · exact piece_lt true q (by rcases hq with rfl | rfl | rfl | rfl | rfl | rfl | rfl | rfl | rfl | rfl | rfl | rfl <;> decide)
      · exact piece_num2 true q 54 49 61 (by decide) (by decide) (by decide) (by decide) (hq1 _ _ (by decide) (by decide))
      · exact piece_gt true q (by rcases hq with rfl | rfl | rfl | rfl | rfl | rfl | rfl | rfl | rfl | rfl | rfl | rfl <;> decide)
      · exact piece_num2 true q 57 54 96 (by decide) (by decide) (by decide) (by decide) (hq1 _ _ (by decide) (by decide))
  · rename_i h97
    rw [if_neg (by decide)]
    split
    · rename_i hbad
      rw [← coded_dec l hne hs]
      unfold badRune at hbad
      rw [Bool.or_eq_true, Bool.and_eq_true, Bool.and_eq_true] at hbad
      simp only [decide_eq_true_eq] at hbad
      exact piece_hex4 true q _ (by omega) (by omega) (by omega) (by omega)
    · exact hkeep (fun _ => by omega)
/-- THE LAW OF VALUES WITHOUT QUOTES. -/
theorem bare_reads (l : Bytes) (hl : plainL l = true) (hne : l ≠ []) : readUnqL (bareL l) = (l, true) := by
  have key : ∀ q, (q = 32 ∨ q = 9 ∨ q = 10 ∨ q = 12 ∨ q = 13 ∨ q = 62 ∨ q = 34 ∨ q = 39 ∨ q = 60 ∨ q = 61 ∨ q = 96 ∨ q = 0) → readL (bareL l) q true = (l, true) := fun q hq =>
    repl_reads bareTab 97 false true q (fun l h1 h2 h3 => bare_piece q hq l h1 h2 h3) l hl
  have k2 : ∀ q, (q = 32 ∨ q = 9 ∨ q = 10 ∨ q = 12 ∨ q = 13 ∨ q = 62 ∨ q = 34 ∨ q = 39 ∨ q = 60 ∨ q = 61 ∨ q = 96 ∨ q = 0) → readBad (bareL l) q = false ∧ unescL (bareL l) true = l := by
    intro q hq
    have h := key q hq
    unfold readL at h
    by_cases hb : readBad (bareL l) q = true
    · rw [if_pos hb] at h; cases h
    · rw [if_neg hb] at h
      exact ⟨by simpa using hb, (Prod.mk.injEq _ _ _ _ ▸ h).1⟩
  generalize he : bareL l = e at k2
  have hu := (k2 32 (.inl rfl)).2
  have hb := (k2 32 (.inl rfl)).1
  unfold readBad at hb
  simp only [Bool.or_eq_false_iff, Bool.not_eq_false'] at hb
  obtain ⟨⟨⟨_, hv⟩, hk⟩, _⟩ := hb
  have hem : e.isEmpty = false := by
    rw [List.isEmpty_eq_false_iff]
    intro h; rw [h] at hu; exact hne hu.symm
  have hset : hasAnyB e bareSet = false := by
    unfold hasAnyB
    rw [List.any_eq_false]
    intro b hbm
    unfold hasB
    rw [Bool.not_eq_true, List.any_eq_false]
    intro x hx
    have hx' : x = 32 ∨ x = 9 ∨ x = 10 ∨ x = 12 ∨ x = 13 ∨ x = 62 ∨ x = 34 ∨ x = 39 ∨ x = 60 ∨ x = 61 ∨ x = 96 ∨ x = 0 := by
      simpa [bareSet] using hx
    have hq : hasB e x.toNat = false := by
      have h9 := (k2 x.toNat (by rcases hx' with rfl | rfl | rfl | rfl | rfl | rfl | rfl | rfl | rfl | rfl | rfl | rfl <;> decide)).1
      unfold readBad at h9
      simp only [Bool.or_eq_false_iff] at h9
      exact h9.1.1.1
    unfold hasB at hq
    rw [List.any_eq_false] at hq
    have h8 := hq b hbm
    simp only [beq_iff_eq] at h8 ⊢
    exact fun h => h8 h.symm
  unfold readUnqL readUnqBad
  rw [hem, hset, hv, hk, hu]; rfl
end Go.Proofs.YteheelcppgjeaaaDoor
