/- Plain laws: references as pieces (the first part of LawB, without a program in sight). -/
import Derived.Test.YthhmccdjhcfggaaLawA
namespace Go.Proofs.Ythhmccdjhcfggaa
set_option linter.unusedVariables false
set_option linter.unusedSimpArgs false

theorem word_end (t : Bytes) (b : UInt8) (r : Bytes) (ht : ∀ x ∈ t, isAlnumB x.toNat = true) (hb : isAlnumB b.toNat = false) : wordL (t ++ b :: r) = t := by
  unfold wordL
  rw [List.takeWhile_append_of_pos ht]
  simp [hb]
set_option maxRecDepth 100000 in
set_option maxHeartbeats 4000000 in
theorem fold_amp (r : Bytes) : refFold ([38, 97, 109, 112, 59] ++ r) = ([38], 5) := by
  have hw : wordL (([38, 97, 109, 112, 59] ++ r).drop 1) = [97, 109, 112] := word_end [97, 109, 112] 59 r (by decide) (by decide)
  unfold refFold
  rw [hw]
  simp [ents, refStep, refSkip, refLong, semiAt, at0]
set_option maxRecDepth 100000 in
set_option maxHeartbeats 4000000 in
theorem fold_lt (r : Bytes) : refFold ([38, 108, 116, 59] ++ r) = ([60], 4) := by
  have hw : wordL (([38, 108, 116, 59] ++ r).drop 1) = [108, 116] := word_end [108, 116] 59 r (by decide) (by decide)
  unfold refFold
  rw [hw]
  simp [ents, refStep, refSkip, refLong, semiAt, at0]
set_option maxRecDepth 100000 in
set_option maxHeartbeats 4000000 in
theorem fold_gt (r : Bytes) : refFold ([38, 103, 116, 59] ++ r) = ([62], 4) := by
  have hw : wordL (([38, 103, 116, 59] ++ r).drop 1) = [103, 116] := word_end [103, 116] 59 r (by decide) (by decide)
  unfold refFold
  rw [hw]
  simp [ents, refStep, refSkip, refLong, semiAt, at0]

theorem ref_named (t c r : Bytes) (attr : Bool) (n : Nat) (h35 : at0 (38 :: t ++ r) 1 ≠ 35) (hl : 2 ≤ (38 :: t ++ r).length) (hf : refFold (38 :: t ++ r) = (c, n)) (hn : n ≠ 0) (h59 : at0 (38 :: t ++ r) (n - 1) = 59) :
    referenceL (38 :: t ++ r) attr = (c, n, true) := by
  unfold referenceL
  rw [if_neg (by rw [not_or]; exact ⟨by omega, fun h => h rfl⟩), if_neg h35, hf]
  rw [if_neg]
  have h59' : at0 (38 :: (t ++ r)) (n - 1) = 59 := h59
  simp [refNone, h59', hn]
theorem piece_amp (attr : Bool) (q : Nat) (hq : q ≠ 38 ∧ q ≠ 97 ∧ q ≠ 109 ∧ q ≠ 112 ∧ q ≠ 59) : Piece attr q [38, 97, 109, 112, 59] [38] := by
  refine piece_of (t := [97, 109, 112, 59]) (fun r => ?_) (fun r => ?_) ?_ hq.1
  · exact ref_named [97, 109, 112, 59] [38] r attr 5 (by simp [at0]) (by simp) (fold_amp r) (by decide) (by simp [at0])
  · have hw : wordL ([97, 109, 112, 59] ++ r) = [97, 109, 112] := word_end [97, 109, 112] 59 r (by decide) (by decide)
    unfold knownAt; rw [hw]; simp [ents, entHit]
  · obtain ⟨h1, h2, h3, h4, h5⟩ := hq
    intro b hb
    simp only [List.mem_cons, List.not_mem_nil, or_false] at hb
    rcases hb with rfl | rfl | rfl | rfl <;> simp <;> omega
theorem piece_lt (attr : Bool) (q : Nat) (hq : q ≠ 38 ∧ q ≠ 108 ∧ q ≠ 116 ∧ q ≠ 59) : Piece attr q [38, 108, 116, 59] [60] := by
  refine piece_of (t := [108, 116, 59]) (fun r => ?_) (fun r => ?_) ?_ hq.1
  · exact ref_named [108, 116, 59] [60] r attr 4 (by simp [at0]) (by simp) (fold_lt r) (by decide) (by simp [at0])
  · have hw : wordL ([108, 116, 59] ++ r) = [108, 116] := word_end [108, 116] 59 r (by decide) (by decide)
    unfold knownAt; rw [hw]; simp [ents, entHit]
  · obtain ⟨h1, h2, h3, h4⟩ := hq
    intro b hb
    simp only [List.mem_cons, List.not_mem_nil, or_false] at hb
    rcases hb with rfl | rfl | rfl <;> simp <;> omega
theorem piece_gt (attr : Bool) (q : Nat) (hq : q ≠ 38 ∧ q ≠ 103 ∧ q ≠ 116 ∧ q ≠ 59) : Piece attr q [38, 103, 116, 59] [62] := by
  refine piece_of (t := [103, 116, 59]) (fun r => ?_) (fun r => ?_) ?_ hq.1
  · exact ref_named [103, 116, 59] [62] r attr 4 (by simp [at0]) (by simp) (fold_gt r) (by decide) (by simp [at0])
  · have hw : wordL ([103, 116, 59] ++ r) = [103, 116] := word_end [103, 116] 59 r (by decide) (by decide)
    unfold knownAt; rw [hw]; simp [ents, entHit]
  · obtain ⟨h1, h2, h3, h4⟩ := hq
    intro b hb
    simp only [List.mem_cons, List.not_mem_nil, or_false] at hb
    rcases hb with rfl | rfl | rfl <;> simp <;> omega
/-- Decimal references of two digits. -/
theorem piece_num2 (attr : Bool) (q : Nat) (d e : UInt8) (n : Nat) (hd : 48 ≤ d.toNat ∧ d.toNat ≤ 57) (he : 48 ≤ e.toNat ∧ e.toNat ≤ 57) (hn : n = (d.toNat - 48) * 10 + (e.toNat - 48)) (h0 : n ≠ 0) (hq : q ≠ 38 ∧ q ≠ 35 ∧ q ≠ 59 ∧ q ≠ d.toNat ∧ q ≠ e.toNat) :
    Piece attr q [38, 35, d, e, 59] [UInt8.ofNat n] := by
  refine piece_of (t := [35, d, e, 59]) (fun r => ?_) (fun r => ?_) ?_ hq.1
  · have e1 : digitV d.toNat = d.toNat - 48 := by unfold digitV; rw [if_pos hd]
    have e2 : digitV e.toNat = e.toNat - 48 := by unfold digitV; rw [if_pos he]
    have hb : numBase ([38, 35, d, e, 59] ++ r) = 10 := by
      unfold numBase; rw [if_neg]; simp [at0]; omega
    have hf : numFirst ([38, 35, d, e, 59] ++ r) = 2 := by
      unfold numFirst; rw [if_neg]; simp [at0]; omega
    have hg : numGo 10 (([38, 35, d, e, 59] ++ r).drop 2) 0 2 = (n, 4) := by
      show numGo 10 (d :: e :: 59 :: r) 0 2 = _
      have h59 : digitV (59 : UInt8).toNat = 99 := by decide
      simp only [numGo, e1, e2, h59]
      rw [if_pos (by omega), if_pos (by omega), if_neg (by omega)]
      ext <;> simp <;> omega
    have hc : codedL (charOfN n) = [UInt8.ofNat n] := by
      have : charOfN n = n := by unfold charOfN; rw [if_neg (by omega), if_neg (by omega)]
      rw [this]; unfold codedL; rw [if_pos (by omega)]
    show referenceL ([38, 35, d, e, 59] ++ r) attr = _
    unfold referenceL
    rw [if_neg (by simp [at0]), if_pos (by simp [at0])]
    unfold numericL
    rw [hb, hf, hg]
    simp [hc, at0]
  · unfold knownAt
    have : wordL ([35, d, e, 59] ++ r) = [] := by simp [wordL, isAlnumB, isAlphaB]
    rw [this]; rfl
  · obtain ⟨h1, h2, h3, h4, h5⟩ := hq
    intro b hb
    simp only [List.mem_cons, List.not_mem_nil, or_false] at hb
    rcases hb with rfl | rfl | rfl | rfl
    · exact ⟨by decide, by decide, fun h => h2 h.symm, by decide, by decide⟩
    · omega
    · omega
    · exact ⟨by decide, by decide, fun h => h3 h.symm, by decide, by decide⟩

/-- A kept character: none of the table's. -/
theorem keep_char (attr : Bool) (q : Nat) (l : Bytes) (hne : l ≠ []) (hs : sizeL l ≠ 0) (hz : hasAnyB (l.take (sizeL l)) [0, 13] = false) (hq : q < 128)
    (h : (decL l).1 < 128 → (decL l).1 ≠ 38 ∧ (decL l).1 ≠ q) : Piece attr q (l.take (sizeL l)) (l.take (sizeL l)) := by
  obtain ⟨hc, hlen⟩ := isChar_take l hne hs
  refine Piece.keep hc ?_
  intro b hb
  have h2 := hasAny_mem hz hb
  rcases hc.bytes with ⟨x, hx, hx1⟩ | hall
  · rw [hx] at hb
    have hbx : b = x := by simpa using hb
    have h3 : at0 l 0 = x.toNat := by
      rw [← at0_take l (sizeL l) 0 (by omega), hx]; simp [at0]
    have h4 : (decL l).1 = x.toNat := by
      unfold decL Go.Lib.decodeN
      rw [if_pos (by omega)]; exact h3
    have := h (by omega)
    rw [hbx] at h2 ⊢
    omega
  · have := hall b hb
    omega
end Go.Proofs.Ythhmccdjhcfggaa
