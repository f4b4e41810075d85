/- Plain laws: a text escaped byte by byte is read as the text. -/
import Derived.Test.YthhmccdjhcfggaaLawP
namespace Go.Proofs.Ythhmccdjhcfggaa
set_option linter.unusedVariables false
set_option linter.unusedSimpArgs false

def escTab (r : Nat) : Bytes :=
  if r = 0 then [239, 191, 189] else if r = 34 then [38, 35, 51, 52, 59] else if r = 39 then [38, 35, 51, 57, 59] else if r = 38 then [38, 97, 109, 112, 59]
  else if r = 60 then [38, 108, 116, 59] else if r = 62 then [38, 103, 116, 59] else []
def escByte (b : UInt8) : Bytes := if escTab b.toNat = [] then [b] else escTab b.toNat
def escL (l : Bytes) : Bytes := l.flatMap escByte
theorem escTab_le (r : Nat) : (escTab r).length ≤ 5 := by
  unfold escTab
  repeat' split
  all_goals decide
theorem escL_le (l : Bytes) : (escL l).length ≤ 5 * l.length := by
  induction l with
  | nil => simp [escL]
  | cons b t ih =>
    have h1 : (escByte b).length ≤ 5 := by
      unfold escByte
      have := escTab_le b.toNat
      split
      · simp
      · exact this
    show (escByte b ++ escL t).length ≤ _
    rw [List.length_append, List.length_cons]
    omega
theorem escTab_high (r : Nat) (h : 63 ≤ r) : escTab r = [] := by
  unfold escTab
  repeat' (rw [if_neg (by omega)])
theorem escL_keep (x : Bytes) (h : ∀ b ∈ x, 63 ≤ b.toNat) : escL x = x := by
  induction x with
  | nil => rfl
  | cons b t ih =>
    show escByte b ++ escL t = _
    rw [ih (fun y hy => h y (List.mem_cons_of_mem _ hy))]
    unfold escByte
    rw [if_pos (escTab_high _ (h b List.mem_cons_self))]; rfl
theorem escL_app (x y : Bytes) : escL (x ++ y) = escL x ++ escL y := by unfold escL; exact List.flatMap_append
/-- Byte by byte is character by character. -/
theorem escL_repl (l : Bytes) (hv : validL l = true) : escL l = replL escTab 63 true l := by
  refine valid_ind (P := fun l => escL l = replL escTab 63 true l) rfl ?_ l hv
  intro l hne hs _ ih
  obtain ⟨hc, hlen⟩ := isChar_take l hne hs
  rw [replL_step _ _ _ l hne, size_dec l hs, ← ih]
  conv => lhs; rw [← List.take_append_drop (sizeL l) l, escL_app]
  congr 1
  unfold replOne
  rw [size_dec l hs]
  rcases hc.bytes with ⟨x, hx, hx1⟩ | hall
  · have h3 : at0 l 0 = x.toNat := by
      rw [← at0_take l (sizeL l) 0 (by rw [← hlen, hx]; simp), hx]; simp [at0]
    have h4 : (decL l).1 = x.toNat := by
      unfold decL Go.Lib.decodeN
      rw [if_pos (by omega)]; exact h3
    rw [hx, h4]
    show escByte x ++ [] = _
    rw [List.append_nil, if_pos rfl]
    unfold escByte
    split
    · simp
    · rename_i h
      have : x.toNat < 63 := by
        rcases Nat.lt_or_ge x.toNat 63 with h' | h'
        · exact h'
        · exact absurd (escTab_high _ h') h
      rw [if_pos this]
  · rw [escL_keep _ (fun b hb => by have := hall b hb; omega)]
    have h5 : ¬ (decL l).1 < 63 := by
      intro h
      obtain ⟨e1, e2⟩ := dec_ascii l (by omega)
      obtain ⟨b, hb, e⟩ := at0_mem (l.take (sizeL l)) 0 (by rw [hlen]; omega)
      rw [at0_take l _ 0 (by omega), e1] at e
      have := hall b hb
      omega
    rw [if_neg h5, if_pos rfl]
theorem esc_piece (attr : Bool) (q : Nat) (hq : q = 60 ∨ q = 34 ∨ q = 39) (l : Bytes) (hne : l ≠ []) (hs : sizeL l ≠ 0) (hz : hasAnyB (l.take (sizeL l)) [0, 13] = false) :
    Piece attr q (replOne escTab 63 true l) (l.take (sizeL l)) := by
  have hkeep : (decL l).1 ≠ 38 ∧ (decL l).1 ≠ 34 ∧ (decL l).1 ≠ 39 ∧ (decL l).1 ≠ 60 → Piece attr q (l.take (sizeL l)) (l.take (sizeL l)) := fun h =>
    keep_char attr q l hne hs hz (by omega) (fun _ => by omega)
  unfold replOne
  rw [size_dec l hs]
  split
  · rename_i h63
    obtain ⟨e1, e2⟩ := dec_ascii l (by omega)
    rw [size_dec l hs] at e2
    have hone : l.take (sizeL l) = [UInt8.ofNat (decL l).1] := by
      rw [e2, ← e1]
      match l, hne with
      | b :: t, _ => simp [at0]
    split
    · rename_i hT
      refine hkeep ?_
      refine ⟨?_, ?_, ?_, ?_⟩ <;> (intro h; rw [h] at hT; revert hT; decide)
    · rename_i hT
      rw [hone]
      have hz0 : (decL l).1 ≠ 0 := by
        intro h
        have := hasAny_mem hz (b := UInt8.ofNat (decL l).1) (by rw [hone]; simp)
        rw [h] at this
        exact this.1 rfl
      have hcs : (decL l).1 = 34 ∨ (decL l).1 = 38 ∨ (decL l).1 = 39 ∨ (decL l).1 = 60 ∨ (decL l).1 = 62 := by
        unfold escTab at hT
        revert hT
        rw [if_neg hz0]
        repeat' split
        all_goals simp_all
      rcases hcs with h | h | h | h | h <;> rw [h]
      · exact piece_num2 attr q 51 52 34 (by decide) (by decide) (by decide) (by decide) (by rcases hq with rfl | rfl | rfl <;> decide)
      · exact piece_amp attr q (by rcases hq with rfl | rfl | rfl <;> decide)
      · exact piece_num2 attr q 51 57 39 (by decide) (by decide) (by decide) (by decide) (by rcases hq with rfl | rfl | rfl <;> decide)
      · exact piece_lt attr q (by rcases hq with rfl | rfl | rfl <;> decide)
      · exact piece_gt attr q (by rcases hq with rfl | rfl | rfl <;> decide)
  · rename_i h63
    rw [if_pos rfl]
    exact hkeep (by omega)
/-- THE LAW OF ESCAPED TEXTS. -/
theorem esc_reads (attr : Bool) (q : Nat) (hq : q = 60 ∨ q = 34 ∨ q = 39) (l : Bytes) (hl : plainL l = true) : readL (escL l) q attr = (l, true) := by
  have hv : validL l = true := by
    unfold plainL at hl
    rw [Bool.and_eq_true] at hl; exact hl.1
  rw [escL_repl l hv]
  exact repl_reads escTab 63 true attr q (fun l h1 h2 h3 => esc_piece attr q hq l h1 h2 h3) l hl
/-- A text with none of the special bytes is itself. -/
def escSet : Bytes := [39, 34, 38, 60, 62, 0]
theorem escL_none (l : Bytes) (h : hasAnyB l escSet = false) : escL l = l := by
  induction l with
  | nil => rfl
  | cons b t ih =>
    have h1 : hasB escSet b.toNat = false ∧ hasAnyB t escSet = false := by
      simpa [hasAnyB] using h
    show escByte b ++ escL t = _
    rw [ih h1.2]
    have h2 : escTab b.toNat = [] := by
      have h3 := h1.1
      unfold hasB escSet at h3
      simp at h3
      unfold escTab
      rw [if_neg (by omega), if_neg (by omega), if_neg (by omega), if_neg (by omega), if_neg (by omega), if_neg (by omega)]
    unfold escByte
    rw [if_pos h2]; rfl
end Go.Proofs.Ythhmccdjhcfggaa
