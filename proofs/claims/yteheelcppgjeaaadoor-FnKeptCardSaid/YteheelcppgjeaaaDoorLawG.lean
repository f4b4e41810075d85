/- Plain laws: HTML kept in a quoted attribute value has the value that it has itself. -/
import Derived.Test.YteheelcppgjeaaaDoorLawF
namespace Go.Proofs.YteheelcppgjeaaaDoor
set_option linter.unusedVariables false
set_option linter.unusedSimpArgs false

theorem bytesR_congr (T U : Nat → Bytes) (n : Nat) (l : Bytes) (h : ∀ b ∈ l, byteR T n b = byteR U n b) : bytesR T n l = bytesR U n l := by
  induction l with
  | nil => rfl
  | cons b l ih => rw [bytesR_cons, bytesR_cons, h b List.mem_cons_self, ih (fun y hy => h y (List.mem_cons_of_mem _ hy))]
def Writes (T : Nat → Bytes) (n : Nat) (attr : Bool) (q : Nat) : Prop :=
  ∀ b : UInt8, (byteR T n b = [b] ∧ b.toNat ≠ q) ∨ Piece attr q (byteR T n b) [b]
theorem unesc_bytes {T : Nat → Bytes} {n : Nat} (attr : Bool) (q : Nat) (hT : Turns T n) (hW : Writes T n attr q) (l : Bytes) : unescL (bytesR T n l) attr = unescL l attr := by
  generalize hn : l.length = m
  induction m using Nat.strongRecOn generalizing l with
  | _ m ih =>
    cases l with
    | nil => rfl
    | cons b t =>
      have ht := ih t.length (by rw [← hn]; simp) t rfl
      rw [bytesR_cons]
      by_cases hb : b.toNat = 38
      · have hb' : b = 38 := UInt8.toNat_inj.1 hb
        subst hb'
        rw [keep_38 hT 38 rfl]
        show unescL (38 :: bytesR T n t) attr = _
        obtain ⟨h1, h2⟩ := ref_bytes hT t attr
        by_cases hok : (referenceL (38 :: t) attr).2.2 = true
        · have hk := h2 hok
          rw [unescL_ref 38 t attr rfl hok, unescL_ref 38 (bytesR T n t) attr rfl (by rw [h1]; exact hok), h1]
          have hle := reference_le (38 :: t) attr hok
          congr 1
          have e1 : (38 :: bytesR T n t).drop (referenceL (38 :: t) attr).2.1 = bytesR T n ((38 :: t).drop (referenceL (38 :: t) attr).2.1) := by
            have e2 : 38 :: bytesR T n t = bytesR T n (38 :: t) := by rw [bytesR_cons, keep_38 hT 38 rfl]; rfl
            have e3 : bytesR T n (38 :: t) = (38 :: t).take (referenceL (38 :: t) attr).2.1 ++ bytesR T n ((38 :: t).drop (referenceL (38 :: t) attr).2.1) := by
              conv => lhs; rw [← List.take_append_drop (referenceL (38 :: t) attr).2.1 (38 :: t), bytesR_app, bytesR_keep T n _ hk]
            rw [e2, e3]
            exact List.drop_left' (by rw [List.length_take]; omega)
          rw [e1]
          exact ih _ (by rw [List.length_drop, ← hn]; omega) _ rfl
        · rw [unescL_byte 38 t attr (fun h => hok h.2), unescL_byte 38 (bytesR T n t) attr (fun h => hok (by rw [← h1]; exact h.2)), ht]
      · rw [unescL_byte b t attr (fun h => hb h.1)]
        rcases hW b with ⟨h, _⟩ | h
        · rw [h]
          show unescL (b :: bytesR T n t) attr = _
          rw [unescL_byte b _ attr (fun h => hb h.1), ht]
        · rw [h.un, ht]; rfl
theorem known_bytes {T : Nat → Bytes} {n : Nat} (attr : Bool) (q : Nat) (hT : Turns T n) (hW : Writes T n attr q) : ∀ l : Bytes, knownL (bytesR T n l) = knownL l
  | [] => rfl
  | b :: t => by
    have ih := known_bytes attr q hT hW t
    have e : ∀ (c : UInt8) (y : Bytes), knownL (c :: y) = ((c.toNat != 38 || knownAt y) && knownL y) := fun _ _ => rfl
    rw [bytesR_cons, e]
    by_cases hb : b.toNat = 38
    · rw [keep_38 hT b hb]
      show knownL (b :: bytesR T n t) = _
      rw [e, ih, known_at_bytes hT]
    · have hne : (b.toNat != 38) = true := by simpa using hb
      rcases hW b with ⟨h, _⟩ | h
      · rw [h]
        show knownL (b :: bytesR T n t) = _
        rw [e, ih, hne]; rfl
      · rw [h.kn, ih, hne]; rfl
theorem valid_bytes {T : Nat → Bytes} {n : Nat} (attr : Bool) (q : Nat) (hn : n ≤ 128) (hW : Writes T n attr q) (l : Bytes) (h : validL l = true) : validL (bytesR T n l) = true := by
  refine valid_ind (P := fun l => validL (bytesR T n l) = true) rfl ?_ l h
  intro l hne hs hv ih
  obtain ⟨hc, hlen⟩ := isChar_take l hne hs
  rw [← List.take_append_drop (sizeL l) l, bytesR_app]
  rcases hc.bytes with ⟨x, hx, hx1⟩ | hall
  · rw [hx]
    show validL ((byteR T n x ++ []) ++ _) = true
    rw [List.append_nil]
    rcases hW x with ⟨h, _⟩ | h
    · rw [h, validL_char [x] _ (isChar_ascii x hx1)]; exact ih
    · rw [h.va]; exact ih
  · rw [bytesR_keep T n _ (fun b hb => by unfold byteR; rw [if_neg (by have := hall b hb; omega)]), validL_char _ _ hc]; exact ih
theorem none_of {T : Nat → Bytes} {n : Nat} (attr : Bool) (q : Nat) (hW : Writes T n attr q) (l : Bytes) (h : hasAnyB l [0, 13] = false) : hasB (bytesR T n l) q = false ∧ hasAnyB (bytesR T n l) [0, 13] = false := by
  induction l with
  | nil => exact ⟨rfl, rfl⟩
  | cons b t ih =>
    have h' : hasAnyB [b] [0, 13] = false ∧ hasAnyB t [0, 13] = false := by
      rw [← Bool.or_eq_false_iff, ← hasAnyB_app]; exact h
    have i := ih h'.2
    rw [bytesR_cons, hasB_app, hasAnyB_app, i.1, i.2]
    rcases hW b with ⟨e, e2⟩ | e
    · rw [e, h'.1]
      simp [hasB, e2]
    · rw [e.not.1, e.not.2]; exact ⟨rfl, rfl⟩
theorem kept_reads {T : Nat → Bytes} {n : Nat} (attr : Bool) (q : Nat) (hn : n ≤ 128) (hT : Turns T n) (hW : Writes T n attr q) (l : Bytes) (hv : validL l = true) (hk : knownL l = true) (hz : hasAnyB l [0, 13] = false) :
    readL (bytesR T n l) q attr = (unescL l attr, true) := by
  have h1 := none_of attr q hW l hz
  have hb : readBad (bytesR T n l) q = false := by
    unfold readBad
    rw [h1.1, h1.2, valid_bytes attr q hn hW l hv, known_bytes attr q hT hW l, hk]; rfl
  unfold readL
  rw [hb, unesc_bytes attr q hT hW l]; rfl

/-! ### the package's table -/
def normTab (r : Nat) : Bytes :=
  if r = 0 then [239, 191, 189] else if r = 34 then [38, 35, 51, 52, 59] else if r = 39 then [38, 35, 51, 57, 59]
  else if r = 43 then [38, 35, 52, 51, 59] else if r = 60 then [38, 108, 116, 59] else if r = 62 then [38, 103, 116, 59] else []
def normTab0 (r : Nat) : Bytes := if r = 0 then [] else normTab r
def keptL (l : Bytes) : Bytes := replL normTab 63 true l
theorem norm_cases (b : UInt8) : byteR normTab0 63 b = [b] ∧ b.toNat ≠ 34 ∧ b.toNat ≠ 39 ∨ b.toNat = 34 ∨ b.toNat = 39 ∨ b.toNat = 43 ∨ b.toNat = 60 ∨ b.toNat = 62 := by
  by_cases h1 : b.toNat = 34
  · exact .inr (.inl h1)
  by_cases h2 : b.toNat = 39
  · exact .inr (.inr (.inl h2))
  by_cases h3 : b.toNat = 43
  · exact .inr (.inr (.inr (.inl h3)))
  by_cases h4 : b.toNat = 60
  · exact .inr (.inr (.inr (.inr (.inl h4))))
  by_cases h5 : b.toNat = 62
  · exact .inr (.inr (.inr (.inr (.inr h5))))
  · left
    refine ⟨?_, h1, h2⟩
    have e : normTab0 b.toNat = [] := by
      unfold normTab0 normTab
      rw [if_neg h1, if_neg h2, if_neg h3, if_neg h4, if_neg h5]
      repeat' split
      all_goals rfl
    unfold byteR
    rw [e]
    split <;> rfl
theorem norm_turns : Turns normTab0 63 := by
  intro b
  rcases norm_cases b with h | h | h | h | h | h
  · exact .inl h.1
  all_goals
    right
    unfold byteR
    rw [h]
    exact ⟨by decide, by decide, by decide, by decide, by decide, _, rfl⟩
theorem norm_writes (attr : Bool) (q : Nat) (hq : q = 34 ∨ q = 39) : Writes normTab0 63 attr q := by
  intro b
  rcases norm_cases b with h | h | h | h | h | h
  · exact .inl ⟨h.1, by omega⟩
  all_goals
    right
    have hb : b = UInt8.ofNat b.toNat := by simp
    rw [hb, h]
  · exact piece_num2 attr q 51 52 34 (by decide) (by decide) (by decide) (by decide) (by rcases hq with rfl | rfl <;> decide)
  · exact piece_num2 attr q 51 57 39 (by decide) (by decide) (by decide) (by decide) (by rcases hq with rfl | rfl <;> decide)
  · exact piece_num2 attr q 52 51 43 (by decide) (by decide) (by decide) (by decide) (by rcases hq with rfl | rfl <;> decide)
  · exact piece_lt attr q (by rcases hq with rfl | rfl <;> decide)
  · exact piece_gt attr q (by rcases hq with rfl | rfl <;> decide)
/-- THE LAW OF WHAT IS KEPT. -/
theorem keptL_reads (q : Nat) (hq : q = 34 ∨ q = 39) (l want : Bytes) (h : readL l 0 true = (want, true)) : readL (keptL l) q true = (want, true) := by
  unfold readL at h
  by_cases hb : readBad l 0 = true
  · rw [if_pos hb] at h; cases h
  rw [if_neg hb] at h
  have hw : unescL l true = want := by injection h
  have hb' : readBad l 0 = false := by simpa using hb
  unfold readBad at hb'
  simp only [Bool.or_eq_false_iff, Bool.not_eq_false'] at hb'
  obtain ⟨⟨⟨h0, hv⟩, hk⟩, hz⟩ := hb'
  have e : keptL l = bytesR normTab0 63 l := by
    unfold keptL
    rw [replL_bytes normTab 63 (by omega) l hv]
    refine bytesR_congr _ _ _ _ fun b hb => ?_
    have := (hasAny_mem hz hb).1
    unfold byteR normTab0
    rw [if_neg this]
  rw [e, kept_reads true q (by omega) norm_turns (norm_writes true q hq) l hv hk hz, hw]
end Go.Proofs.YteheelcppgjeaaaDoor
