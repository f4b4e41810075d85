/- Plain law: a text ends with a word of CSS when its last identifier is this word. -/
import Derived.Test.YtigobehhmodoiaaDoorLawE2
import Derived.Test.YtigobehhmodoiaaDoorNmc
import Derived.Test.YtigobehhmodoiaaDoorLawN
namespace Go.Proofs.YtigobehhmodoiaaDoor
open Go.RowKit
set_option linter.unusedVariables false
set_option linter.unusedSimpArgs false

theorem nm_of (r : Nat) (h : (128 ≤ r ∧ r ≤ 55295) ∨ (57344 ≤ r ∧ r ≤ 65533) ∨ (65536 ≤ r ∧ r ≤ 1114111)) : nmR r = true := by
  unfold nmR
  rcases h with ⟨h1, h2⟩ | ⟨h1, h2⟩ | ⟨h1, h2⟩ <;> simp [h1, h2]
theorem dec_nm (n b0 b1 b2 b3 : Nat) (h0 : 128 ≤ b0) (h0' : b0 < 256) : nmR (Lib.decodeN n b0 b1 b2 b3).1 = true ∨ ((Lib.decodeN n b0 b1 b2 b3).2 = 3 ∧ b0 = 239 ∧ b1 = 191 ∧ (b2 = 190 ∨ b2 = 191)) := by
  unfold Lib.decodeN
  rw [if_neg (by omega)]
  by_cases c2 : b0 / 32 = 6 ∧ (1 < n ∧ b1 / 64 = 2)
  · rw [if_pos c2]
    split
    · exact .inl (nm_of _ (by simp only []; omega))
    · exact .inl (by decide)
  · rw [if_neg c2]
    by_cases c3 : b0 / 16 = 14 ∧ (1 < n ∧ b1 / 64 = 2) ∧ (2 < n ∧ b2 / 64 = 2)
    · rw [if_pos c3]
      split
      · rename_i h
        by_cases hx : b0 % 16 * 4096 + b1 % 64 * 64 + b2 % 64 ≤ 65533
        · exact .inl (nm_of _ (by simp only []; omega))
        · exact .inr ⟨rfl, by omega, by omega, by omega⟩
      · exact .inl (by decide)
    · rw [if_neg c3]
      split
      · split
        · rename_i h
          exact .inl (nm_of _ (by simp only []; omega))
        · exact .inl (by decide)
      · exact .inl (by decide)
theorem last_small (u : Bytes) (h0 : u ≠ []) (h : at0 u (u.length - 1) < 128) : Lib.decodeLastL u = (at0 u (u.length - 1), 1) := by
  unfold Lib.decodeLastL
  unfold at0 at h ⊢
  rw [if_neg h0, if_pos h]
theorem last_nm (u : Bytes) (h0 : u ≠ []) (h : 128 ≤ at0 u (u.length - 1)) : nmR (Lib.decodeLastL u).1 = true ∨ ∃ x, u = x ++ [239, 191, 190] ∨ u = x ++ [239, 191, 191] := by
  unfold Lib.decodeLastL
  rw [if_neg h0, if_neg (by unfold at0 at h; omega)]
  simp only []
  obtain ⟨q, hq⟩ : ∃ q, Lib.lastStart u = q := ⟨_, rfl⟩
  rw [hq]
  split
  · rename_i hd
    have hw := Lib.decodeL_width (u.drop q)
    have hat : ∀ i, at0 (u.drop q) i = at0 u (q + i) := by
      intro i
      unfold at0; simp [List.getD_eq_getElem?_getD]
    by_cases hb : at0 (u.drop q) 0 < 128
    · exfalso
      have e : Lib.decodeL (u.drop q) = (at0 (u.drop q) 0, 1) := by
        rw [decodeL_dec]; unfold decL Lib.decodeN; rw [if_pos hb]
      rw [e] at hd
      have : u.length - 1 = q + 0 := by simp at hd; omega
      rw [hat 0, ← this] at hb
      omega
    · have hlt := at0_lt (u.drop q) 0
      rcases dec_nm (u.drop q).length (at0 (u.drop q) 0) (at0 (u.drop q) 1) (at0 (u.drop q) 2) (at0 (u.drop q) 3) (by omega) hlt with h1 | ⟨h1, h2, h3, h4⟩
      · rw [decodeL_dec]
        exact .inl h1
      · right
        rw [decodeL_dec] at hd
        have hl3 : (u.drop q).length = 3 := by
          rw [List.length_drop]
          have : (decL (u.drop q)).2 = 3 := h1
          omega
        refine ⟨u.take q, ?_⟩
        have hsp : u = u.take q ++ u.drop q := (List.take_append_drop q u).symm
        match hm : u.drop q, hl3 with
        | [x, y, z], _ =>
          rw [hm] at h2 h3 h4
          have e1 : x = 239 := UInt8.toNat_inj.1 h2
          have e2 : y = 191 := UInt8.toNat_inj.1 h3
          rw [hm, e1, e2] at hsp
          rcases h4 with h4 | h4
          · have e3 : z = 190 := UInt8.toNat_inj.1 h4
            rw [e3] at hsp
            exact .inl hsp
          · have e3 : z = 191 := UInt8.toNat_inj.1 h4
            rw [e3] at hsp
            exact .inr hsp
  · exact .inl (by decide)
theorem idx_some (m y : Bytes) : ∀ x : Bytes, (idxL m (x ++ (m ++ y))).isSome = true
  | [] => by rw [List.nil_append, idxL_here _ _ (by rw [List.isPrefixOf_iff_prefix]; exact ⟨y, rfl⟩)]; rfl
  | b :: x => by
    cases e : m.isPrefixOf (b :: (x ++ (m ++ y)))
    · rw [List.cons_append, idxL_next _ _ _ e, Option.isSome_map]; exact idx_some m y x
    · rw [List.cons_append, idxL_here _ _ e]; rfl

/-! ### the law -/
def identB (c : Nat) : Bool := isAlnumB c || decide (c = 45) || decide (c = 95) || decide (128 ≤ c)
/-- From place k on the last identifier stands. -/
def IsLast (l : Bytes) (k : Nat) : Prop := k ≤ l.length ∧ (∀ i, k ≤ i → i < l.length → identB (at0 l i) = true) ∧ (k = 0 ∨ identB (at0 l (k - 1)) = false)
def endsL (l kw : Bytes) : Bool := decide (kw.length ≤ l.length) && (decide (l.length - kw.length = 0) || !nmR (Lib.decodeLastL (l.take (l.length - kw.length))).1) && (Lib.toLowerD (l.drop (l.length - kw.length)) == kw)
set_option maxRecDepth 100000 in
theorem low_alnum (x : UInt8) (h : isAlnumB (Lib.lowerB x).toNat = true) : isAlnumB x.toNat = true := by
  revert h
  have : ∀ n : Fin 256, isAlnumB (Lib.lowerB (UInt8.ofNat n.val)).toNat = true → isAlnumB (UInt8.ofNat n.val).toNat = true := by decide
  have h2 := this ⟨x.toNat, x.toNat_lt⟩
  simpa using h2
theorem alnum_small (c : Nat) (h : isAlnumB c = true) : c < 128 := by
  unfold isAlnumB isAlphaB at h
  simp at h
  omega
theorem nm_ident (c : Nat) (h : c < 128) : nmR c = identB c := by
  unfold nmR identB
  cases isAlnumB c
  · rw [Bool.eq_iff_iff]
    simp
    omega
  · simp
theorem take_last (l : Bytes) (i : Nat) (h0 : 0 < i) (h : i ≤ l.length) : l.take i ≠ [] ∧ at0 (l.take i) ((l.take i).length - 1) = at0 l (i - 1) := by
  have hl : (l.take i).length = i := by rw [List.length_take]; omega
  refine ⟨fun e => by rw [e] at hl; simp at hl; omega, ?_⟩
  rw [hl, at0_take _ _ _ (by omega)]
theorem ends_law (l kw : Bytes) (k : Nat) (hk : IsLast l k) (hw : ∀ x ∈ kw, isAlnumB x.toNat = true) (h1 : (idxL [239, 191, 190] l).isSome = false) (h2 : (idxL [239, 191, 191] l).isSome = false) :
    endsL l kw = (Lib.toLowerA (l.drop k) == kw) := by
  obtain ⟨hk1, hk2, hk3⟩ := hk
  have hkw : ∀ x ∈ kw, x.toNat < 128 := fun x hx => alnum_small _ (hw x hx)
  rw [Bool.eq_iff_iff]
  unfold endsL
  simp only [Bool.and_eq_true, Bool.or_eq_true, decide_eq_true_eq, beq_iff_eq, Bool.not_eq_true']
  constructor
  · rintro ⟨⟨g1, g2⟩, g3⟩
    obtain ⟨i, hi⟩ : ∃ i, l.length - kw.length = i := ⟨_, rfl⟩
    rw [hi] at g2 g3
    have hlen : kw.length = (l.drop i).length := by rw [List.length_drop]; omega
    have hsm : ∀ x ∈ l.drop i, x.toNat < 128 := by
      intro x hx
      rcases Nat.lt_or_ge x.toNat 128 with h | h
      · exact h
      · exact absurd g3 (low_ne _ _ hkw hlen ⟨x, hx, h⟩)
    rw [Lib.toLowerD_ascii _ hsm] at g3
    have hal : ∀ j, i ≤ j → j < l.length → isAlnumB (at0 l j) = true := by
      intro j hj hjl
      obtain ⟨x, hx, hx2⟩ : ∃ x ∈ l.drop i, x.toNat = at0 l j := by
        refine ⟨l[j], ?_, ?_⟩
        · rw [List.mem_iff_getElem]
          exact ⟨j - i, by rw [List.length_drop]; omega, by rw [List.getElem_drop]; congr 1; omega⟩
        · unfold at0; rw [List.getD_eq_getElem?_getD, List.getElem?_eq_getElem hjl]; rfl
      rw [← hx2]
      refine low_alnum x (hw _ ?_)
      rw [← g3]
      unfold Lib.toLowerA
      exact List.mem_map_of_mem hx
    have hid : ∀ c, isAlnumB c = true → identB c = true := fun c h => by unfold identB; rw [h]; rfl
    have e : k = i := by
      rcases Nat.lt_trichotomy k i with h | h | h
      · exfalso
        have hidx := hk2 (i - 1) (by omega) (by omega)
        obtain ⟨t1, t2⟩ := take_last l i (by omega) (by omega)
        rcases g2 with g2 | g2
        · omega
        · rcases Nat.lt_or_ge (at0 l (i - 1)) 128 with hb | hb
          · rw [last_small _ t1 (by rw [t2]; exact hb), t2] at g2
            simp only [] at g2
            rw [nm_ident _ hb, hidx] at g2
            cases g2
          · rcases last_nm _ t1 (by rw [t2]; exact hb) with hn | ⟨x, hx | hx⟩
            · rw [hn] at g2; cases g2
            · have := idx_some [239, 191, 190] (l.drop i) x
              rw [← List.append_assoc, ← hx, List.take_append_drop, h1] at this
              cases this
            · have := idx_some [239, 191, 191] (l.drop i) x
              rw [← List.append_assoc, ← hx, List.take_append_drop, h2] at this
              cases this
      · exact h
      · exfalso
        rcases hk3 with h3 | h3
        · omega
        · rw [hid _ (hal (k - 1) (by omega) (by omega))] at h3; cases h3
    rw [e]; exact g3
  · intro g
    have hlen : l.length - k = kw.length := by
      have := congrArg List.length g
      simpa [Lib.toLowerA] using this
    have e : l.length - kw.length = k := by omega
    rw [e]
    have hsm : ∀ x ∈ l.drop k, x.toNat < 128 := by
      intro x hx
      refine alnum_small _ (low_alnum x (hw _ ?_))
      rw [← g]
      unfold Lib.toLowerA
      exact List.mem_map_of_mem hx
    refine ⟨⟨by omega, ?_⟩, by rw [Lib.toLowerD_ascii _ hsm]; exact g⟩
    rcases hk3 with h3 | h3
    · exact .inl h3
    · rcases Nat.eq_zero_or_pos k with hz | hz
      · exact .inl hz
      · right
        obtain ⟨t1, t2⟩ := take_last l k hz hk1
        have hb : at0 l (k - 1) < 128 := by
          rcases Nat.lt_or_ge (at0 l (k - 1)) 128 with hb | hb
          · exact hb
          · unfold identB at h3; simp at h3; omega
        rw [last_small _ t1 (by rw [t2]; exact hb), t2]
        simp only []
        rw [nm_ident _ hb]; exact h3
theorem ends_word (l kw : Bytes) (hw : ∀ x ∈ kw, isAlnumB x.toNat = true) (hl : Lib.toLowerA kw = kw) : endsL (l ++ [32] ++ kw) kw = true := by
  have e : (l ++ [32] ++ kw).length - kw.length = (l ++ [32]).length := by rw [List.length_append, Nat.add_sub_cancel]
  unfold endsL
  rw [e, List.take_left', List.drop_left', Lib.toLowerD_ascii kw (fun x hx => alnum_small _ (hw x hx)), hl]
  · have h1 : l ++ [(32 : UInt8)] ≠ [] := by simp
    have h2 : at0 (l ++ [(32 : UInt8)]) ((l ++ [(32 : UInt8)]).length - 1) = 32 := by
      unfold at0; simp [List.getD_eq_getElem?_getD]
    rw [last_small _ h1 (by rw [h2]; decide), h2]
    simp [show nmR 32 = false from by decide]
    try omega
  · rfl
  · rfl
end Go.Proofs.YtigobehhmodoiaaDoor
