/- Plain laws: a reference, and a whole text, behind a replacer that turns no byte of references. -/
import Derived.Test.YteheelcppgjeaaaDoorLawE
namespace Go.Proofs.YteheelcppgjeaaaDoor
set_option linter.unusedVariables false
set_option linter.unusedSimpArgs false

theorem keep_35 {T : Nat → Bytes} {n : Nat} (hT : Turns T n) (b : UInt8) (h : b.toNat = 35) : byteR T n b = [b] := by
  rcases hT b with h' | ⟨_, h1, _⟩
  · exact h'
  · exact absurd h h1
theorem keep_59 {T : Nat → Bytes} {n : Nat} (hT : Turns T n) (b : UInt8) (h : b.toNat = 59) : byteR T n b = [b] := by
  rcases hT b with h' | ⟨_, _, h1, _⟩
  · exact h'
  · exact absurd h h1
theorem keep_38 {T : Nat → Bytes} {n : Nat} (hT : Turns T n) (b : UInt8) (h : b.toNat = 38) : byteR T n b = [b] := by
  rcases hT b with h' | ⟨_, _, _, _, h1, _⟩
  · exact h'
  · exact absurd h h1

def numX (t : Bytes) : Bool := decide (1 < t.length) && (at0 t 1 == 120 || at0 t 1 == 88)
theorem numX_iff (t : Bytes) : (2 < (38 :: t).length ∧ (at0 (38 :: t) 2 = 120 ∨ at0 (38 :: t) 2 = 88)) ↔ numX t = true := by
  unfold numX
  rw [at0_cons_succ]
  simp
  intro _; omega
theorem numBase_x (t : Bytes) : numBase (38 :: t) = if numX t = true then 16 else 10 := by
  unfold numBase
  by_cases h : numX t = true
  · rw [if_pos h, if_pos ((numX_iff t).2 h)]
  · rw [if_neg h, if_neg (fun h' => h ((numX_iff t).1 h'))]
theorem numFirst_x (t : Bytes) : numFirst (38 :: t) = if numX t = true then 3 else 2 := by
  unfold numFirst
  by_cases h : numX t = true
  · rw [if_pos h, if_pos ((numX_iff t).2 h)]
  · rw [if_neg h, if_neg (fun h' => h ((numX_iff t).1 h'))]
theorem numX_bytes {T : Nat → Bytes} {n : Nat} (hT : Turns T n) (c : UInt8) (hc : c.toNat = 35) (u : Bytes) : numX (bytesR T n (c :: u)) = numX (c :: u) :=
  test_at hT (fun k => k == 120 || k == 88) (by decide) (fun b h1 _ _ _ _ => by
    have h2 : b.toNat ≠ 120 := fun e => by rw [e] at h1; revert h1; decide
    have h3 : b.toNat ≠ 88 := fun e => by rw [e] at h1; revert h1; decide
    simp [h2, h3]) [c] u (fun b hb => by
      have : b = c := by simpa using hb
      rw [this]; exact keep_35 hT c hc)

/-- A numeric reference, taken apart: the bytes ahead of the digits, the digits, what follows. -/
structure NumApart (t h d r : Bytes) : Prop where
  eq : t = h ++ (d ++ r)
  head : ∀ b ∈ h, b.toNat = 35 ∨ isAlnumB b.toNat = true
  digits : ∀ b ∈ d, isAlnumB b.toNat = true
  first : numFirst (38 :: t) = h.length + 1
  go : (numGo (numBase (38 :: t)) (d ++ r) 0 (numFirst (38 :: t))).2 = h.length + 1 + d.length
theorem num_base_le (l : Bytes) : numBase l ≤ 16 := by unfold numBase; split <;> omega
theorem apart_of (t h v : Bytes) (hv : t = h ++ v) (hh : ∀ b ∈ h, b.toNat = 35 ∨ isAlnumB b.toNat = true) (hf : numFirst (38 :: t) = h.length + 1) : ∃ h d r, NumApart t h d r := by
  obtain ⟨d, r, h1, h2, h3⟩ := num_split (numBase (38 :: t)) v 0 (numFirst (38 :: t))
  exact ⟨h, d, r, by rw [hv, h1], hh, fun b hb => digit_alnum b _ (num_base_le _) (h2 b hb), hf, by rw [← h1, h3, hf]⟩
theorem numeric_apart (c : UInt8) (hc : c.toNat = 35) (u : Bytes) : ∃ h d r, NumApart (c :: u) h d r := by
  by_cases hx : numX (c :: u) = true
  · match u, hx with
    | [], hx => simp [numX] at hx
    | e :: v, hx =>
      refine apart_of _ [c, e] v rfl ?_ (by rw [numFirst_x, if_pos hx]; rfl)
      intro b hb
      simp only [List.mem_cons, List.not_mem_nil, or_false] at hb
      rcases hb with rfl | rfl
      · exact .inl hc
      · right
        have h2 := (Bool.and_eq_true_iff.1 hx).2
        simp [at0] at h2
        rcases h2 with h2 | h2 <;> rw [h2] <;> decide
  · refine apart_of _ [c] u rfl ?_ (by rw [numFirst_x, if_neg hx]; rfl)
    intro b hb
    simp only [List.mem_cons, List.not_mem_nil, or_false] at hb
    rw [hb]; exact .inl hc
theorem numeric_bytes {T : Nat → Bytes} {n : Nat} (hT : Turns T n) (c : UInt8) (hc : c.toNat = 35) (u : Bytes) :
    numericL (38 :: bytesR T n (c :: u)) = numericL (38 :: c :: u) ∧ ((numericL (38 :: c :: u)).2.2 = true → ∀ b ∈ (38 :: c :: u).take (numericL (38 :: c :: u)).2.1, byteR T n b = [b]) := by
  obtain ⟨h, d, r, ha⟩ := numeric_apart c hc u
  have hh : ∀ b ∈ h, byteR T n b = [b] := fun b hb => by
    rcases ha.head b hb with e | e
    · exact keep_35 hT b e
    · exact keep_alnum hT b e
  have hd : ∀ b ∈ d, byteR T n b = [b] := fun b hb => keep_alnum hT b (ha.digits b hb)
  have hhd : ∀ b ∈ h ++ d, byteR T n b = [b] := fun b hb => by
    rcases List.mem_append.1 hb with hb | hb
    · exact hh b hb
    · exact hd b hb
  have eB : numBase (38 :: bytesR T n (c :: u)) = numBase (38 :: c :: u) := by rw [numBase_x, numBase_x, numX_bytes hT c hc]
  have eF : numFirst (38 :: bytesR T n (c :: u)) = numFirst (38 :: c :: u) := by rw [numFirst_x, numFirst_x, numX_bytes hT c hc]
  have eb : bytesR T n (c :: u) = h ++ bytesR T n (d ++ r) := by rw [ha.eq, bytesR_app, bytesR_keep T n h hh]
  have d1 : (38 :: c :: u).drop (numFirst (38 :: c :: u)) = d ++ r := by rw [ha.first, List.drop_succ_cons, ha.eq, List.drop_left]
  have d2 : (38 :: bytesR T n (c :: u)).drop (numFirst (38 :: c :: u)) = bytesR T n (d ++ r) := by rw [ha.first, List.drop_succ_cons, eb, List.drop_left]
  have eg : numGo (numBase (38 :: c :: u)) (bytesR T n (d ++ r)) 0 (numFirst (38 :: c :: u)) = numGo (numBase (38 :: c :: u)) (d ++ r) 0 (numFirst (38 :: c :: u)) := num_bytes hT _ (num_base_le _) _ _ _
  have hgo := ha.go
  obtain ⟨p, hp⟩ : ∃ p, numGo (numBase (38 :: c :: u)) (d ++ r) 0 (numFirst (38 :: c :: u)) = p := ⟨_, rfl⟩
  rw [hp] at hgo
  have hsemi : (p.2 < (38 :: bytesR T n (c :: u)).length ∧ at0 (38 :: bytesR T n (c :: u)) p.2 = 59) = (p.2 < (38 :: c :: u).length ∧ at0 (38 :: c :: u) p.2 = 59) := by
    have e := test_at hT (fun k => k == 59) (by decide) (fun b _ _ h _ _ => by simpa using h) (h ++ d) r hhd
    have e2 : c :: u = (h ++ d) ++ r := by rw [ha.eq, List.append_assoc]
    rw [← e2] at e
    have e3 : p.2 = (h ++ d).length + 1 := by rw [hgo, List.length_append]; omega
    rw [e3, at0_cons_succ, at0_cons_succ, List.length_cons, List.length_cons]
    simp only [Nat.add_lt_add_iff_right]
    have e4 : (decide ((h ++ d).length < (bytesR T n (c :: u)).length) && decide (at0 (bytesR T n (c :: u)) (h ++ d).length = 59)) = (decide ((h ++ d).length < (c :: u).length) && decide (at0 (c :: u) (h ++ d).length = 59)) := e
    exact prop_of_bool e4
  have hn1 : numericL (38 :: c :: u) = if p.2 = numFirst (38 :: c :: u) then ([], 0, false) else (codedL (charOfN p.1), (if p.2 < (38 :: c :: u).length ∧ at0 (38 :: c :: u) p.2 = 59 then p.2 + 1 else p.2), true) := by
    unfold numericL
    rw [d1, hp]
  have hn2 : numericL (38 :: bytesR T n (c :: u)) = if p.2 = numFirst (38 :: c :: u) then ([], 0, false) else (codedL (charOfN p.1), (if p.2 < (38 :: bytesR T n (c :: u)).length ∧ at0 (38 :: bytesR T n (c :: u)) p.2 = 59 then p.2 + 1 else p.2), true) := by
    unfold numericL
    rw [eB, eF, d2, eg, hp]
  refine ⟨by rw [hn1, hn2]; simp only [hsemi], ?_⟩
  intro hok b hb
  rw [hn1] at hok hb
  by_cases c0 : p.2 = numFirst (38 :: c :: u)
  · rw [if_pos c0] at hok; cases hok
  rw [if_neg c0] at hb
  have e5 : (38 :: c :: u).take p.2 = 38 :: (h ++ d) := by
    have e3 : p.2 = (h ++ d).length + 1 := by rw [hgo, List.length_append]; omega
    rw [e3, List.take_succ_cons, ha.eq, ← List.append_assoc, List.take_left]
  have hin : ∀ b ∈ (38 :: c :: u).take p.2, byteR T n b = [b] := fun b hb => by
    rw [e5] at hb
    rcases List.mem_cons.1 hb with rfl | hb
    · exact keep_38 hT 38 rfl
    · exact hhd b hb
  by_cases c1 : p.2 < (38 :: c :: u).length ∧ at0 (38 :: c :: u) p.2 = 59
  · simp only [if_pos c1] at hb
    rw [List.take_succ_eq_append_getElem c1.1] at hb
    rcases List.mem_append.1 hb with hb | hb
    · exact hin b hb
    · have : b = (38 :: c :: u)[p.2] := by simpa using hb
      refine keep_59 hT b ?_
      rw [this, ← c1.2]
      unfold at0
      simp [List.getD_eq_getElem?_getD, List.getElem?_eq_getElem c1.1]
  · simp only [if_neg c1] at hb
    exact hin b hb

/-! ### a reference -/
theorem ref_bytes {T : Nat → Bytes} {n : Nat} (hT : Turns T n) (t : Bytes) (attr : Bool) :
    referenceL (38 :: bytesR T n t) attr = referenceL (38 :: t) attr ∧ ((referenceL (38 :: t) attr).2.2 = true → ∀ b ∈ (38 :: t).take (referenceL (38 :: t) attr).2.1, byteR T n b = [b]) := by
  rcases first_byte hT t with ⟨h1, h2⟩ | ⟨c, u, c', u', h1, h2, h3⟩
  · subst h1
    rw [h2]
    exact ⟨rfl, fun h => by unfold referenceL at h; simp at h⟩
  have hl1 : ¬ ((38 :: t).length < 2 ∨ at0 (38 :: t) 0 ≠ 38) := by rw [h1]; simp [at0]
  have hl2 : ¬ ((38 :: bytesR T n t).length < 2 ∨ at0 (38 :: bytesR T n t) 0 ≠ 38) := by rw [h2]; simp [at0]
  have e1 : at0 (38 :: t) 1 = c.toNat := by rw [h1]; simp [at0]
  have e2 : at0 (38 :: bytesR T n t) 1 = c'.toNat := by rw [h2]; simp [at0]
  by_cases hc : c.toNat = 35
  · have hcc : c' = c := by
      rcases h3 with h | ⟨_, _, h, _⟩
      · exact h
      · exact absurd hc h
    have hr1 : ∀ attr, referenceL (38 :: t) attr = numericL (38 :: t) := fun attr => by unfold referenceL; rw [if_neg hl1, if_pos (by rw [e1]; exact hc)]
    have hr2 : ∀ attr, referenceL (38 :: bytesR T n t) attr = numericL (38 :: bytesR T n t) := fun attr => by unfold referenceL; rw [if_neg hl2, if_pos (by rw [e2, hcc]; exact hc)]
    rw [hr1, hr2, h1]
    exact numeric_bytes hT c hc u
  · have hc' : c'.toNat ≠ 35 := by
      rcases h3 with h | ⟨h, _⟩
      · rw [h]; exact hc
      · rw [h]; decide
    have hlen : LenOk (38 :: t) (wordL t) (refFold (38 :: t)).2 := by
      unfold refFold
      show LenOk (38 :: t) (wordL t) (ents.foldl (refStep (38 :: t) (wordL t)) ([], 0)).2
      exact fold_len _ _ (fun k hk => semi_word t k hk) ents _ (.inl (Nat.zero_le _))
    have hr1 : referenceL (38 :: t) attr = if refNone (38 :: t) attr (refFold (38 :: t)).2 = true then ([], 0, false) else ((refFold (38 :: t)).1, (refFold (38 :: t)).2, true) := by
      conv => lhs; unfold referenceL
      rw [if_neg hl1, if_neg (by rw [e1]; exact hc)]
    have hr2 : referenceL (38 :: bytesR T n t) attr = if refNone (38 :: t) attr (refFold (38 :: t)).2 = true then ([], 0, false) else ((refFold (38 :: t)).1, (refFold (38 :: t)).2, true) := by
      conv => lhs; unfold referenceL
      rw [if_neg hl2, if_neg (by rw [e2]; exact hc'), fold_bytes hT, none_bytes hT t attr _ hlen]
    refine ⟨by rw [hr1, hr2], ?_⟩
    intro hok b hb
    rw [hr1] at hok hb
    by_cases c0 : refNone (38 :: t) attr (refFold (38 :: t)).2 = true
    · rw [if_pos c0] at hok; cases hok
    rw [if_neg c0] at hb
    obtain ⟨i, hi, e⟩ := mem_at0 _ b hb
    rw [List.length_take] at hi
    rw [at0_take _ _ _ (by omega)] at e
    cases i with
    | zero => exact keep_38 hT b (by rw [← e]; rfl)
    | succ j =>
      rw [at0_cons_succ] at e
      rcases Nat.lt_or_ge j (wordL t).length with hj | hj
      · exact keep_alnum hT b (by rw [← e]; exact at0_word t j hj)
      · rcases hlen with h | ⟨h, hs⟩
        · have : (refFold (38 :: t)).2 ≤ j + 1 := by omega
          have hi2 : j + 1 < (refFold (38 :: t)).2 := Nat.lt_of_lt_of_le hi (Nat.min_le_left _ _)
          omega
        · have hi2 : j + 1 < (refFold (38 :: t)).2 := Nat.lt_of_lt_of_le hi (Nat.min_le_left _ _)
          have : j = (wordL t).length := by omega
          rw [semiAt_cons, ← this, e] at hs
          exact keep_59 hT b (by simpa using (Bool.and_eq_true_iff.1 hs).2)
theorem known_at_bytes {T : Nat → Bytes} {n : Nat} (hT : Turns T n) (t : Bytes) : knownAt (bytesR T n t) = knownAt t := by
  have h : ∀ e, entHit (bytesR T n t) (wordL t) e = entHit t (wordL t) e := fun e => by
    have := test_word hT (fun c => c == 59) (by decide) (fun b _ _ h _ _ => by simpa using h) t (wordL t).length (Nat.le_refl _)
    unfold entHit
    rw [this]
  have h2 : entHit (bytesR T n t) (wordL t) = entHit t (wordL t) := funext h
  unfold knownAt
  rw [word_bytes hT, h2]
end Go.Proofs.YteheelcppgjeaaaDoor
