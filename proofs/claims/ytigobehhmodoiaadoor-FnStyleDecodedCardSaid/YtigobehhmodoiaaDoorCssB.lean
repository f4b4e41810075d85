/- The reference's styleEscape. -/
import Derived.Test.YtigobehhmodoiaaDoorLawS
import Derived.Test.YtigobehhmodoiaaDoorSpHex
import Derived.Test.YtigobehhmodoiaaDoorSpecG
namespace Go.Proofs.YtigobehhmodoiaaDoor
open Go.RowKit
set_option linter.unusedVariables false
set_option linter.unusedSimpArgs false

def RetCss (p : Bytes × Nat × Bool) (e : Ending) : Prop := ∃ v : ByteArray, e = .returned (.tuple #[.string v, .int .i64 p.2.1, .bool p.2.2]) ∧ v.data.toList = p.1
theorem isBlank_any (c : Nat) (w : World) :
    Calls Tryd.prog 69 #[.int .u8 c] w fun e w' => e = .returned (.bool (isBlankB c)) ∧ w = w' := by
  go_enter Tryd.func69, Tryd.ntmps69
  go_wp2
  all_goals
    go_ret
    refine ⟨ret_bool ?_, rfl⟩
    unfold isBlankB
    rw [Bool.eq_iff_iff]
    simp
    omega
theorem hexRun_bound : ∀ (f : Nat) (l : Bytes) (v n V N : Nat), hexRun f l v n = (V, N) → n ≤ N ∧ N ≤ n + f ∧ N ≤ n + l.length ∧ (v < 16 ^ n → V < 16 ^ N)
  | 0, l, v, n, V, N, h => by
    simp only [hexRun, Prod.mk.injEq] at h
    obtain ⟨rfl, rfl⟩ := h
    exact ⟨Nat.le_refl _, by omega, by omega, id⟩
  | f + 1, [], v, n, V, N, h => by
    simp only [hexRun, Prod.mk.injEq] at h
    obtain ⟨rfl, rfl⟩ := h
    exact ⟨Nat.le_refl _, by omega, by simp, id⟩
  | f + 1, b :: t, v, n, V, N, h => by
    unfold hexRun at h
    by_cases hd : digitV b.toNat < 16
    · rw [if_pos hd] at h
      obtain ⟨h1, h2, h3, h4⟩ := hexRun_bound f t _ _ V N h
      refine ⟨by omega, by omega, by simp only [List.length_cons]; omega, fun hv => h4 ?_⟩
      rw [Nat.pow_succ]; omega
    · rw [if_neg hd] at h
      simp only [Prod.mk.injEq] at h
      obtain ⟨rfl, rfl⟩ := h
      exact ⟨Nat.le_refl _, by omega, by simp, id⟩
/-- What the loop over the digits carries. -/
def Run (s : Bytes) (V N k v : Nat) : Prop := k ≤ 6 ∧ hexRun (6 - k) (s.drop k) v k = (V, N) ∧ v < 16 ^ k
theorem run_step {s : ByteArray} {V N k v d : Nat} (hk : k < s.size) (h6 : k < 6) (h : Run s.data.toList V N k v) (hd : digitV s[k].toNat = d) (h16 : d < 16) : Run s.data.toList V N (k + 1) (v * 16 + d) := by
  obtain ⟨h1, h2, h3⟩ := h
  refine ⟨by omega, ?_, by rw [Nat.pow_succ]; omega⟩
  rw [drop_cons s k hk, show 6 - k = (6 - (k + 1)) + 1 by omega] at h2
  unfold hexRun at h2
  rw [hd, if_pos h16] at h2
  exact h2
theorem run_end {s : ByteArray} {V N k v : Nat} (h : Run s.data.toList V N k v) (he : s.size ≤ k ∨ k = 6 ∨ ∃ hk : k < s.size, 16 ≤ digitV s[k].toNat) : k = N ∧ v = V := by
  obtain ⟨h1, h2, h3⟩ := h
  have key : hexRun (6 - k) (s.data.toList.drop k) v k = (v, k) := by
    rcases he with he | he | ⟨hk, he⟩
    · have : s.data.toList.drop k = [] := List.drop_of_length_le (by simp; omega)
      rw [this]
      cases 6 - k <;> rfl
    · subst he; rfl
    · rw [drop_cons s k hk]
      cases hf : 6 - k with
      | zero => rfl
      | succ f => unfold hexRun; rw [if_neg (by omega)]
  rw [key] at h2
  simp only [Prod.mk.injEq] at h2
  exact ⟨h2.2, h2.1⟩
theorem run_v {s : Bytes} {V N k v : Nat} (h : Run s V N k v) : v < 16777216 := by
  have : (16 : Nat) ^ k ≤ 16 ^ 6 := Nat.pow_le_pow_right (by omega) h.1
  have := h.2.2
  omega

set_option maxRecDepth 100000 in
theorem css_no0 (s : ByteArray) (w : World) (hs : s.size ≤ maxLen) (h : s.data.toList = [] ∨ at0 s.data.toList 0 = 10 ∨ at0 s.data.toList 0 = 13 ∨ at0 s.data.toList 0 = 12) :
    Calls Tryd.prog 47 #[.string s] w fun e w' => RetCss ([], 0, false) e ∧ Below w.heap.size w w' := by
  unfold maxLen at hs
  by_cases hne : s.data.toList = []
  · have e1 : s.toList.isEmpty = true := by rw [Lib.toList_data, hne]; rfl
    have e2 : (s.toList = []) = True := by rw [Lib.toList_data, hne]; simp
    clear h hne
    go_enter Tryd.func47, Tryd.ntmps47
    go_wp2_with fail
    go_ret3
    exact ⟨⟨_, rfl, rfl⟩, Below.refl _ _⟩
  · have e1 : s.toList.isEmpty = false := by rw [Lib.toList_data, List.isEmpty_eq_false_iff]; exact hne
    have e2 : (s.toList = []) = False := by rw [Lib.toList_data]; exact eq_false hne
    have h0 : 0 < s.size := by
      have := List.length_pos_iff.2 hne
      simpa using this
    rw [at0_get s 0 h0] at h
    have hc : (s[0].toNat : Int) = 10 ∨ (s[0].toNat : Int) = 13 ∨ (s[0].toNat : Int) = 12 := by
      rcases h with h | h | h | h
      · exact absurd h hne
      · omega
      · omega
      · omega
    have h0' : (0 : Int) < s.size := by omega
    clear h hne
    rcases hc with e | e | e
    all_goals
      go_enter Tryd.func47, Tryd.ntmps47
      go_wp2_with fail
      go_ret3
      exact ⟨⟨_, rfl, rfl⟩, Below.refl _ _⟩

set_option maxRecDepth 100000 in
set_option maxHeartbeats 8000000 in
theorem css_char (s : ByteArray) (V N : Nat) (hp : hexRun 6 s.data.toList 0 0 = (V, N)) (h0 : 0 < s.size) (hn : s[0].toNat ≠ 10 ∧ s[0].toNat ≠ 13 ∧ s[0].toNat ≠ 12) (hN : N = 0) (w : World) (hs : s.size ≤ maxLen) :
    Calls Tryd.prog 47 #[.string s] w fun e w' => RetCss (s.data.toList.take (sizeL s.data.toList), sizeL s.data.toList, decide (0 < sizeL s.data.toList)) e ∧ Below w.heap.size w w' := by
  have hs0 := hs
  obtain ⟨_, hN6, hNL, hV⟩ := hexRun_bound _ _ _ _ _ _ hp
  have hV24 : V < 16777216 := by
    have h1 := hV (by decide)
    have : (16 : Nat) ^ N ≤ 16 ^ 6 := Nat.pow_le_pow_right (by omega) (by omega)
    omega
  have hNs : N ≤ s.size := by simpa using hNL
  have hne : s.data.toList ≠ [] := by
    intro h
    have h1 := congrArg List.length h
    rw [show s.data.toList.length = s.size by simp] at h1
    simp only [List.length_nil] at h1
    omega
  have e1 : s.toList.isEmpty = false := by rw [Lib.toList_data, List.isEmpty_eq_false_iff]; exact hne
  have e2 : (s.toList = []) = False := by rw [Lib.toList_data]; exact eq_false hne
  have k1 : ((s[0].toNat : Int) == 10) = false := by rw [beq_eq_false_iff_ne]; omega
  have k2 : ((s[0].toNat : Int) == 13) = false := by rw [beq_eq_false_iff_ne]; omega
  have k3 : ((s[0].toNat : Int) == 12) = false := by rw [beq_eq_false_iff_ne]; omega
  have h0' : (0 : Int) < s.size := by omega
  have HRUN : Hid (Run s.data.toList V N 0 0) := Lib.hid ⟨by omega, hp, by decide⟩
  have hN0 : ((N : Int) == 0) = true := by rw [beq_iff_eq]; omega
  have HNN := Lib.hid hN
  obtain ⟨z, hz⟩ : ∃ z, sizeL s.data.toList = z := ⟨_, rfl⟩
  have hzl := sizeL_le s.data.toList hne
  have hsz := fun w => size_any s w hs0 h0
  rw [hz] at hsz hzl
  have HSZ := Lib.hid hsz
  have hzs : z ≤ s.size := by simpa using hzl
  have HZ : Hid ((s.extract 0 z).data.toList = s.data.toList.take (sizeL s.data.toList)) := Lib.hid (by rw [extract_mid0, hz])
  rw [hz]
  rw [hz] at HZ
  clear hsz hzl hz
  clear hp hV hNL hne hn hV24 hN
  unfold maxLen at hs
  go_enter Tryd.func47, Tryd.ntmps47
  go_wp2_with fail
  go_loop [5, 6] (fun vv i => ∃ k v : Nat, k ≤ s.size ∧ i = .int .i64 k ∧ vv = .int .i64 v ∧ Run s.data.toList V N k v) (fun _ i => 7 - (intOf i).toNat)
  case atStart => exact ⟨0, 0, Nat.zero_le _, rfl, rfl, HRUN.out⟩
  case round =>
    obtain ⟨k, v, hk, rfl, rfl, hr⟩ := hrel
    have HR := Lib.hid hr
    have hv24 := run_v hr
    have hk6 : k ≤ 6 := hr.1
    clear hr
    by_cases hlt : k < s.size ∧ k < 6 ∧ ∃ hk : k < s.size, digitV s[k].toNat < 16
    · obtain ⟨hlt, h6, _, hdg⟩ := hlt
      obtain ⟨dd, hdd⟩ : ∃ dd, digitV s[k].toNat = dd := ⟨_, rfl⟩
      have hcon := fun w => digit_any s[k].toNat s[k].toNat_lt 16 w
      rw [hdd] at hcon hdg
      have HC := Lib.hid hcon; clear hcon
      have HRS := Lib.hid (run_step hlt h6 HR.out hdd hdg)
      have hdi : decide ((dd : Int) < 16) = true := by rw [decide_eq_true_eq]; omega
      have ho := or4 v dd (by omega) hdg
      have h6i : (k : Int) < 6 := by omega
      clear hdd
      go_wp2_with (go_at_call 67; refine (HC.out _).mono ?_; rintro e w' ⟨rfl, rfl⟩)
      go_round
      case rel => exact ⟨k + 1, v * 16 + dd, by omega, by go_num, by go_num, HRS.out⟩
      case measure => simp [intOf]; omega
    · have hend : s.size ≤ k ∨ k = 6 ∨ ∃ hk : k < s.size, 16 ≤ digitV s[k].toNat := by
        by_cases g1 : s.size ≤ k
        · exact .inl g1
        by_cases g2 : k = 6
        · exact .inr (.inl g2)
        · right; right
          refine ⟨by omega, ?_⟩
          have g3 : ¬ digitV s[k].toNat < 16 := fun h => hlt ⟨by omega, by omega, by omega, h⟩
          omega
      obtain ⟨hkN, hvV⟩ := run_end HR.out hend
      subst hkN hvV
      clear hlt
      have hcase : (s.size : Int) ≤ k ∨ ((k : Int) < s.size ∧ k = 6) ∨ (∃ hk : k < s.size, k < 6 ∧ 16 ≤ digitV s[k].toNat) := by
        rcases hend with h | h | ⟨h1, h2⟩
        · left; omega
        · by_cases g : s.size ≤ k
          · left; omega
          · right; left; omega
        · by_cases g : k = 6
          · right; left; omega
          · right; right; exact ⟨h1, by omega, h2⟩
      clear hend
      rcases hcase with hc | ⟨hc, hk6e⟩ | ⟨hkl, hk6', hdg⟩
      · exact absurd hc (by first | omega | (have := HNN.out; omega))
      · exact absurd hk6e (by first | omega | (have := HNN.out; omega))
      · obtain ⟨dd, hdd⟩ : ∃ dd, digitV s[k].toNat = dd := ⟨_, rfl⟩
        have hcon := fun w => digit_any s[k].toNat s[k].toNat_lt 16 w
        rw [hdd] at hcon hdg
        have HC := Lib.hid hcon; clear hcon
        have hdi : decide ((dd : Int) < 16) = false := by rw [decide_eq_false_iff_not]; omega
        have h6i : (k : Int) < 6 := by omega
        have hkli : (k : Int) < s.size := by omega
        clear hdd hdg hk6' hv24
        go_wp2_with (first
          | (go_at_call 67; refine (HC.out _).mono ?_; rintro e w9 ⟨rfl, rfl⟩)
          | (go_at_call 43; refine (HSZ.out _).mono ?_; rintro e w9 ⟨rfl, rfl⟩))
        go_ret3
        exact ⟨⟨_, rfl, HZ.out⟩, Below.refl _ _⟩

set_option maxRecDepth 100000 in
set_option maxHeartbeats 8000000 in
theorem css_noneA (s : ByteArray) (V N : Nat) (hp : hexRun 6 s.data.toList 0 0 = (V, N)) (h0 : 0 < s.size) (hn : s[0].toNat ≠ 10 ∧ s[0].toNat ≠ 13 ∧ s[0].toNat ≠ 12) (hN : 0 < N) (hVb : V = 0) (w : World) (hs : s.size ≤ maxLen) :
    Calls Tryd.prog 47 #[.string s] w fun e w' => RetCss ([], 0, false) e ∧ Below w.heap.size w w' := by
  have hs0 := hs
  obtain ⟨_, hN6, hNL, hV⟩ := hexRun_bound _ _ _ _ _ _ hp
  have hV24 : V < 16777216 := by
    have h1 := hV (by decide)
    have : (16 : Nat) ^ N ≤ 16 ^ 6 := Nat.pow_le_pow_right (by omega) (by omega)
    omega
  have hNs : N ≤ s.size := by simpa using hNL
  have hne : s.data.toList ≠ [] := by
    intro h
    have h1 := congrArg List.length h
    rw [show s.data.toList.length = s.size by simp] at h1
    simp only [List.length_nil] at h1
    omega
  have e1 : s.toList.isEmpty = false := by rw [Lib.toList_data, List.isEmpty_eq_false_iff]; exact hne
  have e2 : (s.toList = []) = False := by rw [Lib.toList_data]; exact eq_false hne
  have k1 : ((s[0].toNat : Int) == 10) = false := by rw [beq_eq_false_iff_ne]; omega
  have k2 : ((s[0].toNat : Int) == 13) = false := by rw [beq_eq_false_iff_ne]; omega
  have k3 : ((s[0].toNat : Int) == 12) = false := by rw [beq_eq_false_iff_ne]; omega
  have h0' : (0 : Int) < s.size := by omega
  have HRUN : Hid (Run s.data.toList V N 0 0) := Lib.hid ⟨by omega, hp, by decide⟩
  have hN0 : ((N : Int) == 0) = false := by rw [beq_eq_false_iff_ne]; omega
  have hvb : ((V : Int) == 0) = true := by rw [beq_iff_eq]; omega
  clear hp hV hNL hne hn hV24 hN
  unfold maxLen at hs
  go_enter Tryd.func47, Tryd.ntmps47
  go_wp2_with fail
  go_loop [5, 6] (fun vv i => ∃ k v : Nat, k ≤ s.size ∧ i = .int .i64 k ∧ vv = .int .i64 v ∧ Run s.data.toList V N k v) (fun _ i => 7 - (intOf i).toNat)
  case atStart => exact ⟨0, 0, Nat.zero_le _, rfl, rfl, HRUN.out⟩
  case round =>
    obtain ⟨k, v, hk, rfl, rfl, hr⟩ := hrel
    have HR := Lib.hid hr
    have hv24 := run_v hr
    have hk6 : k ≤ 6 := hr.1
    clear hr
    by_cases hlt : k < s.size ∧ k < 6 ∧ ∃ hk : k < s.size, digitV s[k].toNat < 16
    · obtain ⟨hlt, h6, _, hdg⟩ := hlt
      obtain ⟨dd, hdd⟩ : ∃ dd, digitV s[k].toNat = dd := ⟨_, rfl⟩
      have hcon := fun w => digit_any s[k].toNat s[k].toNat_lt 16 w
      rw [hdd] at hcon hdg
      have HC := Lib.hid hcon; clear hcon
      have HRS := Lib.hid (run_step hlt h6 HR.out hdd hdg)
      have hdi : decide ((dd : Int) < 16) = true := by rw [decide_eq_true_eq]; omega
      have ho := or4 v dd (by omega) hdg
      have h6i : (k : Int) < 6 := by omega
      clear hdd
      go_wp2_with (go_at_call 67; refine (HC.out _).mono ?_; rintro e w' ⟨rfl, rfl⟩)
      go_round
      case rel => exact ⟨k + 1, v * 16 + dd, by omega, by go_num, by go_num, HRS.out⟩
      case measure => simp [intOf]; omega
    · have hend : s.size ≤ k ∨ k = 6 ∨ ∃ hk : k < s.size, 16 ≤ digitV s[k].toNat := by
        by_cases g1 : s.size ≤ k
        · exact .inl g1
        by_cases g2 : k = 6
        · exact .inr (.inl g2)
        · right; right
          refine ⟨by omega, ?_⟩
          have g3 : ¬ digitV s[k].toNat < 16 := fun h => hlt ⟨by omega, by omega, by omega, h⟩
          omega
      obtain ⟨hkN, hvV⟩ := run_end HR.out hend
      subst hkN hvV
      clear hlt
      have hcase : (s.size : Int) ≤ k ∨ ((k : Int) < s.size ∧ k = 6) ∨ (∃ hk : k < s.size, k < 6 ∧ 16 ≤ digitV s[k].toNat) := by
        rcases hend with h | h | ⟨h1, h2⟩
        · left; omega
        · by_cases g : s.size ≤ k
          · left; omega
          · right; left; omega
        · by_cases g : k = 6
          · right; left; omega
          · right; right; exact ⟨h1, by omega, h2⟩
      clear hend
      rcases hcase with hc | ⟨hc, hk6e⟩ | ⟨hkl, hk6', hdg⟩
      · go_wp2_with fail
        go_ret3
        exact ⟨⟨_, rfl, rfl⟩, Below.refl _ _⟩
      · have hk6i : (6 : Int) ≤ k := by omega
        clear hk6e
        go_wp2_with fail
        go_ret3
        exact ⟨⟨_, rfl, rfl⟩, Below.refl _ _⟩
      · obtain ⟨dd, hdd⟩ : ∃ dd, digitV s[k].toNat = dd := ⟨_, rfl⟩
        have hcon := fun w => digit_any s[k].toNat s[k].toNat_lt 16 w
        rw [hdd] at hcon hdg
        have HC := Lib.hid hcon; clear hcon
        have hdi : decide ((dd : Int) < 16) = false := by rw [decide_eq_false_iff_not]; omega
        have h6i : (k : Int) < 6 := by omega
        have hkli : (k : Int) < s.size := by omega
        clear hdd hdg hk6' hv24
        go_wp2_with (first
          | (go_at_call 67; refine (HC.out _).mono ?_; rintro e w9 ⟨rfl, rfl⟩)
)
        go_ret3
        exact ⟨⟨_, rfl, rfl⟩, Below.refl _ _⟩

set_option maxRecDepth 100000 in
set_option maxHeartbeats 8000000 in
theorem css_noneB (s : ByteArray) (V N : Nat) (hp : hexRun 6 s.data.toList 0 0 = (V, N)) (h0 : 0 < s.size) (hn : s[0].toNat ≠ 10 ∧ s[0].toNat ≠ 13 ∧ s[0].toNat ≠ 12) (hN : 0 < N) (hVb : 0x10ffff < V) (w : World) (hs : s.size ≤ maxLen) :
    Calls Tryd.prog 47 #[.string s] w fun e w' => RetCss ([], 0, false) e ∧ Below w.heap.size w w' := by
  have hs0 := hs
  obtain ⟨_, hN6, hNL, hV⟩ := hexRun_bound _ _ _ _ _ _ hp
  have hV24 : V < 16777216 := by
    have h1 := hV (by decide)
    have : (16 : Nat) ^ N ≤ 16 ^ 6 := Nat.pow_le_pow_right (by omega) (by omega)
    omega
  have hNs : N ≤ s.size := by simpa using hNL
  have hne : s.data.toList ≠ [] := by
    intro h
    have h1 := congrArg List.length h
    rw [show s.data.toList.length = s.size by simp] at h1
    simp only [List.length_nil] at h1
    omega
  have e1 : s.toList.isEmpty = false := by rw [Lib.toList_data, List.isEmpty_eq_false_iff]; exact hne
  have e2 : (s.toList = []) = False := by rw [Lib.toList_data]; exact eq_false hne
  have k1 : ((s[0].toNat : Int) == 10) = false := by rw [beq_eq_false_iff_ne]; omega
  have k2 : ((s[0].toNat : Int) == 13) = false := by rw [beq_eq_false_iff_ne]; omega
  have k3 : ((s[0].toNat : Int) == 12) = false := by rw [beq_eq_false_iff_ne]; omega
  have h0' : (0 : Int) < s.size := by omega
  have HRUN : Hid (Run s.data.toList V N 0 0) := Lib.hid ⟨by omega, hp, by decide⟩
  have hN0 : ((N : Int) == 0) = false := by rw [beq_eq_false_iff_ne]; omega
  have hvb : ((V : Int) == 0) = false := by rw [beq_eq_false_iff_ne]; omega
  have hvt : decide ((1114111 : Int) < V) = true := by rw [decide_eq_true_eq]; omega
  have hVb2 := Lib.hid hVb
  clear hVb
  clear hp hV hNL hne hn hV24 hN
  unfold maxLen at hs
  go_enter Tryd.func47, Tryd.ntmps47
  go_wp2_with fail
  go_loop [5, 6] (fun vv i => ∃ k v : Nat, k ≤ s.size ∧ i = .int .i64 k ∧ vv = .int .i64 v ∧ Run s.data.toList V N k v) (fun _ i => 7 - (intOf i).toNat)
  case atStart => exact ⟨0, 0, Nat.zero_le _, rfl, rfl, HRUN.out⟩
  case round =>
    obtain ⟨k, v, hk, rfl, rfl, hr⟩ := hrel
    have HR := Lib.hid hr
    have hv24 := run_v hr
    have hk6 : k ≤ 6 := hr.1
    clear hr
    by_cases hlt : k < s.size ∧ k < 6 ∧ ∃ hk : k < s.size, digitV s[k].toNat < 16
    · obtain ⟨hlt, h6, _, hdg⟩ := hlt
      obtain ⟨dd, hdd⟩ : ∃ dd, digitV s[k].toNat = dd := ⟨_, rfl⟩
      have hcon := fun w => digit_any s[k].toNat s[k].toNat_lt 16 w
      rw [hdd] at hcon hdg
      have HC := Lib.hid hcon; clear hcon
      have HRS := Lib.hid (run_step hlt h6 HR.out hdd hdg)
      have hdi : decide ((dd : Int) < 16) = true := by rw [decide_eq_true_eq]; omega
      have ho := or4 v dd (by omega) hdg
      have h6i : (k : Int) < 6 := by omega
      clear hdd
      go_wp2_with (go_at_call 67; refine (HC.out _).mono ?_; rintro e w' ⟨rfl, rfl⟩)
      go_round
      case rel => exact ⟨k + 1, v * 16 + dd, by omega, by go_num, by go_num, HRS.out⟩
      case measure => simp [intOf]; omega
    · have hend : s.size ≤ k ∨ k = 6 ∨ ∃ hk : k < s.size, 16 ≤ digitV s[k].toNat := by
        by_cases g1 : s.size ≤ k
        · exact .inl g1
        by_cases g2 : k = 6
        · exact .inr (.inl g2)
        · right; right
          refine ⟨by omega, ?_⟩
          have g3 : ¬ digitV s[k].toNat < 16 := fun h => hlt ⟨by omega, by omega, by omega, h⟩
          omega
      obtain ⟨hkN, hvV⟩ := run_end HR.out hend
      subst hkN hvV
      clear hlt
      have hcase : (s.size : Int) ≤ k ∨ ((k : Int) < s.size ∧ k = 6) ∨ (∃ hk : k < s.size, k < 6 ∧ 16 ≤ digitV s[k].toNat) := by
        rcases hend with h | h | ⟨h1, h2⟩
        · left; omega
        · by_cases g : s.size ≤ k
          · left; omega
          · right; left; omega
        · by_cases g : k = 6
          · right; left; omega
          · right; right; exact ⟨h1, by omega, h2⟩
      clear hend
      rcases hcase with hc | ⟨hc, hk6e⟩ | ⟨hkl, hk6', hdg⟩
      · go_wp2_with fail
        go_ret3
        exact ⟨⟨_, rfl, rfl⟩, Below.refl _ _⟩
      · have hk6i : (6 : Int) ≤ k := by omega
        clear hk6e
        go_wp2_with fail
        go_ret3
        exact ⟨⟨_, rfl, rfl⟩, Below.refl _ _⟩
      · obtain ⟨dd, hdd⟩ : ∃ dd, digitV s[k].toNat = dd := ⟨_, rfl⟩
        have hcon := fun w => digit_any s[k].toNat s[k].toNat_lt 16 w
        rw [hdd] at hcon hdg
        have HC := Lib.hid hcon; clear hcon
        have hdi : decide ((dd : Int) < 16) = false := by rw [decide_eq_false_iff_not]; omega
        have h6i : (k : Int) < 6 := by omega
        have hkli : (k : Int) < s.size := by omega
        clear hdd hdg hk6' hv24
        go_wp2_with (first
          | (go_at_call 67; refine (HC.out _).mono ?_; rintro e w9 ⟨rfl, rfl⟩)
)
        go_ret3
        exact ⟨⟨_, rfl, rfl⟩, Below.refl _ _⟩

set_option maxRecDepth 100000 in
set_option maxHeartbeats 8000000 in
theorem css_e0_lo (s : ByteArray) (V N : Nat) (hp : hexRun 6 s.data.toList 0 0 = (V, N)) (h0 : 0 < s.size) (hn : s[0].toNat ≠ 10 ∧ s[0].toNat ≠ 13 ∧ s[0].toNat ≠ 12) (hN : 0 < N) (hV0 : V ≠ 0) (hVt : V ≤ 0x10ffff) (hVr : V < 55296) (hE : N = s.size) (w : World) (hs : s.size ≤ maxLen) :
    Calls Tryd.prog 47 #[.string s] w fun e w' => RetCss (codedL (cssChar V), N, true) e ∧ Below w.heap.size w w' := by
  have hs0 := hs
  obtain ⟨_, hN6, hNL, hV⟩ := hexRun_bound _ _ _ _ _ _ hp
  have hV24 : V < 16777216 := by
    have h1 := hV (by decide)
    have : (16 : Nat) ^ N ≤ 16 ^ 6 := Nat.pow_le_pow_right (by omega) (by omega)
    omega
  have hNs : N ≤ s.size := by simpa using hNL
  have hne : s.data.toList ≠ [] := by
    intro h
    have h1 := congrArg List.length h
    rw [show s.data.toList.length = s.size by simp] at h1
    simp only [List.length_nil] at h1
    omega
  have e1 : s.toList.isEmpty = false := by rw [Lib.toList_data, List.isEmpty_eq_false_iff]; exact hne
  have e2 : (s.toList = []) = False := by rw [Lib.toList_data]; exact eq_false hne
  have k1 : ((s[0].toNat : Int) == 10) = false := by rw [beq_eq_false_iff_ne]; omega
  have k2 : ((s[0].toNat : Int) == 13) = false := by rw [beq_eq_false_iff_ne]; omega
  have k3 : ((s[0].toNat : Int) == 12) = false := by rw [beq_eq_false_iff_ne]; omega
  have h0' : (0 : Int) < s.size := by omega
  have HRUN : Hid (Run s.data.toList V N 0 0) := Lib.hid ⟨by omega, hp, by decide⟩
  have hvb : ((V : Int) == 0) = false := by rw [beq_eq_false_iff_ne]; omega
  have hvt : decide ((1114111 : Int) < V) = false := by rw [decide_eq_false_iff_not]; omega
  have hN0 : ((N : Int) == 0) = false := by rw [beq_eq_false_iff_ne]; omega
  obtain ⟨x, hx⟩ : ∃ x, cssChar V = x := ⟨_, rfl⟩
  have hx21 : x < 2097152 := by rw [← hx]; unfold cssChar; split <;> omega
  have hcod := fun w => coded_any x w hx21
  have d1 : decide ((55296 : Int) ≤ V) = false := by rw [decide_eq_false_iff_not]; omega
  obtain rfl : V = x := by rw [← hx]; unfold cssChar; rw [if_neg (by omega)]
  have HCOD := Lib.hid hcod
  clear hcod
  rw [hx]
  clear hx
  have hEi : (s.size : Int) ≤ N := by omega
  clear hE
  clear hp hV hNL hne hn hV24 hN hV0 hVt hVr
  unfold maxLen at hs
  go_enter Tryd.func47, Tryd.ntmps47
  go_wp2_with fail
  go_loop [5, 6] (fun vv i => ∃ k v : Nat, k ≤ s.size ∧ i = .int .i64 k ∧ vv = .int .i64 v ∧ Run s.data.toList V N k v) (fun _ i => 7 - (intOf i).toNat)
  case atStart => exact ⟨0, 0, Nat.zero_le _, rfl, rfl, HRUN.out⟩
  case round =>
    obtain ⟨k, v, hk, rfl, rfl, hr⟩ := hrel
    have HR := Lib.hid hr
    have hv24 := run_v hr
    have hk6 : k ≤ 6 := hr.1
    clear hr
    by_cases hlt : k < s.size ∧ k < 6 ∧ ∃ hk : k < s.size, digitV s[k].toNat < 16
    · obtain ⟨hlt, h6, _, hdg⟩ := hlt
      obtain ⟨dd, hdd⟩ : ∃ dd, digitV s[k].toNat = dd := ⟨_, rfl⟩
      have hcon := fun w => digit_any s[k].toNat s[k].toNat_lt 16 w
      rw [hdd] at hcon hdg
      have HC := Lib.hid hcon; clear hcon
      have HRS := Lib.hid (run_step hlt h6 HR.out hdd hdg)
      have hdi : decide ((dd : Int) < 16) = true := by rw [decide_eq_true_eq]; omega
      have ho := or4 v dd (by omega) hdg
      have h6i : (k : Int) < 6 := by omega
      clear hdd
      go_wp2_with (go_at_call 67; refine (HC.out _).mono ?_; rintro e w' ⟨rfl, rfl⟩)
      go_round
      case rel => exact ⟨k + 1, v * 16 + dd, by omega, by go_num, by go_num, HRS.out⟩
      case measure => simp [intOf]; omega
    · have hend : s.size ≤ k ∨ k = 6 ∨ ∃ hk : k < s.size, 16 ≤ digitV s[k].toNat := by
        by_cases g1 : s.size ≤ k
        · exact .inl g1
        by_cases g2 : k = 6
        · exact .inr (.inl g2)
        · right; right
          refine ⟨by omega, ?_⟩
          have g3 : ¬ digitV s[k].toNat < 16 := fun h => hlt ⟨by omega, by omega, by omega, h⟩
          omega
      obtain ⟨hkN, hvV⟩ := run_end HR.out hend
      subst hkN hvV
      clear hlt
      have hcase : (s.size : Int) ≤ k ∨ ((k : Int) < s.size ∧ k = 6) ∨ (∃ hk : k < s.size, k < 6 ∧ 16 ≤ digitV s[k].toNat) := by
        rcases hend with h | h | ⟨h1, h2⟩
        · left; omega
        · by_cases g : s.size ≤ k
          · left; omega
          · right; left; omega
        · by_cases g : k = 6
          · right; left; omega
          · right; right; exact ⟨h1, by omega, h2⟩
      clear hend
      rcases hcase with hc | ⟨hc, hk6e⟩ | ⟨hkl, hk6', hdg⟩
      · go_wp2_with (first
          | (go_at_call 70; refine (HCOD.out _).mono ?_; rintro e w9 ⟨⟨y, rfl, hy⟩, hb9⟩; have HY := Lib.hid hy; clear hy))
        go_ret3
        exact ⟨⟨_, rfl, HY.out⟩, hb9⟩
      · exact absurd hc (by omega)
      · exact absurd hkl (by omega)

set_option maxRecDepth 100000 in
set_option maxHeartbeats 8000000 in
theorem css_e0_sur (s : ByteArray) (V N : Nat) (hp : hexRun 6 s.data.toList 0 0 = (V, N)) (h0 : 0 < s.size) (hn : s[0].toNat ≠ 10 ∧ s[0].toNat ≠ 13 ∧ s[0].toNat ≠ 12) (hN : 0 < N) (hV0 : V ≠ 0) (hVt : V ≤ 0x10ffff) (hVr : 55296 ≤ V ∧ V ≤ 57343) (hE : N = s.size) (w : World) (hs : s.size ≤ maxLen) :
    Calls Tryd.prog 47 #[.string s] w fun e w' => RetCss (codedL (cssChar V), N, true) e ∧ Below w.heap.size w w' := by
  have hs0 := hs
  obtain ⟨_, hN6, hNL, hV⟩ := hexRun_bound _ _ _ _ _ _ hp
  have hV24 : V < 16777216 := by
    have h1 := hV (by decide)
    have : (16 : Nat) ^ N ≤ 16 ^ 6 := Nat.pow_le_pow_right (by omega) (by omega)
    omega
  have hNs : N ≤ s.size := by simpa using hNL
  have hne : s.data.toList ≠ [] := by
    intro h
    have h1 := congrArg List.length h
    rw [show s.data.toList.length = s.size by simp] at h1
    simp only [List.length_nil] at h1
    omega
  have e1 : s.toList.isEmpty = false := by rw [Lib.toList_data, List.isEmpty_eq_false_iff]; exact hne
  have e2 : (s.toList = []) = False := by rw [Lib.toList_data]; exact eq_false hne
  have k1 : ((s[0].toNat : Int) == 10) = false := by rw [beq_eq_false_iff_ne]; omega
  have k2 : ((s[0].toNat : Int) == 13) = false := by rw [beq_eq_false_iff_ne]; omega
  have k3 : ((s[0].toNat : Int) == 12) = false := by rw [beq_eq_false_iff_ne]; omega
  have h0' : (0 : Int) < s.size := by omega
  have HRUN : Hid (Run s.data.toList V N 0 0) := Lib.hid ⟨by omega, hp, by decide⟩
  have hvb : ((V : Int) == 0) = false := by rw [beq_eq_false_iff_ne]; omega
  have hvt : decide ((1114111 : Int) < V) = false := by rw [decide_eq_false_iff_not]; omega
  have hN0 : ((N : Int) == 0) = false := by rw [beq_eq_false_iff_ne]; omega
  obtain ⟨x, hx⟩ : ∃ x, cssChar V = x := ⟨_, rfl⟩
  have hx21 : x < 2097152 := by rw [← hx]; unfold cssChar; split <;> omega
  have hcod := fun w => coded_any x w hx21
  have d1 : decide ((55296 : Int) ≤ V) = true := by rw [decide_eq_true_eq]; omega
  have d2 : decide ((V : Int) ≤ 57343) = true := by rw [decide_eq_true_eq]; omega
  have hx65 : x = 65533 := by rw [← hx]; unfold cssChar; rw [if_pos (by omega)]
  rw [hx65] at hcod hx
  rw [show ((65533 : Nat) : Int) = 65533 from rfl] at hcod
  have HCOD := Lib.hid hcod
  clear hcod hx65 hx21
  rw [hx]
  clear hx
  have hEi : (s.size : Int) ≤ N := by omega
  clear hE
  clear hp hV hNL hne hn hV24 hN hV0 hVt hVr
  unfold maxLen at hs
  go_enter Tryd.func47, Tryd.ntmps47
  go_wp2_with fail
  go_loop [5, 6] (fun vv i => ∃ k v : Nat, k ≤ s.size ∧ i = .int .i64 k ∧ vv = .int .i64 v ∧ Run s.data.toList V N k v) (fun _ i => 7 - (intOf i).toNat)
  case atStart => exact ⟨0, 0, Nat.zero_le _, rfl, rfl, HRUN.out⟩
  case round =>
    obtain ⟨k, v, hk, rfl, rfl, hr⟩ := hrel
    have HR := Lib.hid hr
    have hv24 := run_v hr
    have hk6 : k ≤ 6 := hr.1
    clear hr
    by_cases hlt : k < s.size ∧ k < 6 ∧ ∃ hk : k < s.size, digitV s[k].toNat < 16
    · obtain ⟨hlt, h6, _, hdg⟩ := hlt
      obtain ⟨dd, hdd⟩ : ∃ dd, digitV s[k].toNat = dd := ⟨_, rfl⟩
      have hcon := fun w => digit_any s[k].toNat s[k].toNat_lt 16 w
      rw [hdd] at hcon hdg
      have HC := Lib.hid hcon; clear hcon
      have HRS := Lib.hid (run_step hlt h6 HR.out hdd hdg)
      have hdi : decide ((dd : Int) < 16) = true := by rw [decide_eq_true_eq]; omega
      have ho := or4 v dd (by omega) hdg
      have h6i : (k : Int) < 6 := by omega
      clear hdd
      go_wp2_with (go_at_call 67; refine (HC.out _).mono ?_; rintro e w' ⟨rfl, rfl⟩)
      go_round
      case rel => exact ⟨k + 1, v * 16 + dd, by omega, by go_num, by go_num, HRS.out⟩
      case measure => simp [intOf]; omega
    · have hend : s.size ≤ k ∨ k = 6 ∨ ∃ hk : k < s.size, 16 ≤ digitV s[k].toNat := by
        by_cases g1 : s.size ≤ k
        · exact .inl g1
        by_cases g2 : k = 6
        · exact .inr (.inl g2)
        · right; right
          refine ⟨by omega, ?_⟩
          have g3 : ¬ digitV s[k].toNat < 16 := fun h => hlt ⟨by omega, by omega, by omega, h⟩
          omega
      obtain ⟨hkN, hvV⟩ := run_end HR.out hend
      subst hkN hvV
      clear hlt
      have hcase : (s.size : Int) ≤ k ∨ ((k : Int) < s.size ∧ k = 6) ∨ (∃ hk : k < s.size, k < 6 ∧ 16 ≤ digitV s[k].toNat) := by
        rcases hend with h | h | ⟨h1, h2⟩
        · left; omega
        · by_cases g : s.size ≤ k
          · left; omega
          · right; left; omega
        · by_cases g : k = 6
          · right; left; omega
          · right; right; exact ⟨h1, by omega, h2⟩
      clear hend
      rcases hcase with hc | ⟨hc, hk6e⟩ | ⟨hkl, hk6', hdg⟩
      · go_wp2_with (first
          | (go_at_call 70; refine (HCOD.out _).mono ?_; rintro e w9 ⟨⟨y, rfl, hy⟩, hb9⟩; have HY := Lib.hid hy; clear hy))
        go_ret3
        exact ⟨⟨_, rfl, HY.out⟩, hb9⟩
      · exact absurd hc (by omega)
      · exact absurd hkl (by omega)

set_option maxRecDepth 100000 in
set_option maxHeartbeats 8000000 in
theorem css_e0_hi (s : ByteArray) (V N : Nat) (hp : hexRun 6 s.data.toList 0 0 = (V, N)) (h0 : 0 < s.size) (hn : s[0].toNat ≠ 10 ∧ s[0].toNat ≠ 13 ∧ s[0].toNat ≠ 12) (hN : 0 < N) (hV0 : V ≠ 0) (hVt : V ≤ 0x10ffff) (hVr : 57343 < V) (hE : N = s.size) (w : World) (hs : s.size ≤ maxLen) :
    Calls Tryd.prog 47 #[.string s] w fun e w' => RetCss (codedL (cssChar V), N, true) e ∧ Below w.heap.size w w' := by
  have hs0 := hs
  obtain ⟨_, hN6, hNL, hV⟩ := hexRun_bound _ _ _ _ _ _ hp
  have hV24 : V < 16777216 := by
    have h1 := hV (by decide)
    have : (16 : Nat) ^ N ≤ 16 ^ 6 := Nat.pow_le_pow_right (by omega) (by omega)
    omega
  have hNs : N ≤ s.size := by simpa using hNL
  have hne : s.data.toList ≠ [] := by
    intro h
    have h1 := congrArg List.length h
    rw [show s.data.toList.length = s.size by simp] at h1
    simp only [List.length_nil] at h1
    omega
  have e1 : s.toList.isEmpty = false := by rw [Lib.toList_data, List.isEmpty_eq_false_iff]; exact hne
  have e2 : (s.toList = []) = False := by rw [Lib.toList_data]; exact eq_false hne
  have k1 : ((s[0].toNat : Int) == 10) = false := by rw [beq_eq_false_iff_ne]; omega
  have k2 : ((s[0].toNat : Int) == 13) = false := by rw [beq_eq_false_iff_ne]; omega
  have k3 : ((s[0].toNat : Int) == 12) = false := by rw [beq_eq_false_iff_ne]; omega
  have h0' : (0 : Int) < s.size := by omega
  have HRUN : Hid (Run s.data.toList V N 0 0) := Lib.hid ⟨by omega, hp, by decide⟩
  have hvb : ((V : Int) == 0) = false := by rw [beq_eq_false_iff_ne]; omega
  have hvt : decide ((1114111 : Int) < V) = false := by rw [decide_eq_false_iff_not]; omega
  have hN0 : ((N : Int) == 0) = false := by rw [beq_eq_false_iff_ne]; omega
  obtain ⟨x, hx⟩ : ∃ x, cssChar V = x := ⟨_, rfl⟩
  have hx21 : x < 2097152 := by rw [← hx]; unfold cssChar; split <;> omega
  have hcod := fun w => coded_any x w hx21
  have d1 : decide ((55296 : Int) ≤ V) = true := by rw [decide_eq_true_eq]; omega
  have d2 : decide ((V : Int) ≤ 57343) = false := by rw [decide_eq_false_iff_not]; omega
  obtain rfl : V = x := by rw [← hx]; unfold cssChar; rw [if_neg (by omega)]
  have HCOD := Lib.hid hcod
  clear hcod
  rw [hx]
  clear hx
  have hEi : (s.size : Int) ≤ N := by omega
  clear hE
  clear hp hV hNL hne hn hV24 hN hV0 hVt hVr
  unfold maxLen at hs
  go_enter Tryd.func47, Tryd.ntmps47
  go_wp2_with fail
  go_loop [5, 6] (fun vv i => ∃ k v : Nat, k ≤ s.size ∧ i = .int .i64 k ∧ vv = .int .i64 v ∧ Run s.data.toList V N k v) (fun _ i => 7 - (intOf i).toNat)
  case atStart => exact ⟨0, 0, Nat.zero_le _, rfl, rfl, HRUN.out⟩
  case round =>
    obtain ⟨k, v, hk, rfl, rfl, hr⟩ := hrel
    have HR := Lib.hid hr
    have hv24 := run_v hr
    have hk6 : k ≤ 6 := hr.1
    clear hr
    by_cases hlt : k < s.size ∧ k < 6 ∧ ∃ hk : k < s.size, digitV s[k].toNat < 16
    · obtain ⟨hlt, h6, _, hdg⟩ := hlt
      obtain ⟨dd, hdd⟩ : ∃ dd, digitV s[k].toNat = dd := ⟨_, rfl⟩
      have hcon := fun w => digit_any s[k].toNat s[k].toNat_lt 16 w
      rw [hdd] at hcon hdg
      have HC := Lib.hid hcon; clear hcon
      have HRS := Lib.hid (run_step hlt h6 HR.out hdd hdg)
      have hdi : decide ((dd : Int) < 16) = true := by rw [decide_eq_true_eq]; omega
      have ho := or4 v dd (by omega) hdg
      have h6i : (k : Int) < 6 := by omega
      clear hdd
      go_wp2_with (go_at_call 67; refine (HC.out _).mono ?_; rintro e w' ⟨rfl, rfl⟩)
      go_round
      case rel => exact ⟨k + 1, v * 16 + dd, by omega, by go_num, by go_num, HRS.out⟩
      case measure => simp [intOf]; omega
    · have hend : s.size ≤ k ∨ k = 6 ∨ ∃ hk : k < s.size, 16 ≤ digitV s[k].toNat := by
        by_cases g1 : s.size ≤ k
        · exact .inl g1
        by_cases g2 : k = 6
        · exact .inr (.inl g2)
        · right; right
          refine ⟨by omega, ?_⟩
          have g3 : ¬ digitV s[k].toNat < 16 := fun h => hlt ⟨by omega, by omega, by omega, h⟩
          omega
      obtain ⟨hkN, hvV⟩ := run_end HR.out hend
      subst hkN hvV
      clear hlt
      have hcase : (s.size : Int) ≤ k ∨ ((k : Int) < s.size ∧ k = 6) ∨ (∃ hk : k < s.size, k < 6 ∧ 16 ≤ digitV s[k].toNat) := by
        rcases hend with h | h | ⟨h1, h2⟩
        · left; omega
        · by_cases g : s.size ≤ k
          · left; omega
          · right; left; omega
        · by_cases g : k = 6
          · right; left; omega
          · right; right; exact ⟨h1, by omega, h2⟩
      clear hend
      rcases hcase with hc | ⟨hc, hk6e⟩ | ⟨hkl, hk6', hdg⟩
      · go_wp2_with (first
          | (go_at_call 70; refine (HCOD.out _).mono ?_; rintro e w9 ⟨⟨y, rfl, hy⟩, hb9⟩; have HY := Lib.hid hy; clear hy))
        go_ret3
        exact ⟨⟨_, rfl, HY.out⟩, hb9⟩
      · exact absurd hc (by omega)
      · exact absurd hkl (by omega)

set_option maxRecDepth 100000 in
set_option maxHeartbeats 8000000 in
theorem css_e1_lo (s : ByteArray) (V N : Nat) (hp : hexRun 6 s.data.toList 0 0 = (V, N)) (h0 : 0 < s.size) (hn : s[0].toNat ≠ 10 ∧ s[0].toNat ≠ 13 ∧ s[0].toNat ≠ 12) (hN : 0 < N) (hV0 : V ≠ 0) (hVt : V ≤ 0x10ffff) (hVr : V < 55296) (hE : N < s.size) (hblk : isBlankB s[N].toNat = false) (w : World) (hs : s.size ≤ maxLen) :
    Calls Tryd.prog 47 #[.string s] w fun e w' => RetCss (codedL (cssChar V), N, true) e ∧ Below w.heap.size w w' := by
  have hs0 := hs
  obtain ⟨_, hN6, hNL, hV⟩ := hexRun_bound _ _ _ _ _ _ hp
  have hV24 : V < 16777216 := by
    have h1 := hV (by decide)
    have : (16 : Nat) ^ N ≤ 16 ^ 6 := Nat.pow_le_pow_right (by omega) (by omega)
    omega
  have hNs : N ≤ s.size := by simpa using hNL
  have hne : s.data.toList ≠ [] := by
    intro h
    have h1 := congrArg List.length h
    rw [show s.data.toList.length = s.size by simp] at h1
    simp only [List.length_nil] at h1
    omega
  have e1 : s.toList.isEmpty = false := by rw [Lib.toList_data, List.isEmpty_eq_false_iff]; exact hne
  have e2 : (s.toList = []) = False := by rw [Lib.toList_data]; exact eq_false hne
  have k1 : ((s[0].toNat : Int) == 10) = false := by rw [beq_eq_false_iff_ne]; omega
  have k2 : ((s[0].toNat : Int) == 13) = false := by rw [beq_eq_false_iff_ne]; omega
  have k3 : ((s[0].toNat : Int) == 12) = false := by rw [beq_eq_false_iff_ne]; omega
  have h0' : (0 : Int) < s.size := by omega
  have HRUN : Hid (Run s.data.toList V N 0 0) := Lib.hid ⟨by omega, hp, by decide⟩
  have hvb : ((V : Int) == 0) = false := by rw [beq_eq_false_iff_ne]; omega
  have hvt : decide ((1114111 : Int) < V) = false := by rw [decide_eq_false_iff_not]; omega
  have hN0 : ((N : Int) == 0) = false := by rw [beq_eq_false_iff_ne]; omega
  obtain ⟨x, hx⟩ : ∃ x, cssChar V = x := ⟨_, rfl⟩
  have hx21 : x < 2097152 := by rw [← hx]; unfold cssChar; split <;> omega
  have hcod := fun w => coded_any x w hx21
  have d1 : decide ((55296 : Int) ≤ V) = false := by rw [decide_eq_false_iff_not]; omega
  obtain rfl : V = x := by rw [← hx]; unfold cssChar; rw [if_neg (by omega)]
  have HCOD := Lib.hid hcod
  clear hcod
  rw [hx]
  clear hx
  have hbl := fun w => isBlank_any s[N].toNat w
  rw [hblk] at hbl
  have HBL := Lib.hid hbl
  clear hbl hblk
  clear hp hV hNL hne hn hV24 hN hV0 hVt hVr
  unfold maxLen at hs
  go_enter Tryd.func47, Tryd.ntmps47
  go_wp2_with fail
  go_loop [5, 6] (fun vv i => ∃ k v : Nat, k ≤ s.size ∧ i = .int .i64 k ∧ vv = .int .i64 v ∧ Run s.data.toList V N k v) (fun _ i => 7 - (intOf i).toNat)
  case atStart => exact ⟨0, 0, Nat.zero_le _, rfl, rfl, HRUN.out⟩
  case round =>
    obtain ⟨k, v, hk, rfl, rfl, hr⟩ := hrel
    have HR := Lib.hid hr
    have hv24 := run_v hr
    have hk6 : k ≤ 6 := hr.1
    clear hr
    by_cases hlt : k < s.size ∧ k < 6 ∧ ∃ hk : k < s.size, digitV s[k].toNat < 16
    · obtain ⟨hlt, h6, _, hdg⟩ := hlt
      obtain ⟨dd, hdd⟩ : ∃ dd, digitV s[k].toNat = dd := ⟨_, rfl⟩
      have hcon := fun w => digit_any s[k].toNat s[k].toNat_lt 16 w
      rw [hdd] at hcon hdg
      have HC := Lib.hid hcon; clear hcon
      have HRS := Lib.hid (run_step hlt h6 HR.out hdd hdg)
      have hdi : decide ((dd : Int) < 16) = true := by rw [decide_eq_true_eq]; omega
      have ho := or4 v dd (by omega) hdg
      have h6i : (k : Int) < 6 := by omega
      clear hdd
      go_wp2_with (go_at_call 67; refine (HC.out _).mono ?_; rintro e w' ⟨rfl, rfl⟩)
      go_round
      case rel => exact ⟨k + 1, v * 16 + dd, by omega, by go_num, by go_num, HRS.out⟩
      case measure => simp [intOf]; omega
    · have hend : s.size ≤ k ∨ k = 6 ∨ ∃ hk : k < s.size, 16 ≤ digitV s[k].toNat := by
        by_cases g1 : s.size ≤ k
        · exact .inl g1
        by_cases g2 : k = 6
        · exact .inr (.inl g2)
        · right; right
          refine ⟨by omega, ?_⟩
          have g3 : ¬ digitV s[k].toNat < 16 := fun h => hlt ⟨by omega, by omega, by omega, h⟩
          omega
      obtain ⟨hkN, hvV⟩ := run_end HR.out hend
      subst hkN hvV
      clear hlt
      have hcase : (s.size : Int) ≤ k ∨ ((k : Int) < s.size ∧ k = 6) ∨ (∃ hk : k < s.size, k < 6 ∧ 16 ≤ digitV s[k].toNat) := by
        rcases hend with h | h | ⟨h1, h2⟩
        · left; omega
        · by_cases g : s.size ≤ k
          · left; omega
          · right; left; omega
        · by_cases g : k = 6
          · right; left; omega
          · right; right; exact ⟨h1, by omega, h2⟩
      clear hend
      rcases hcase with hc | ⟨hc, hk6e⟩ | ⟨hkl, hk6', hdg⟩
      · exact absurd hc (by first | omega | (have := HNN.out; omega))
      · have hk6i : (6 : Int) ≤ k := by omega
        clear hk6e
        go_wp2_with (first
          | (go_at_call 69; refine (HBL.out _).mono ?_; rintro e w9 ⟨rfl, rfl⟩)
          | (go_at_call 70; refine (HCOD.out _).mono ?_; rintro e w9 ⟨⟨y, rfl, hy⟩, hb9⟩; have HY := Lib.hid hy; clear hy))
        go_ret3
        exact ⟨⟨_, rfl, HY.out⟩, hb9⟩
      · obtain ⟨dd, hdd⟩ : ∃ dd, digitV s[k].toNat = dd := ⟨_, rfl⟩
        have hcon := fun w => digit_any s[k].toNat s[k].toNat_lt 16 w
        rw [hdd] at hcon hdg
        have HC := Lib.hid hcon; clear hcon
        have hdi : decide ((dd : Int) < 16) = false := by rw [decide_eq_false_iff_not]; omega
        have h6i : (k : Int) < 6 := by omega
        have hkli : (k : Int) < s.size := by omega
        clear hdd hdg hk6' hv24
        go_wp2_with (first
          | (go_at_call 67; refine (HC.out _).mono ?_; rintro e w9 ⟨rfl, rfl⟩)
          | (go_at_call 69; refine (HBL.out _).mono ?_; rintro e w9 ⟨rfl, rfl⟩)
          | (go_at_call 70; refine (HCOD.out _).mono ?_; rintro e w9 ⟨⟨y, rfl, hy⟩, hb9⟩; have HY := Lib.hid hy; clear hy))
        go_ret3
        exact ⟨⟨_, rfl, HY.out⟩, hb9⟩

set_option maxRecDepth 100000 in
set_option maxHeartbeats 8000000 in
theorem css_e1_sur (s : ByteArray) (V N : Nat) (hp : hexRun 6 s.data.toList 0 0 = (V, N)) (h0 : 0 < s.size) (hn : s[0].toNat ≠ 10 ∧ s[0].toNat ≠ 13 ∧ s[0].toNat ≠ 12) (hN : 0 < N) (hV0 : V ≠ 0) (hVt : V ≤ 0x10ffff) (hVr : 55296 ≤ V ∧ V ≤ 57343) (hE : N < s.size) (hblk : isBlankB s[N].toNat = false) (w : World) (hs : s.size ≤ maxLen) :
    Calls Tryd.prog 47 #[.string s] w fun e w' => RetCss (codedL (cssChar V), N, true) e ∧ Below w.heap.size w w' := by
  have hs0 := hs
  obtain ⟨_, hN6, hNL, hV⟩ := hexRun_bound _ _ _ _ _ _ hp
  have hV24 : V < 16777216 := by
    have h1 := hV (by decide)
    have : (16 : Nat) ^ N ≤ 16 ^ 6 := Nat.pow_le_pow_right (by omega) (by omega)
    omega
  have hNs : N ≤ s.size := by simpa using hNL
  have hne : s.data.toList ≠ [] := by
    intro h
    have h1 := congrArg List.length h
    rw [show s.data.toList.length = s.size by simp] at h1
    simp only [List.length_nil] at h1
    omega
  have e1 : s.toList.isEmpty = false := by rw [Lib.toList_data, List.isEmpty_eq_false_iff]; exact hne
  have e2 : (s.toList = []) = False := by rw [Lib.toList_data]; exact eq_false hne
  have k1 : ((s[0].toNat : Int) == 10) = false := by rw [beq_eq_false_iff_ne]; omega
  have k2 : ((s[0].toNat : Int) == 13) = false := by rw [beq_eq_false_iff_ne]; omega
  have k3 : ((s[0].toNat : Int) == 12) = false := by rw [beq_eq_false_iff_ne]; omega
  have h0' : (0 : Int) < s.size := by omega
  have HRUN : Hid (Run s.data.toList V N 0 0) := Lib.hid ⟨by omega, hp, by decide⟩
  have hvb : ((V : Int) == 0) = false := by rw [beq_eq_false_iff_ne]; omega
  have hvt : decide ((1114111 : Int) < V) = false := by rw [decide_eq_false_iff_not]; omega
  have hN0 : ((N : Int) == 0) = false := by rw [beq_eq_false_iff_ne]; omega
  obtain ⟨x, hx⟩ : ∃ x, cssChar V = x := ⟨_, rfl⟩
  have hx21 : x < 2097152 := by rw [← hx]; unfold cssChar; split <;> omega
  have hcod := fun w => coded_any x w hx21
  have d1 : decide ((55296 : Int) ≤ V) = true := by rw [decide_eq_true_eq]; omega
  have d2 : decide ((V : Int) ≤ 57343) = true := by rw [decide_eq_true_eq]; omega
  have hx65 : x = 65533 := by rw [← hx]; unfold cssChar; rw [if_pos (by omega)]
  rw [hx65] at hcod hx
  rw [show ((65533 : Nat) : Int) = 65533 from rfl] at hcod
  have HCOD := Lib.hid hcod
  clear hcod hx65 hx21
  rw [hx]
  clear hx
  have hbl := fun w => isBlank_any s[N].toNat w
  rw [hblk] at hbl
  have HBL := Lib.hid hbl
  clear hbl hblk
  clear hp hV hNL hne hn hV24 hN hV0 hVt hVr
  unfold maxLen at hs
  go_enter Tryd.func47, Tryd.ntmps47
  go_wp2_with fail
  go_loop [5, 6] (fun vv i => ∃ k v : Nat, k ≤ s.size ∧ i = .int .i64 k ∧ vv = .int .i64 v ∧ Run s.data.toList V N k v) (fun _ i => 7 - (intOf i).toNat)
  case atStart => exact ⟨0, 0, Nat.zero_le _, rfl, rfl, HRUN.out⟩
  case round =>
    obtain ⟨k, v, hk, rfl, rfl, hr⟩ := hrel
    have HR := Lib.hid hr
    have hv24 := run_v hr
    have hk6 : k ≤ 6 := hr.1
    clear hr
    by_cases hlt : k < s.size ∧ k < 6 ∧ ∃ hk : k < s.size, digitV s[k].toNat < 16
    · obtain ⟨hlt, h6, _, hdg⟩ := hlt
      obtain ⟨dd, hdd⟩ : ∃ dd, digitV s[k].toNat = dd := ⟨_, rfl⟩
      have hcon := fun w => digit_any s[k].toNat s[k].toNat_lt 16 w
      rw [hdd] at hcon hdg
      have HC := Lib.hid hcon; clear hcon
      have HRS := Lib.hid (run_step hlt h6 HR.out hdd hdg)
      have hdi : decide ((dd : Int) < 16) = true := by rw [decide_eq_true_eq]; omega
      have ho := or4 v dd (by omega) hdg
      have h6i : (k : Int) < 6 := by omega
      clear hdd
      go_wp2_with (go_at_call 67; refine (HC.out _).mono ?_; rintro e w' ⟨rfl, rfl⟩)
      go_round
      case rel => exact ⟨k + 1, v * 16 + dd, by omega, by go_num, by go_num, HRS.out⟩
      case measure => simp [intOf]; omega
    · have hend : s.size ≤ k ∨ k = 6 ∨ ∃ hk : k < s.size, 16 ≤ digitV s[k].toNat := by
        by_cases g1 : s.size ≤ k
        · exact .inl g1
        by_cases g2 : k = 6
        · exact .inr (.inl g2)
        · right; right
          refine ⟨by omega, ?_⟩
          have g3 : ¬ digitV s[k].toNat < 16 := fun h => hlt ⟨by omega, by omega, by omega, h⟩
          omega
      obtain ⟨hkN, hvV⟩ := run_end HR.out hend
      subst hkN hvV
      clear hlt
      have hcase : (s.size : Int) ≤ k ∨ ((k : Int) < s.size ∧ k = 6) ∨ (∃ hk : k < s.size, k < 6 ∧ 16 ≤ digitV s[k].toNat) := by
        rcases hend with h | h | ⟨h1, h2⟩
        · left; omega
        · by_cases g : s.size ≤ k
          · left; omega
          · right; left; omega
        · by_cases g : k = 6
          · right; left; omega
          · right; right; exact ⟨h1, by omega, h2⟩
      clear hend
      rcases hcase with hc | ⟨hc, hk6e⟩ | ⟨hkl, hk6', hdg⟩
      · exact absurd hc (by first | omega | (have := HNN.out; omega))
      · have hk6i : (6 : Int) ≤ k := by omega
        clear hk6e
        go_wp2_with (first
          | (go_at_call 69; refine (HBL.out _).mono ?_; rintro e w9 ⟨rfl, rfl⟩)
          | (go_at_call 70; refine (HCOD.out _).mono ?_; rintro e w9 ⟨⟨y, rfl, hy⟩, hb9⟩; have HY := Lib.hid hy; clear hy))
        go_ret3
        exact ⟨⟨_, rfl, HY.out⟩, hb9⟩
      · obtain ⟨dd, hdd⟩ : ∃ dd, digitV s[k].toNat = dd := ⟨_, rfl⟩
        have hcon := fun w => digit_any s[k].toNat s[k].toNat_lt 16 w
        rw [hdd] at hcon hdg
        have HC := Lib.hid hcon; clear hcon
        have hdi : decide ((dd : Int) < 16) = false := by rw [decide_eq_false_iff_not]; omega
        have h6i : (k : Int) < 6 := by omega
        have hkli : (k : Int) < s.size := by omega
        clear hdd hdg hk6' hv24
        go_wp2_with (first
          | (go_at_call 67; refine (HC.out _).mono ?_; rintro e w9 ⟨rfl, rfl⟩)
          | (go_at_call 69; refine (HBL.out _).mono ?_; rintro e w9 ⟨rfl, rfl⟩)
          | (go_at_call 70; refine (HCOD.out _).mono ?_; rintro e w9 ⟨⟨y, rfl, hy⟩, hb9⟩; have HY := Lib.hid hy; clear hy))
        go_ret3
        exact ⟨⟨_, rfl, HY.out⟩, hb9⟩

set_option maxRecDepth 100000 in
set_option maxHeartbeats 8000000 in
theorem css_e1_hi (s : ByteArray) (V N : Nat) (hp : hexRun 6 s.data.toList 0 0 = (V, N)) (h0 : 0 < s.size) (hn : s[0].toNat ≠ 10 ∧ s[0].toNat ≠ 13 ∧ s[0].toNat ≠ 12) (hN : 0 < N) (hV0 : V ≠ 0) (hVt : V ≤ 0x10ffff) (hVr : 57343 < V) (hE : N < s.size) (hblk : isBlankB s[N].toNat = false) (w : World) (hs : s.size ≤ maxLen) :
    Calls Tryd.prog 47 #[.string s] w fun e w' => RetCss (codedL (cssChar V), N, true) e ∧ Below w.heap.size w w' := by
  have hs0 := hs
  obtain ⟨_, hN6, hNL, hV⟩ := hexRun_bound _ _ _ _ _ _ hp
  have hV24 : V < 16777216 := by
    have h1 := hV (by decide)
    have : (16 : Nat) ^ N ≤ 16 ^ 6 := Nat.pow_le_pow_right (by omega) (by omega)
    omega
  have hNs : N ≤ s.size := by simpa using hNL
  have hne : s.data.toList ≠ [] := by
    intro h
    have h1 := congrArg List.length h
    rw [show s.data.toList.length = s.size by simp] at h1
    simp only [List.length_nil] at h1
    omega
  have e1 : s.toList.isEmpty = false := by rw [Lib.toList_data, List.isEmpty_eq_false_iff]; exact hne
  have e2 : (s.toList = []) = False := by rw [Lib.toList_data]; exact eq_false hne
  have k1 : ((s[0].toNat : Int) == 10) = false := by rw [beq_eq_false_iff_ne]; omega
  have k2 : ((s[0].toNat : Int) == 13) = false := by rw [beq_eq_false_iff_ne]; omega
  have k3 : ((s[0].toNat : Int) == 12) = false := by rw [beq_eq_false_iff_ne]; omega
  have h0' : (0 : Int) < s.size := by omega
  have HRUN : Hid (Run s.data.toList V N 0 0) := Lib.hid ⟨by omega, hp, by decide⟩
  have hvb : ((V : Int) == 0) = false := by rw [beq_eq_false_iff_ne]; omega
  have hvt : decide ((1114111 : Int) < V) = false := by rw [decide_eq_false_iff_not]; omega
  have hN0 : ((N : Int) == 0) = false := by rw [beq_eq_false_iff_ne]; omega
  obtain ⟨x, hx⟩ : ∃ x, cssChar V = x := ⟨_, rfl⟩
  have hx21 : x < 2097152 := by rw [← hx]; unfold cssChar; split <;> omega
  have hcod := fun w => coded_any x w hx21
  have d1 : decide ((55296 : Int) ≤ V) = true := by rw [decide_eq_true_eq]; omega
  have d2 : decide ((V : Int) ≤ 57343) = false := by rw [decide_eq_false_iff_not]; omega
  obtain rfl : V = x := by rw [← hx]; unfold cssChar; rw [if_neg (by omega)]
  have HCOD := Lib.hid hcod
  clear hcod
  rw [hx]
  clear hx
  have hbl := fun w => isBlank_any s[N].toNat w
  rw [hblk] at hbl
  have HBL := Lib.hid hbl
  clear hbl hblk
  clear hp hV hNL hne hn hV24 hN hV0 hVt hVr
  unfold maxLen at hs
  go_enter Tryd.func47, Tryd.ntmps47
  go_wp2_with fail
  go_loop [5, 6] (fun vv i => ∃ k v : Nat, k ≤ s.size ∧ i = .int .i64 k ∧ vv = .int .i64 v ∧ Run s.data.toList V N k v) (fun _ i => 7 - (intOf i).toNat)
  case atStart => exact ⟨0, 0, Nat.zero_le _, rfl, rfl, HRUN.out⟩
  case round =>
    obtain ⟨k, v, hk, rfl, rfl, hr⟩ := hrel
    have HR := Lib.hid hr
    have hv24 := run_v hr
    have hk6 : k ≤ 6 := hr.1
    clear hr
    by_cases hlt : k < s.size ∧ k < 6 ∧ ∃ hk : k < s.size, digitV s[k].toNat < 16
    · obtain ⟨hlt, h6, _, hdg⟩ := hlt
      obtain ⟨dd, hdd⟩ : ∃ dd, digitV s[k].toNat = dd := ⟨_, rfl⟩
      have hcon := fun w => digit_any s[k].toNat s[k].toNat_lt 16 w
      rw [hdd] at hcon hdg
      have HC := Lib.hid hcon; clear hcon
      have HRS := Lib.hid (run_step hlt h6 HR.out hdd hdg)
      have hdi : decide ((dd : Int) < 16) = true := by rw [decide_eq_true_eq]; omega
      have ho := or4 v dd (by omega) hdg
      have h6i : (k : Int) < 6 := by omega
      clear hdd
      go_wp2_with (go_at_call 67; refine (HC.out _).mono ?_; rintro e w' ⟨rfl, rfl⟩)
      go_round
      case rel => exact ⟨k + 1, v * 16 + dd, by omega, by go_num, by go_num, HRS.out⟩
      case measure => simp [intOf]; omega
    · have hend : s.size ≤ k ∨ k = 6 ∨ ∃ hk : k < s.size, 16 ≤ digitV s[k].toNat := by
        by_cases g1 : s.size ≤ k
        · exact .inl g1
        by_cases g2 : k = 6
        · exact .inr (.inl g2)
        · right; right
          refine ⟨by omega, ?_⟩
          have g3 : ¬ digitV s[k].toNat < 16 := fun h => hlt ⟨by omega, by omega, by omega, h⟩
          omega
      obtain ⟨hkN, hvV⟩ := run_end HR.out hend
      subst hkN hvV
      clear hlt
      have hcase : (s.size : Int) ≤ k ∨ ((k : Int) < s.size ∧ k = 6) ∨ (∃ hk : k < s.size, k < 6 ∧ 16 ≤ digitV s[k].toNat) := by
        rcases hend with h | h | ⟨h1, h2⟩
        · left; omega
        · by_cases g : s.size ≤ k
          · left; omega
          · right; left; omega
        · by_cases g : k = 6
          · right; left; omega
          · right; right; exact ⟨h1, by omega, h2⟩
      clear hend
      rcases hcase with hc | ⟨hc, hk6e⟩ | ⟨hkl, hk6', hdg⟩
      · exact absurd hc (by first | omega | (have := HNN.out; omega))
      · have hk6i : (6 : Int) ≤ k := by omega
        clear hk6e
        go_wp2_with (first
          | (go_at_call 69; refine (HBL.out _).mono ?_; rintro e w9 ⟨rfl, rfl⟩)
          | (go_at_call 70; refine (HCOD.out _).mono ?_; rintro e w9 ⟨⟨y, rfl, hy⟩, hb9⟩; have HY := Lib.hid hy; clear hy))
        go_ret3
        exact ⟨⟨_, rfl, HY.out⟩, hb9⟩
      · obtain ⟨dd, hdd⟩ : ∃ dd, digitV s[k].toNat = dd := ⟨_, rfl⟩
        have hcon := fun w => digit_any s[k].toNat s[k].toNat_lt 16 w
        rw [hdd] at hcon hdg
        have HC := Lib.hid hcon; clear hcon
        have hdi : decide ((dd : Int) < 16) = false := by rw [decide_eq_false_iff_not]; omega
        have h6i : (k : Int) < 6 := by omega
        have hkli : (k : Int) < s.size := by omega
        clear hdd hdg hk6' hv24
        go_wp2_with (first
          | (go_at_call 67; refine (HC.out _).mono ?_; rintro e w9 ⟨rfl, rfl⟩)
          | (go_at_call 69; refine (HBL.out _).mono ?_; rintro e w9 ⟨rfl, rfl⟩)
          | (go_at_call 70; refine (HCOD.out _).mono ?_; rintro e w9 ⟨⟨y, rfl, hy⟩, hb9⟩; have HY := Lib.hid hy; clear hy))
        go_ret3
        exact ⟨⟨_, rfl, HY.out⟩, hb9⟩

set_option maxRecDepth 100000 in
set_option maxHeartbeats 8000000 in
theorem css_e2_lo (s : ByteArray) (V N : Nat) (hp : hexRun 6 s.data.toList 0 0 = (V, N)) (h0 : 0 < s.size) (hn : s[0].toNat ≠ 10 ∧ s[0].toNat ≠ 13 ∧ s[0].toNat ≠ 12) (hN : 0 < N) (hV0 : V ≠ 0) (hVt : V ≤ 0x10ffff) (hVr : V < 55296) (hE : N < s.size) (hblk : isBlankB s[N].toNat = true) (h13 : s[N].toNat ≠ 13) (w : World) (hs : s.size ≤ maxLen) :
    Calls Tryd.prog 47 #[.string s] w fun e w' => RetCss (codedL (cssChar V), (N + 1), true) e ∧ Below w.heap.size w w' := by
  have hs0 := hs
  obtain ⟨_, hN6, hNL, hV⟩ := hexRun_bound _ _ _ _ _ _ hp
  have hV24 : V < 16777216 := by
    have h1 := hV (by decide)
    have : (16 : Nat) ^ N ≤ 16 ^ 6 := Nat.pow_le_pow_right (by omega) (by omega)
    omega
  have hNs : N ≤ s.size := by simpa using hNL
  have hne : s.data.toList ≠ [] := by
    intro h
    have h1 := congrArg List.length h
    rw [show s.data.toList.length = s.size by simp] at h1
    simp only [List.length_nil] at h1
    omega
  have e1 : s.toList.isEmpty = false := by rw [Lib.toList_data, List.isEmpty_eq_false_iff]; exact hne
  have e2 : (s.toList = []) = False := by rw [Lib.toList_data]; exact eq_false hne
  have k1 : ((s[0].toNat : Int) == 10) = false := by rw [beq_eq_false_iff_ne]; omega
  have k2 : ((s[0].toNat : Int) == 13) = false := by rw [beq_eq_false_iff_ne]; omega
  have k3 : ((s[0].toNat : Int) == 12) = false := by rw [beq_eq_false_iff_ne]; omega
  have h0' : (0 : Int) < s.size := by omega
  have HRUN : Hid (Run s.data.toList V N 0 0) := Lib.hid ⟨by omega, hp, by decide⟩
  have hvb : ((V : Int) == 0) = false := by rw [beq_eq_false_iff_ne]; omega
  have hvt : decide ((1114111 : Int) < V) = false := by rw [decide_eq_false_iff_not]; omega
  have hN0 : ((N : Int) == 0) = false := by rw [beq_eq_false_iff_ne]; omega
  obtain ⟨x, hx⟩ : ∃ x, cssChar V = x := ⟨_, rfl⟩
  have hx21 : x < 2097152 := by rw [← hx]; unfold cssChar; split <;> omega
  have hcod := fun w => coded_any x w hx21
  have d1 : decide ((55296 : Int) ≤ V) = false := by rw [decide_eq_false_iff_not]; omega
  obtain rfl : V = x := by rw [← hx]; unfold cssChar; rw [if_neg (by omega)]
  have HCOD := Lib.hid hcod
  clear hcod
  rw [hx]
  clear hx
  have hbl := fun w => isBlank_any s[N].toNat w
  rw [hblk] at hbl
  have HBL := Lib.hid hbl
  clear hbl hblk
  have r1 : ((s[N].toNat : Int) == 13) = false := by rw [beq_eq_false_iff_ne]; omega
  clear hp hV hNL hne hn hV24 hN hV0 hVt hVr h13
  unfold maxLen at hs
  go_enter Tryd.func47, Tryd.ntmps47
  go_wp2_with fail
  go_loop [5, 6] (fun vv i => ∃ k v : Nat, k ≤ s.size ∧ i = .int .i64 k ∧ vv = .int .i64 v ∧ Run s.data.toList V N k v) (fun _ i => 7 - (intOf i).toNat)
  case atStart => exact ⟨0, 0, Nat.zero_le _, rfl, rfl, HRUN.out⟩
  case round =>
    obtain ⟨k, v, hk, rfl, rfl, hr⟩ := hrel
    have HR := Lib.hid hr
    have hv24 := run_v hr
    have hk6 : k ≤ 6 := hr.1
    clear hr
    by_cases hlt : k < s.size ∧ k < 6 ∧ ∃ hk : k < s.size, digitV s[k].toNat < 16
    · obtain ⟨hlt, h6, _, hdg⟩ := hlt
      obtain ⟨dd, hdd⟩ : ∃ dd, digitV s[k].toNat = dd := ⟨_, rfl⟩
      have hcon := fun w => digit_any s[k].toNat s[k].toNat_lt 16 w
      rw [hdd] at hcon hdg
      have HC := Lib.hid hcon; clear hcon
      have HRS := Lib.hid (run_step hlt h6 HR.out hdd hdg)
      have hdi : decide ((dd : Int) < 16) = true := by rw [decide_eq_true_eq]; omega
      have ho := or4 v dd (by omega) hdg
      have h6i : (k : Int) < 6 := by omega
      clear hdd
      go_wp2_with (go_at_call 67; refine (HC.out _).mono ?_; rintro e w' ⟨rfl, rfl⟩)
      go_round
      case rel => exact ⟨k + 1, v * 16 + dd, by omega, by go_num, by go_num, HRS.out⟩
      case measure => simp [intOf]; omega
    · have hend : s.size ≤ k ∨ k = 6 ∨ ∃ hk : k < s.size, 16 ≤ digitV s[k].toNat := by
        by_cases g1 : s.size ≤ k
        · exact .inl g1
        by_cases g2 : k = 6
        · exact .inr (.inl g2)
        · right; right
          refine ⟨by omega, ?_⟩
          have g3 : ¬ digitV s[k].toNat < 16 := fun h => hlt ⟨by omega, by omega, by omega, h⟩
          omega
      obtain ⟨hkN, hvV⟩ := run_end HR.out hend
      subst hkN hvV
      clear hlt
      have hcase : (s.size : Int) ≤ k ∨ ((k : Int) < s.size ∧ k = 6) ∨ (∃ hk : k < s.size, k < 6 ∧ 16 ≤ digitV s[k].toNat) := by
        rcases hend with h | h | ⟨h1, h2⟩
        · left; omega
        · by_cases g : s.size ≤ k
          · left; omega
          · right; left; omega
        · by_cases g : k = 6
          · right; left; omega
          · right; right; exact ⟨h1, by omega, h2⟩
      clear hend
      rcases hcase with hc | ⟨hc, hk6e⟩ | ⟨hkl, hk6', hdg⟩
      · exact absurd hc (by first | omega | (have := HNN.out; omega))
      · have hk6i : (6 : Int) ≤ k := by omega
        clear hk6e
        go_wp2_with (first
          | (go_at_call 69; refine (HBL.out _).mono ?_; rintro e w9 ⟨rfl, rfl⟩)
          | (go_at_call 70; refine (HCOD.out _).mono ?_; rintro e w9 ⟨⟨y, rfl, hy⟩, hb9⟩; have HY := Lib.hid hy; clear hy))
        go_ret3
        exact ⟨⟨_, rfl, HY.out⟩, hb9⟩
      · obtain ⟨dd, hdd⟩ : ∃ dd, digitV s[k].toNat = dd := ⟨_, rfl⟩
        have hcon := fun w => digit_any s[k].toNat s[k].toNat_lt 16 w
        rw [hdd] at hcon hdg
        have HC := Lib.hid hcon; clear hcon
        have hdi : decide ((dd : Int) < 16) = false := by rw [decide_eq_false_iff_not]; omega
        have h6i : (k : Int) < 6 := by omega
        have hkli : (k : Int) < s.size := by omega
        clear hdd hdg hk6' hv24
        go_wp2_with (first
          | (go_at_call 67; refine (HC.out _).mono ?_; rintro e w9 ⟨rfl, rfl⟩)
          | (go_at_call 69; refine (HBL.out _).mono ?_; rintro e w9 ⟨rfl, rfl⟩)
          | (go_at_call 70; refine (HCOD.out _).mono ?_; rintro e w9 ⟨⟨y, rfl, hy⟩, hb9⟩; have HY := Lib.hid hy; clear hy))
        go_ret3
        exact ⟨⟨_, rfl, HY.out⟩, hb9⟩

set_option maxRecDepth 100000 in
set_option maxHeartbeats 8000000 in
theorem css_e2_sur (s : ByteArray) (V N : Nat) (hp : hexRun 6 s.data.toList 0 0 = (V, N)) (h0 : 0 < s.size) (hn : s[0].toNat ≠ 10 ∧ s[0].toNat ≠ 13 ∧ s[0].toNat ≠ 12) (hN : 0 < N) (hV0 : V ≠ 0) (hVt : V ≤ 0x10ffff) (hVr : 55296 ≤ V ∧ V ≤ 57343) (hE : N < s.size) (hblk : isBlankB s[N].toNat = true) (h13 : s[N].toNat ≠ 13) (w : World) (hs : s.size ≤ maxLen) :
    Calls Tryd.prog 47 #[.string s] w fun e w' => RetCss (codedL (cssChar V), (N + 1), true) e ∧ Below w.heap.size w w' := by
  have hs0 := hs
  obtain ⟨_, hN6, hNL, hV⟩ := hexRun_bound _ _ _ _ _ _ hp
  have hV24 : V < 16777216 := by
    have h1 := hV (by decide)
    have : (16 : Nat) ^ N ≤ 16 ^ 6 := Nat.pow_le_pow_right (by omega) (by omega)
    omega
  have hNs : N ≤ s.size := by simpa using hNL
  have hne : s.data.toList ≠ [] := by
    intro h
    have h1 := congrArg List.length h
    rw [show s.data.toList.length = s.size by simp] at h1
    simp only [List.length_nil] at h1
    omega
  have e1 : s.toList.isEmpty = false := by rw [Lib.toList_data, List.isEmpty_eq_false_iff]; exact hne
  have e2 : (s.toList = []) = False := by rw [Lib.toList_data]; exact eq_false hne
  have k1 : ((s[0].toNat : Int) == 10) = false := by rw [beq_eq_false_iff_ne]; omega
  have k2 : ((s[0].toNat : Int) == 13) = false := by rw [beq_eq_false_iff_ne]; omega
  have k3 : ((s[0].toNat : Int) == 12) = false := by rw [beq_eq_false_iff_ne]; omega
  have h0' : (0 : Int) < s.size := by omega
  have HRUN : Hid (Run s.data.toList V N 0 0) := Lib.hid ⟨by omega, hp, by decide⟩
  have hvb : ((V : Int) == 0) = false := by rw [beq_eq_false_iff_ne]; omega
  have hvt : decide ((1114111 : Int) < V) = false := by rw [decide_eq_false_iff_not]; omega
  have hN0 : ((N : Int) == 0) = false := by rw [beq_eq_false_iff_ne]; omega
  obtain ⟨x, hx⟩ : ∃ x, cssChar V = x := ⟨_, rfl⟩
  have hx21 : x < 2097152 := by rw [← hx]; unfold cssChar; split <;> omega
  have hcod := fun w => coded_any x w hx21
  have d1 : decide ((55296 : Int) ≤ V) = true := by rw [decide_eq_true_eq]; omega
  have d2 : decide ((V : Int) ≤ 57343) = true := by rw [decide_eq_true_eq]; omega
  have hx65 : x = 65533 := by rw [← hx]; unfold cssChar; rw [if_pos (by omega)]
  rw [hx65] at hcod hx
  rw [show ((65533 : Nat) : Int) = 65533 from rfl] at hcod
  have HCOD := Lib.hid hcod
  clear hcod hx65 hx21
  rw [hx]
  clear hx
  have hbl := fun w => isBlank_any s[N].toNat w
  rw [hblk] at hbl
  have HBL := Lib.hid hbl
  clear hbl hblk
  have r1 : ((s[N].toNat : Int) == 13) = false := by rw [beq_eq_false_iff_ne]; omega
  clear hp hV hNL hne hn hV24 hN hV0 hVt hVr h13
  unfold maxLen at hs
  go_enter Tryd.func47, Tryd.ntmps47
  go_wp2_with fail
  go_loop [5, 6] (fun vv i => ∃ k v : Nat, k ≤ s.size ∧ i = .int .i64 k ∧ vv = .int .i64 v ∧ Run s.data.toList V N k v) (fun _ i => 7 - (intOf i).toNat)
  case atStart => exact ⟨0, 0, Nat.zero_le _, rfl, rfl, HRUN.out⟩
  case round =>
    obtain ⟨k, v, hk, rfl, rfl, hr⟩ := hrel
    have HR := Lib.hid hr
    have hv24 := run_v hr
    have hk6 : k ≤ 6 := hr.1
    clear hr
    by_cases hlt : k < s.size ∧ k < 6 ∧ ∃ hk : k < s.size, digitV s[k].toNat < 16
    · obtain ⟨hlt, h6, _, hdg⟩ := hlt
      obtain ⟨dd, hdd⟩ : ∃ dd, digitV s[k].toNat = dd := ⟨_, rfl⟩
      have hcon := fun w => digit_any s[k].toNat s[k].toNat_lt 16 w
      rw [hdd] at hcon hdg
      have HC := Lib.hid hcon; clear hcon
      have HRS := Lib.hid (run_step hlt h6 HR.out hdd hdg)
      have hdi : decide ((dd : Int) < 16) = true := by rw [decide_eq_true_eq]; omega
      have ho := or4 v dd (by omega) hdg
      have h6i : (k : Int) < 6 := by omega
      clear hdd
      go_wp2_with (go_at_call 67; refine (HC.out _).mono ?_; rintro e w' ⟨rfl, rfl⟩)
      go_round
      case rel => exact ⟨k + 1, v * 16 + dd, by omega, by go_num, by go_num, HRS.out⟩
      case measure => simp [intOf]; omega
    · have hend : s.size ≤ k ∨ k = 6 ∨ ∃ hk : k < s.size, 16 ≤ digitV s[k].toNat := by
        by_cases g1 : s.size ≤ k
        · exact .inl g1
        by_cases g2 : k = 6
        · exact .inr (.inl g2)
        · right; right
          refine ⟨by omega, ?_⟩
          have g3 : ¬ digitV s[k].toNat < 16 := fun h => hlt ⟨by omega, by omega, by omega, h⟩
          omega
      obtain ⟨hkN, hvV⟩ := run_end HR.out hend
      subst hkN hvV
      clear hlt
      have hcase : (s.size : Int) ≤ k ∨ ((k : Int) < s.size ∧ k = 6) ∨ (∃ hk : k < s.size, k < 6 ∧ 16 ≤ digitV s[k].toNat) := by
        rcases hend with h | h | ⟨h1, h2⟩
        · left; omega
        · by_cases g : s.size ≤ k
          · left; omega
          · right; left; omega
        · by_cases g : k = 6
          · right; left; omega
          · right; right; exact ⟨h1, by omega, h2⟩
      clear hend
      rcases hcase with hc | ⟨hc, hk6e⟩ | ⟨hkl, hk6', hdg⟩
      · exact absurd hc (by first | omega | (have := HNN.out; omega))
      · have hk6i : (6 : Int) ≤ k := by omega
        clear hk6e
        go_wp2_with (first
          | (go_at_call 69; refine (HBL.out _).mono ?_; rintro e w9 ⟨rfl, rfl⟩)
          | (go_at_call 70; refine (HCOD.out _).mono ?_; rintro e w9 ⟨⟨y, rfl, hy⟩, hb9⟩; have HY := Lib.hid hy; clear hy))
        go_ret3
        exact ⟨⟨_, rfl, HY.out⟩, hb9⟩
      · obtain ⟨dd, hdd⟩ : ∃ dd, digitV s[k].toNat = dd := ⟨_, rfl⟩
        have hcon := fun w => digit_any s[k].toNat s[k].toNat_lt 16 w
        rw [hdd] at hcon hdg
        have HC := Lib.hid hcon; clear hcon
        have hdi : decide ((dd : Int) < 16) = false := by rw [decide_eq_false_iff_not]; omega
        have h6i : (k : Int) < 6 := by omega
        have hkli : (k : Int) < s.size := by omega
        clear hdd hdg hk6' hv24
        go_wp2_with (first
          | (go_at_call 67; refine (HC.out _).mono ?_; rintro e w9 ⟨rfl, rfl⟩)
          | (go_at_call 69; refine (HBL.out _).mono ?_; rintro e w9 ⟨rfl, rfl⟩)
          | (go_at_call 70; refine (HCOD.out _).mono ?_; rintro e w9 ⟨⟨y, rfl, hy⟩, hb9⟩; have HY := Lib.hid hy; clear hy))
        go_ret3
        exact ⟨⟨_, rfl, HY.out⟩, hb9⟩

set_option maxRecDepth 100000 in
set_option maxHeartbeats 8000000 in
theorem css_e2_hi (s : ByteArray) (V N : Nat) (hp : hexRun 6 s.data.toList 0 0 = (V, N)) (h0 : 0 < s.size) (hn : s[0].toNat ≠ 10 ∧ s[0].toNat ≠ 13 ∧ s[0].toNat ≠ 12) (hN : 0 < N) (hV0 : V ≠ 0) (hVt : V ≤ 0x10ffff) (hVr : 57343 < V) (hE : N < s.size) (hblk : isBlankB s[N].toNat = true) (h13 : s[N].toNat ≠ 13) (w : World) (hs : s.size ≤ maxLen) :
    Calls Tryd.prog 47 #[.string s] w fun e w' => RetCss (codedL (cssChar V), (N + 1), true) e ∧ Below w.heap.size w w' := by
  have hs0 := hs
  obtain ⟨_, hN6, hNL, hV⟩ := hexRun_bound _ _ _ _ _ _ hp
  have hV24 : V < 16777216 := by
    have h1 := hV (by decide)
    have : (16 : Nat) ^ N ≤ 16 ^ 6 := Nat.pow_le_pow_right (by omega) (by omega)
    omega
  have hNs : N ≤ s.size := by simpa using hNL
  have hne : s.data.toList ≠ [] := by
    intro h
    have h1 := congrArg List.length h
    rw [show s.data.toList.length = s.size by simp] at h1
    simp only [List.length_nil] at h1
    omega
  have e1 : s.toList.isEmpty = false := by rw [Lib.toList_data, List.isEmpty_eq_false_iff]; exact hne
  have e2 : (s.toList = []) = False := by rw [Lib.toList_data]; exact eq_false hne
  have k1 : ((s[0].toNat : Int) == 10) = false := by rw [beq_eq_false_iff_ne]; omega
  have k2 : ((s[0].toNat : Int) == 13) = false := by rw [beq_eq_false_iff_ne]; omega
  have k3 : ((s[0].toNat : Int) == 12) = false := by rw [beq_eq_false_iff_ne]; omega
  have h0' : (0 : Int) < s.size := by omega
  have HRUN : Hid (Run s.data.toList V N 0 0) := Lib.hid ⟨by omega, hp, by decide⟩
  have hvb : ((V : Int) == 0) = false := by rw [beq_eq_false_iff_ne]; omega
  have hvt : decide ((1114111 : Int) < V) = false := by rw [decide_eq_false_iff_not]; omega
  have hN0 : ((N : Int) == 0) = false := by rw [beq_eq_false_iff_ne]; omega
  obtain ⟨x, hx⟩ : ∃ x, cssChar V = x := ⟨_, rfl⟩
  have hx21 : x < 2097152 := by rw [← hx]; unfold cssChar; split <;> omega
  have hcod := fun w => coded_any x w hx21
  have d1 : decide ((55296 : Int) ≤ V) = true := by rw [decide_eq_true_eq]; omega
  have d2 : decide ((V : Int) ≤ 57343) = false := by rw [decide_eq_false_iff_not]; omega
  obtain rfl : V = x := by rw [← hx]; unfold cssChar; rw [if_neg (by omega)]
  have HCOD := Lib.hid hcod
  clear hcod
  rw [hx]
  clear hx
  have hbl := fun w => isBlank_any s[N].toNat w
  rw [hblk] at hbl
  have HBL := Lib.hid hbl
  clear hbl hblk
  have r1 : ((s[N].toNat : Int) == 13) = false := by rw [beq_eq_false_iff_ne]; omega
  clear hp hV hNL hne hn hV24 hN hV0 hVt hVr h13
  unfold maxLen at hs
  go_enter Tryd.func47, Tryd.ntmps47
  go_wp2_with fail
  go_loop [5, 6] (fun vv i => ∃ k v : Nat, k ≤ s.size ∧ i = .int .i64 k ∧ vv = .int .i64 v ∧ Run s.data.toList V N k v) (fun _ i => 7 - (intOf i).toNat)
  case atStart => exact ⟨0, 0, Nat.zero_le _, rfl, rfl, HRUN.out⟩
  case round =>
    obtain ⟨k, v, hk, rfl, rfl, hr⟩ := hrel
    have HR := Lib.hid hr
    have hv24 := run_v hr
    have hk6 : k ≤ 6 := hr.1
    clear hr
    by_cases hlt : k < s.size ∧ k < 6 ∧ ∃ hk : k < s.size, digitV s[k].toNat < 16
    · obtain ⟨hlt, h6, _, hdg⟩ := hlt
      obtain ⟨dd, hdd⟩ : ∃ dd, digitV s[k].toNat = dd := ⟨_, rfl⟩
      have hcon := fun w => digit_any s[k].toNat s[k].toNat_lt 16 w
      rw [hdd] at hcon hdg
      have HC := Lib.hid hcon; clear hcon
      have HRS := Lib.hid (run_step hlt h6 HR.out hdd hdg)
      have hdi : decide ((dd : Int) < 16) = true := by rw [decide_eq_true_eq]; omega
      have ho := or4 v dd (by omega) hdg
      have h6i : (k : Int) < 6 := by omega
      clear hdd
      go_wp2_with (go_at_call 67; refine (HC.out _).mono ?_; rintro e w' ⟨rfl, rfl⟩)
      go_round
      case rel => exact ⟨k + 1, v * 16 + dd, by omega, by go_num, by go_num, HRS.out⟩
      case measure => simp [intOf]; omega
    · have hend : s.size ≤ k ∨ k = 6 ∨ ∃ hk : k < s.size, 16 ≤ digitV s[k].toNat := by
        by_cases g1 : s.size ≤ k
        · exact .inl g1
        by_cases g2 : k = 6
        · exact .inr (.inl g2)
        · right; right
          refine ⟨by omega, ?_⟩
          have g3 : ¬ digitV s[k].toNat < 16 := fun h => hlt ⟨by omega, by omega, by omega, h⟩
          omega
      obtain ⟨hkN, hvV⟩ := run_end HR.out hend
      subst hkN hvV
      clear hlt
      have hcase : (s.size : Int) ≤ k ∨ ((k : Int) < s.size ∧ k = 6) ∨ (∃ hk : k < s.size, k < 6 ∧ 16 ≤ digitV s[k].toNat) := by
        rcases hend with h | h | ⟨h1, h2⟩
        · left; omega
        · by_cases g : s.size ≤ k
          · left; omega
          · right; left; omega
        · by_cases g : k = 6
          · right; left; omega
          · right; right; exact ⟨h1, by omega, h2⟩
      clear hend
      rcases hcase with hc | ⟨hc, hk6e⟩ | ⟨hkl, hk6', hdg⟩
      · exact absurd hc (by first | omega | (have := HNN.out; omega))
      · have hk6i : (6 : Int) ≤ k := by omega
        clear hk6e
        go_wp2_with (first
          | (go_at_call 69; refine (HBL.out _).mono ?_; rintro e w9 ⟨rfl, rfl⟩)
          | (go_at_call 70; refine (HCOD.out _).mono ?_; rintro e w9 ⟨⟨y, rfl, hy⟩, hb9⟩; have HY := Lib.hid hy; clear hy))
        go_ret3
        exact ⟨⟨_, rfl, HY.out⟩, hb9⟩
      · obtain ⟨dd, hdd⟩ : ∃ dd, digitV s[k].toNat = dd := ⟨_, rfl⟩
        have hcon := fun w => digit_any s[k].toNat s[k].toNat_lt 16 w
        rw [hdd] at hcon hdg
        have HC := Lib.hid hcon; clear hcon
        have hdi : decide ((dd : Int) < 16) = false := by rw [decide_eq_false_iff_not]; omega
        have h6i : (k : Int) < 6 := by omega
        have hkli : (k : Int) < s.size := by omega
        clear hdd hdg hk6' hv24
        go_wp2_with (first
          | (go_at_call 67; refine (HC.out _).mono ?_; rintro e w9 ⟨rfl, rfl⟩)
          | (go_at_call 69; refine (HBL.out _).mono ?_; rintro e w9 ⟨rfl, rfl⟩)
          | (go_at_call 70; refine (HCOD.out _).mono ?_; rintro e w9 ⟨⟨y, rfl, hy⟩, hb9⟩; have HY := Lib.hid hy; clear hy))
        go_ret3
        exact ⟨⟨_, rfl, HY.out⟩, hb9⟩

set_option maxRecDepth 100000 in
set_option maxHeartbeats 8000000 in
theorem css_e3_lo (s : ByteArray) (V N : Nat) (hp : hexRun 6 s.data.toList 0 0 = (V, N)) (h0 : 0 < s.size) (hn : s[0].toNat ≠ 10 ∧ s[0].toNat ≠ 13 ∧ s[0].toNat ≠ 12) (hN : 0 < N) (hV0 : V ≠ 0) (hVt : V ≤ 0x10ffff) (hVr : V < 55296) (hE : N < s.size) (hE2 : s.size ≤ N + 1) (hblk : isBlankB s[N].toNat = true) (h13 : s[N].toNat = 13) (w : World) (hs : s.size ≤ maxLen) :
    Calls Tryd.prog 47 #[.string s] w fun e w' => RetCss (codedL (cssChar V), (N + 1), true) e ∧ Below w.heap.size w w' := by
  have hs0 := hs
  obtain ⟨_, hN6, hNL, hV⟩ := hexRun_bound _ _ _ _ _ _ hp
  have hV24 : V < 16777216 := by
    have h1 := hV (by decide)
    have : (16 : Nat) ^ N ≤ 16 ^ 6 := Nat.pow_le_pow_right (by omega) (by omega)
    omega
  have hNs : N ≤ s.size := by simpa using hNL
  have hne : s.data.toList ≠ [] := by
    intro h
    have h1 := congrArg List.length h
    rw [show s.data.toList.length = s.size by simp] at h1
    simp only [List.length_nil] at h1
    omega
  have e1 : s.toList.isEmpty = false := by rw [Lib.toList_data, List.isEmpty_eq_false_iff]; exact hne
  have e2 : (s.toList = []) = False := by rw [Lib.toList_data]; exact eq_false hne
  have k1 : ((s[0].toNat : Int) == 10) = false := by rw [beq_eq_false_iff_ne]; omega
  have k2 : ((s[0].toNat : Int) == 13) = false := by rw [beq_eq_false_iff_ne]; omega
  have k3 : ((s[0].toNat : Int) == 12) = false := by rw [beq_eq_false_iff_ne]; omega
  have h0' : (0 : Int) < s.size := by omega
  have HRUN : Hid (Run s.data.toList V N 0 0) := Lib.hid ⟨by omega, hp, by decide⟩
  have hvb : ((V : Int) == 0) = false := by rw [beq_eq_false_iff_ne]; omega
  have hvt : decide ((1114111 : Int) < V) = false := by rw [decide_eq_false_iff_not]; omega
  have hN0 : ((N : Int) == 0) = false := by rw [beq_eq_false_iff_ne]; omega
  obtain ⟨x, hx⟩ : ∃ x, cssChar V = x := ⟨_, rfl⟩
  have hx21 : x < 2097152 := by rw [← hx]; unfold cssChar; split <;> omega
  have hcod := fun w => coded_any x w hx21
  have d1 : decide ((55296 : Int) ≤ V) = false := by rw [decide_eq_false_iff_not]; omega
  obtain rfl : V = x := by rw [← hx]; unfold cssChar; rw [if_neg (by omega)]
  have HCOD := Lib.hid hcod
  clear hcod
  rw [hx]
  clear hx
  have hbl := fun w => isBlank_any s[N].toNat w
  rw [hblk] at hbl
  have HBL := Lib.hid hbl
  clear hbl hblk
  have r1 : ((s[N].toNat : Int) == 13) = true := by rw [beq_iff_eq]; omega
  have r2 : decide ((N : Int) + 1 < s.size) = false := by rw [decide_eq_false_iff_not]; omega
  have hEi : (N : Int) < s.size := by omega
  clear hp hV hNL hne hn hV24 hN hV0 hVt hVr h13
  unfold maxLen at hs
  go_enter Tryd.func47, Tryd.ntmps47
  go_wp2_with fail
  go_loop [5, 6] (fun vv i => ∃ k v : Nat, k ≤ s.size ∧ i = .int .i64 k ∧ vv = .int .i64 v ∧ Run s.data.toList V N k v) (fun _ i => 7 - (intOf i).toNat)
  case atStart => exact ⟨0, 0, Nat.zero_le _, rfl, rfl, HRUN.out⟩
  case round =>
    obtain ⟨k, v, hk, rfl, rfl, hr⟩ := hrel
    have HR := Lib.hid hr
    have hv24 := run_v hr
    have hk6 : k ≤ 6 := hr.1
    clear hr
    by_cases hlt : k < s.size ∧ k < 6 ∧ ∃ hk : k < s.size, digitV s[k].toNat < 16
    · obtain ⟨hlt, h6, _, hdg⟩ := hlt
      obtain ⟨dd, hdd⟩ : ∃ dd, digitV s[k].toNat = dd := ⟨_, rfl⟩
      have hcon := fun w => digit_any s[k].toNat s[k].toNat_lt 16 w
      rw [hdd] at hcon hdg
      have HC := Lib.hid hcon; clear hcon
      have HRS := Lib.hid (run_step hlt h6 HR.out hdd hdg)
      have hdi : decide ((dd : Int) < 16) = true := by rw [decide_eq_true_eq]; omega
      have ho := or4 v dd (by omega) hdg
      have h6i : (k : Int) < 6 := by omega
      clear hdd
      go_wp2_with (go_at_call 67; refine (HC.out _).mono ?_; rintro e w' ⟨rfl, rfl⟩)
      go_round
      case rel => exact ⟨k + 1, v * 16 + dd, by omega, by go_num, by go_num, HRS.out⟩
      case measure => simp [intOf]; omega
    · have hend : s.size ≤ k ∨ k = 6 ∨ ∃ hk : k < s.size, 16 ≤ digitV s[k].toNat := by
        by_cases g1 : s.size ≤ k
        · exact .inl g1
        by_cases g2 : k = 6
        · exact .inr (.inl g2)
        · right; right
          refine ⟨by omega, ?_⟩
          have g3 : ¬ digitV s[k].toNat < 16 := fun h => hlt ⟨by omega, by omega, by omega, h⟩
          omega
      obtain ⟨hkN, hvV⟩ := run_end HR.out hend
      subst hkN hvV
      clear hlt
      have hcase : (s.size : Int) ≤ k ∨ ((k : Int) < s.size ∧ k = 6) ∨ (∃ hk : k < s.size, k < 6 ∧ 16 ≤ digitV s[k].toNat) := by
        rcases hend with h | h | ⟨h1, h2⟩
        · left; omega
        · by_cases g : s.size ≤ k
          · left; omega
          · right; left; omega
        · by_cases g : k = 6
          · right; left; omega
          · right; right; exact ⟨h1, by omega, h2⟩
      clear hend
      rcases hcase with hc | ⟨hc, hk6e⟩ | ⟨hkl, hk6', hdg⟩
      · exact absurd hc (by first | omega | (have := HNN.out; omega))
      · have hk6i : (6 : Int) ≤ k := by omega
        clear hk6e
        go_wp2_with (first
          | (go_at_call 69; refine (HBL.out _).mono ?_; rintro e w9 ⟨rfl, rfl⟩)
          | (go_at_call 70; refine (HCOD.out _).mono ?_; rintro e w9 ⟨⟨y, rfl, hy⟩, hb9⟩; have HY := Lib.hid hy; clear hy))
        go_ret3
        exact ⟨⟨_, rfl, HY.out⟩, hb9⟩
      · obtain ⟨dd, hdd⟩ : ∃ dd, digitV s[k].toNat = dd := ⟨_, rfl⟩
        have hcon := fun w => digit_any s[k].toNat s[k].toNat_lt 16 w
        rw [hdd] at hcon hdg
        have HC := Lib.hid hcon; clear hcon
        have hdi : decide ((dd : Int) < 16) = false := by rw [decide_eq_false_iff_not]; omega
        have h6i : (k : Int) < 6 := by omega
        have hkli : (k : Int) < s.size := by omega
        clear hdd hdg hk6' hv24
        go_wp2_with (first
          | (go_at_call 67; refine (HC.out _).mono ?_; rintro e w9 ⟨rfl, rfl⟩)
          | (go_at_call 69; refine (HBL.out _).mono ?_; rintro e w9 ⟨rfl, rfl⟩)
          | (go_at_call 70; refine (HCOD.out _).mono ?_; rintro e w9 ⟨⟨y, rfl, hy⟩, hb9⟩; have HY := Lib.hid hy; clear hy))
        go_ret3
        exact ⟨⟨_, rfl, HY.out⟩, hb9⟩

set_option maxRecDepth 100000 in
set_option maxHeartbeats 8000000 in
theorem css_e3_sur (s : ByteArray) (V N : Nat) (hp : hexRun 6 s.data.toList 0 0 = (V, N)) (h0 : 0 < s.size) (hn : s[0].toNat ≠ 10 ∧ s[0].toNat ≠ 13 ∧ s[0].toNat ≠ 12) (hN : 0 < N) (hV0 : V ≠ 0) (hVt : V ≤ 0x10ffff) (hVr : 55296 ≤ V ∧ V ≤ 57343) (hE : N < s.size) (hE2 : s.size ≤ N + 1) (hblk : isBlankB s[N].toNat = true) (h13 : s[N].toNat = 13) (w : World) (hs : s.size ≤ maxLen) :
    Calls Tryd.prog 47 #[.string s] w fun e w' => RetCss (codedL (cssChar V), (N + 1), true) e ∧ Below w.heap.size w w' := by
  have hs0 := hs
  obtain ⟨_, hN6, hNL, hV⟩ := hexRun_bound _ _ _ _ _ _ hp
  have hV24 : V < 16777216 := by
    have h1 := hV (by decide)
    have : (16 : Nat) ^ N ≤ 16 ^ 6 := Nat.pow_le_pow_right (by omega) (by omega)
    omega
  have hNs : N ≤ s.size := by simpa using hNL
  have hne : s.data.toList ≠ [] := by
    intro h
    have h1 := congrArg List.length h
    rw [show s.data.toList.length = s.size by simp] at h1
    simp only [List.length_nil] at h1
    omega
  have e1 : s.toList.isEmpty = false := by rw [Lib.toList_data, List.isEmpty_eq_false_iff]; exact hne
  have e2 : (s.toList = []) = False := by rw [Lib.toList_data]; exact eq_false hne
  have k1 : ((s[0].toNat : Int) == 10) = false := by rw [beq_eq_false_iff_ne]; omega
  have k2 : ((s[0].toNat : Int) == 13) = false := by rw [beq_eq_false_iff_ne]; omega
  have k3 : ((s[0].toNat : Int) == 12) = false := by rw [beq_eq_false_iff_ne]; omega
  have h0' : (0 : Int) < s.size := by omega
  have HRUN : Hid (Run s.data.toList V N 0 0) := Lib.hid ⟨by omega, hp, by decide⟩
  have hvb : ((V : Int) == 0) = false := by rw [beq_eq_false_iff_ne]; omega
  have hvt : decide ((1114111 : Int) < V) = false := by rw [decide_eq_false_iff_not]; omega
  have hN0 : ((N : Int) == 0) = false := by rw [beq_eq_false_iff_ne]; omega
  obtain ⟨x, hx⟩ : ∃ x, cssChar V = x := ⟨_, rfl⟩
  have hx21 : x < 2097152 := by rw [← hx]; unfold cssChar; split <;> omega
  have hcod := fun w => coded_any x w hx21
  have d1 : decide ((55296 : Int) ≤ V) = true := by rw [decide_eq_true_eq]; omega
  have d2 : decide ((V : Int) ≤ 57343) = true := by rw [decide_eq_true_eq]; omega
  have hx65 : x = 65533 := by rw [← hx]; unfold cssChar; rw [if_pos (by omega)]
  rw [hx65] at hcod hx
  rw [show ((65533 : Nat) : Int) = 65533 from rfl] at hcod
  have HCOD := Lib.hid hcod
  clear hcod hx65 hx21
  rw [hx]
  clear hx
  have hbl := fun w => isBlank_any s[N].toNat w
  rw [hblk] at hbl
  have HBL := Lib.hid hbl
  clear hbl hblk
  have r1 : ((s[N].toNat : Int) == 13) = true := by rw [beq_iff_eq]; omega
  have r2 : decide ((N : Int) + 1 < s.size) = false := by rw [decide_eq_false_iff_not]; omega
  have hEi : (N : Int) < s.size := by omega
  clear hp hV hNL hne hn hV24 hN hV0 hVt hVr h13
  unfold maxLen at hs
  go_enter Tryd.func47, Tryd.ntmps47
  go_wp2_with fail
  go_loop [5, 6] (fun vv i => ∃ k v : Nat, k ≤ s.size ∧ i = .int .i64 k ∧ vv = .int .i64 v ∧ Run s.data.toList V N k v) (fun _ i => 7 - (intOf i).toNat)
  case atStart => exact ⟨0, 0, Nat.zero_le _, rfl, rfl, HRUN.out⟩
  case round =>
    obtain ⟨k, v, hk, rfl, rfl, hr⟩ := hrel
    have HR := Lib.hid hr
    have hv24 := run_v hr
    have hk6 : k ≤ 6 := hr.1
    clear hr
    by_cases hlt : k < s.size ∧ k < 6 ∧ ∃ hk : k < s.size, digitV s[k].toNat < 16
    · obtain ⟨hlt, h6, _, hdg⟩ := hlt
      obtain ⟨dd, hdd⟩ : ∃ dd, digitV s[k].toNat = dd := ⟨_, rfl⟩
      have hcon := fun w => digit_any s[k].toNat s[k].toNat_lt 16 w
      rw [hdd] at hcon hdg
      have HC := Lib.hid hcon; clear hcon
      have HRS := Lib.hid (run_step hlt h6 HR.out hdd hdg)
      have hdi : decide ((dd : Int) < 16) = true := by rw [decide_eq_true_eq]; omega
      have ho := or4 v dd (by omega) hdg
      have h6i : (k : Int) < 6 := by omega
      clear hdd
      go_wp2_with (go_at_call 67; refine (HC.out _).mono ?_; rintro e w' ⟨rfl, rfl⟩)
      go_round
      case rel => exact ⟨k + 1, v * 16 + dd, by omega, by go_num, by go_num, HRS.out⟩
      case measure => simp [intOf]; omega
    · have hend : s.size ≤ k ∨ k = 6 ∨ ∃ hk : k < s.size, 16 ≤ digitV s[k].toNat := by
        by_cases g1 : s.size ≤ k
        · exact .inl g1
        by_cases g2 : k = 6
        · exact .inr (.inl g2)
        · right; right
          refine ⟨by omega, ?_⟩
          have g3 : ¬ digitV s[k].toNat < 16 := fun h => hlt ⟨by omega, by omega, by omega, h⟩
          omega
      obtain ⟨hkN, hvV⟩ := run_end HR.out hend
      subst hkN hvV
      clear hlt
      have hcase : (s.size : Int) ≤ k ∨ ((k : Int) < s.size ∧ k = 6) ∨ (∃ hk : k < s.size, k < 6 ∧ 16 ≤ digitV s[k].toNat) := by
        rcases hend with h | h | ⟨h1, h2⟩
        · left; omega
        · by_cases g : s.size ≤ k
          · left; omega
          · right; left; omega
        · by_cases g : k = 6
          · right; left; omega
          · right; right; exact ⟨h1, by omega, h2⟩
      clear hend
      rcases hcase with hc | ⟨hc, hk6e⟩ | ⟨hkl, hk6', hdg⟩
      · exact absurd hc (by first | omega | (have := HNN.out; omega))
      · have hk6i : (6 : Int) ≤ k := by omega
        clear hk6e
        go_wp2_with (first
          | (go_at_call 69; refine (HBL.out _).mono ?_; rintro e w9 ⟨rfl, rfl⟩)
          | (go_at_call 70; refine (HCOD.out _).mono ?_; rintro e w9 ⟨⟨y, rfl, hy⟩, hb9⟩; have HY := Lib.hid hy; clear hy))
        go_ret3
        exact ⟨⟨_, rfl, HY.out⟩, hb9⟩
      · obtain ⟨dd, hdd⟩ : ∃ dd, digitV s[k].toNat = dd := ⟨_, rfl⟩
        have hcon := fun w => digit_any s[k].toNat s[k].toNat_lt 16 w
        rw [hdd] at hcon hdg
        have HC := Lib.hid hcon; clear hcon
        have hdi : decide ((dd : Int) < 16) = false := by rw [decide_eq_false_iff_not]; omega
        have h6i : (k : Int) < 6 := by omega
        have hkli : (k : Int) < s.size := by omega
        clear hdd hdg hk6' hv24
        go_wp2_with (first
          | (go_at_call 67; refine (HC.out _).mono ?_; rintro e w9 ⟨rfl, rfl⟩)
          | (go_at_call 69; refine (HBL.out _).mono ?_; rintro e w9 ⟨rfl, rfl⟩)
          | (go_at_call 70; refine (HCOD.out _).mono ?_; rintro e w9 ⟨⟨y, rfl, hy⟩, hb9⟩; have HY := Lib.hid hy; clear hy))
        go_ret3
        exact ⟨⟨_, rfl, HY.out⟩, hb9⟩

set_option maxRecDepth 100000 in
set_option maxHeartbeats 8000000 in
theorem css_e3_hi (s : ByteArray) (V N : Nat) (hp : hexRun 6 s.data.toList 0 0 = (V, N)) (h0 : 0 < s.size) (hn : s[0].toNat ≠ 10 ∧ s[0].toNat ≠ 13 ∧ s[0].toNat ≠ 12) (hN : 0 < N) (hV0 : V ≠ 0) (hVt : V ≤ 0x10ffff) (hVr : 57343 < V) (hE : N < s.size) (hE2 : s.size ≤ N + 1) (hblk : isBlankB s[N].toNat = true) (h13 : s[N].toNat = 13) (w : World) (hs : s.size ≤ maxLen) :
    Calls Tryd.prog 47 #[.string s] w fun e w' => RetCss (codedL (cssChar V), (N + 1), true) e ∧ Below w.heap.size w w' := by
  have hs0 := hs
  obtain ⟨_, hN6, hNL, hV⟩ := hexRun_bound _ _ _ _ _ _ hp
  have hV24 : V < 16777216 := by
    have h1 := hV (by decide)
    have : (16 : Nat) ^ N ≤ 16 ^ 6 := Nat.pow_le_pow_right (by omega) (by omega)
    omega
  have hNs : N ≤ s.size := by simpa using hNL
  have hne : s.data.toList ≠ [] := by
    intro h
    have h1 := congrArg List.length h
    rw [show s.data.toList.length = s.size by simp] at h1
    simp only [List.length_nil] at h1
    omega
  have e1 : s.toList.isEmpty = false := by rw [Lib.toList_data, List.isEmpty_eq_false_iff]; exact hne
  have e2 : (s.toList = []) = False := by rw [Lib.toList_data]; exact eq_false hne
  have k1 : ((s[0].toNat : Int) == 10) = false := by rw [beq_eq_false_iff_ne]; omega
  have k2 : ((s[0].toNat : Int) == 13) = false := by rw [beq_eq_false_iff_ne]; omega
  have k3 : ((s[0].toNat : Int) == 12) = false := by rw [beq_eq_false_iff_ne]; omega
  have h0' : (0 : Int) < s.size := by omega
  have HRUN : Hid (Run s.data.toList V N 0 0) := Lib.hid ⟨by omega, hp, by decide⟩
  have hvb : ((V : Int) == 0) = false := by rw [beq_eq_false_iff_ne]; omega
  have hvt : decide ((1114111 : Int) < V) = false := by rw [decide_eq_false_iff_not]; omega
  have hN0 : ((N : Int) == 0) = false := by rw [beq_eq_false_iff_ne]; omega
  obtain ⟨x, hx⟩ : ∃ x, cssChar V = x := ⟨_, rfl⟩
  have hx21 : x < 2097152 := by rw [← hx]; unfold cssChar; split <;> omega
  have hcod := fun w => coded_any x w hx21
  have d1 : decide ((55296 : Int) ≤ V) = true := by rw [decide_eq_true_eq]; omega
  have d2 : decide ((V : Int) ≤ 57343) = false := by rw [decide_eq_false_iff_not]; omega
  obtain rfl : V = x := by rw [← hx]; unfold cssChar; rw [if_neg (by omega)]
  have HCOD := Lib.hid hcod
  clear hcod
  rw [hx]
  clear hx
  have hbl := fun w => isBlank_any s[N].toNat w
  rw [hblk] at hbl
  have HBL := Lib.hid hbl
  clear hbl hblk
  have r1 : ((s[N].toNat : Int) == 13) = true := by rw [beq_iff_eq]; omega
  have r2 : decide ((N : Int) + 1 < s.size) = false := by rw [decide_eq_false_iff_not]; omega
  have hEi : (N : Int) < s.size := by omega
  clear hp hV hNL hne hn hV24 hN hV0 hVt hVr h13
  unfold maxLen at hs
  go_enter Tryd.func47, Tryd.ntmps47
  go_wp2_with fail
  go_loop [5, 6] (fun vv i => ∃ k v : Nat, k ≤ s.size ∧ i = .int .i64 k ∧ vv = .int .i64 v ∧ Run s.data.toList V N k v) (fun _ i => 7 - (intOf i).toNat)
  case atStart => exact ⟨0, 0, Nat.zero_le _, rfl, rfl, HRUN.out⟩
  case round =>
    obtain ⟨k, v, hk, rfl, rfl, hr⟩ := hrel
    have HR := Lib.hid hr
    have hv24 := run_v hr
    have hk6 : k ≤ 6 := hr.1
    clear hr
    by_cases hlt : k < s.size ∧ k < 6 ∧ ∃ hk : k < s.size, digitV s[k].toNat < 16
    · obtain ⟨hlt, h6, _, hdg⟩ := hlt
      obtain ⟨dd, hdd⟩ : ∃ dd, digitV s[k].toNat = dd := ⟨_, rfl⟩
      have hcon := fun w => digit_any s[k].toNat s[k].toNat_lt 16 w
      rw [hdd] at hcon hdg
      have HC := Lib.hid hcon; clear hcon
      have HRS := Lib.hid (run_step hlt h6 HR.out hdd hdg)
      have hdi : decide ((dd : Int) < 16) = true := by rw [decide_eq_true_eq]; omega
      have ho := or4 v dd (by omega) hdg
      have h6i : (k : Int) < 6 := by omega
      clear hdd
      go_wp2_with (go_at_call 67; refine (HC.out _).mono ?_; rintro e w' ⟨rfl, rfl⟩)
      go_round
      case rel => exact ⟨k + 1, v * 16 + dd, by omega, by go_num, by go_num, HRS.out⟩
      case measure => simp [intOf]; omega
    · have hend : s.size ≤ k ∨ k = 6 ∨ ∃ hk : k < s.size, 16 ≤ digitV s[k].toNat := by
        by_cases g1 : s.size ≤ k
        · exact .inl g1
        by_cases g2 : k = 6
        · exact .inr (.inl g2)
        · right; right
          refine ⟨by omega, ?_⟩
          have g3 : ¬ digitV s[k].toNat < 16 := fun h => hlt ⟨by omega, by omega, by omega, h⟩
          omega
      obtain ⟨hkN, hvV⟩ := run_end HR.out hend
      subst hkN hvV
      clear hlt
      have hcase : (s.size : Int) ≤ k ∨ ((k : Int) < s.size ∧ k = 6) ∨ (∃ hk : k < s.size, k < 6 ∧ 16 ≤ digitV s[k].toNat) := by
        rcases hend with h | h | ⟨h1, h2⟩
        · left; omega
        · by_cases g : s.size ≤ k
          · left; omega
          · right; left; omega
        · by_cases g : k = 6
          · right; left; omega
          · right; right; exact ⟨h1, by omega, h2⟩
      clear hend
      rcases hcase with hc | ⟨hc, hk6e⟩ | ⟨hkl, hk6', hdg⟩
      · exact absurd hc (by first | omega | (have := HNN.out; omega))
      · have hk6i : (6 : Int) ≤ k := by omega
        clear hk6e
        go_wp2_with (first
          | (go_at_call 69; refine (HBL.out _).mono ?_; rintro e w9 ⟨rfl, rfl⟩)
          | (go_at_call 70; refine (HCOD.out _).mono ?_; rintro e w9 ⟨⟨y, rfl, hy⟩, hb9⟩; have HY := Lib.hid hy; clear hy))
        go_ret3
        exact ⟨⟨_, rfl, HY.out⟩, hb9⟩
      · obtain ⟨dd, hdd⟩ : ∃ dd, digitV s[k].toNat = dd := ⟨_, rfl⟩
        have hcon := fun w => digit_any s[k].toNat s[k].toNat_lt 16 w
        rw [hdd] at hcon hdg
        have HC := Lib.hid hcon; clear hcon
        have hdi : decide ((dd : Int) < 16) = false := by rw [decide_eq_false_iff_not]; omega
        have h6i : (k : Int) < 6 := by omega
        have hkli : (k : Int) < s.size := by omega
        clear hdd hdg hk6' hv24
        go_wp2_with (first
          | (go_at_call 67; refine (HC.out _).mono ?_; rintro e w9 ⟨rfl, rfl⟩)
          | (go_at_call 69; refine (HBL.out _).mono ?_; rintro e w9 ⟨rfl, rfl⟩)
          | (go_at_call 70; refine (HCOD.out _).mono ?_; rintro e w9 ⟨⟨y, rfl, hy⟩, hb9⟩; have HY := Lib.hid hy; clear hy))
        go_ret3
        exact ⟨⟨_, rfl, HY.out⟩, hb9⟩

set_option maxRecDepth 100000 in
set_option maxHeartbeats 8000000 in
theorem css_e4_lo (s : ByteArray) (V N : Nat) (hp : hexRun 6 s.data.toList 0 0 = (V, N)) (h0 : 0 < s.size) (hn : s[0].toNat ≠ 10 ∧ s[0].toNat ≠ 13 ∧ s[0].toNat ≠ 12) (hN : 0 < N) (hV0 : V ≠ 0) (hVt : V ≤ 0x10ffff) (hVr : V < 55296) (hE : N + 1 < s.size) (hblk : isBlankB s[N].toNat = true) (h13 : s[N].toNat = 13) (h10 : s[N + 1].toNat ≠ 10) (w : World) (hs : s.size ≤ maxLen) :
    Calls Tryd.prog 47 #[.string s] w fun e w' => RetCss (codedL (cssChar V), (N + 1), true) e ∧ Below w.heap.size w w' := by
  have hs0 := hs
  obtain ⟨_, hN6, hNL, hV⟩ := hexRun_bound _ _ _ _ _ _ hp
  have hV24 : V < 16777216 := by
    have h1 := hV (by decide)
    have : (16 : Nat) ^ N ≤ 16 ^ 6 := Nat.pow_le_pow_right (by omega) (by omega)
    omega
  have hNs : N ≤ s.size := by simpa using hNL
  have hne : s.data.toList ≠ [] := by
    intro h
    have h1 := congrArg List.length h
    rw [show s.data.toList.length = s.size by simp] at h1
    simp only [List.length_nil] at h1
    omega
  have e1 : s.toList.isEmpty = false := by rw [Lib.toList_data, List.isEmpty_eq_false_iff]; exact hne
  have e2 : (s.toList = []) = False := by rw [Lib.toList_data]; exact eq_false hne
  have k1 : ((s[0].toNat : Int) == 10) = false := by rw [beq_eq_false_iff_ne]; omega
  have k2 : ((s[0].toNat : Int) == 13) = false := by rw [beq_eq_false_iff_ne]; omega
  have k3 : ((s[0].toNat : Int) == 12) = false := by rw [beq_eq_false_iff_ne]; omega
  have h0' : (0 : Int) < s.size := by omega
  have HRUN : Hid (Run s.data.toList V N 0 0) := Lib.hid ⟨by omega, hp, by decide⟩
  have hvb : ((V : Int) == 0) = false := by rw [beq_eq_false_iff_ne]; omega
  have hvt : decide ((1114111 : Int) < V) = false := by rw [decide_eq_false_iff_not]; omega
  have hN0 : ((N : Int) == 0) = false := by rw [beq_eq_false_iff_ne]; omega
  obtain ⟨x, hx⟩ : ∃ x, cssChar V = x := ⟨_, rfl⟩
  have hx21 : x < 2097152 := by rw [← hx]; unfold cssChar; split <;> omega
  have hcod := fun w => coded_any x w hx21
  have d1 : decide ((55296 : Int) ≤ V) = false := by rw [decide_eq_false_iff_not]; omega
  obtain rfl : V = x := by rw [← hx]; unfold cssChar; rw [if_neg (by omega)]
  have HCOD := Lib.hid hcod
  clear hcod
  rw [hx]
  clear hx
  have hbl := fun w => isBlank_any s[N].toNat w
  rw [hblk] at hbl
  have HBL := Lib.hid hbl
  clear hbl hblk
  have r1 : ((s[N].toNat : Int) == 13) = true := by rw [beq_iff_eq]; omega
  have r3 : ((s[N + 1].toNat : Int) == 10) = false := by rw [beq_eq_false_iff_ne]; omega
  have hEi : (N : Int) + 1 < s.size := by omega
  clear hp hV hNL hne hn hV24 hN hV0 hVt hVr h13 h10
  unfold maxLen at hs
  go_enter Tryd.func47, Tryd.ntmps47
  go_wp2_with fail
  go_loop [5, 6] (fun vv i => ∃ k v : Nat, k ≤ s.size ∧ i = .int .i64 k ∧ vv = .int .i64 v ∧ Run s.data.toList V N k v) (fun _ i => 7 - (intOf i).toNat)
  case atStart => exact ⟨0, 0, Nat.zero_le _, rfl, rfl, HRUN.out⟩
  case round =>
    obtain ⟨k, v, hk, rfl, rfl, hr⟩ := hrel
    have HR := Lib.hid hr
    have hv24 := run_v hr
    have hk6 : k ≤ 6 := hr.1
    clear hr
    by_cases hlt : k < s.size ∧ k < 6 ∧ ∃ hk : k < s.size, digitV s[k].toNat < 16
    · obtain ⟨hlt, h6, _, hdg⟩ := hlt
      obtain ⟨dd, hdd⟩ : ∃ dd, digitV s[k].toNat = dd := ⟨_, rfl⟩
      have hcon := fun w => digit_any s[k].toNat s[k].toNat_lt 16 w
      rw [hdd] at hcon hdg
      have HC := Lib.hid hcon; clear hcon
      have HRS := Lib.hid (run_step hlt h6 HR.out hdd hdg)
      have hdi : decide ((dd : Int) < 16) = true := by rw [decide_eq_true_eq]; omega
      have ho := or4 v dd (by omega) hdg
      have h6i : (k : Int) < 6 := by omega
      clear hdd
      go_wp2_with (go_at_call 67; refine (HC.out _).mono ?_; rintro e w' ⟨rfl, rfl⟩)
      go_round
      case rel => exact ⟨k + 1, v * 16 + dd, by omega, by go_num, by go_num, HRS.out⟩
      case measure => simp [intOf]; omega
    · have hend : s.size ≤ k ∨ k = 6 ∨ ∃ hk : k < s.size, 16 ≤ digitV s[k].toNat := by
        by_cases g1 : s.size ≤ k
        · exact .inl g1
        by_cases g2 : k = 6
        · exact .inr (.inl g2)
        · right; right
          refine ⟨by omega, ?_⟩
          have g3 : ¬ digitV s[k].toNat < 16 := fun h => hlt ⟨by omega, by omega, by omega, h⟩
          omega
      obtain ⟨hkN, hvV⟩ := run_end HR.out hend
      subst hkN hvV
      clear hlt
      have hcase : (s.size : Int) ≤ k ∨ ((k : Int) < s.size ∧ k = 6) ∨ (∃ hk : k < s.size, k < 6 ∧ 16 ≤ digitV s[k].toNat) := by
        rcases hend with h | h | ⟨h1, h2⟩
        · left; omega
        · by_cases g : s.size ≤ k
          · left; omega
          · right; left; omega
        · by_cases g : k = 6
          · right; left; omega
          · right; right; exact ⟨h1, by omega, h2⟩
      clear hend
      rcases hcase with hc | ⟨hc, hk6e⟩ | ⟨hkl, hk6', hdg⟩
      · exact absurd hc (by first | omega | (have := HNN.out; omega))
      · have hk6i : (6 : Int) ≤ k := by omega
        clear hk6e
        go_wp2_with (first
          | (go_at_call 69; refine (HBL.out _).mono ?_; rintro e w9 ⟨rfl, rfl⟩)
          | (go_at_call 70; refine (HCOD.out _).mono ?_; rintro e w9 ⟨⟨y, rfl, hy⟩, hb9⟩; have HY := Lib.hid hy; clear hy))
        go_ret3
        exact ⟨⟨_, rfl, HY.out⟩, hb9⟩
      · obtain ⟨dd, hdd⟩ : ∃ dd, digitV s[k].toNat = dd := ⟨_, rfl⟩
        have hcon := fun w => digit_any s[k].toNat s[k].toNat_lt 16 w
        rw [hdd] at hcon hdg
        have HC := Lib.hid hcon; clear hcon
        have hdi : decide ((dd : Int) < 16) = false := by rw [decide_eq_false_iff_not]; omega
        have h6i : (k : Int) < 6 := by omega
        have hkli : (k : Int) < s.size := by omega
        clear hdd hdg hk6' hv24
        go_wp2_with (first
          | (go_at_call 67; refine (HC.out _).mono ?_; rintro e w9 ⟨rfl, rfl⟩)
          | (go_at_call 69; refine (HBL.out _).mono ?_; rintro e w9 ⟨rfl, rfl⟩)
          | (go_at_call 70; refine (HCOD.out _).mono ?_; rintro e w9 ⟨⟨y, rfl, hy⟩, hb9⟩; have HY := Lib.hid hy; clear hy))
        go_ret3
        exact ⟨⟨_, rfl, HY.out⟩, hb9⟩

set_option maxRecDepth 100000 in
set_option maxHeartbeats 8000000 in
theorem css_e4_sur (s : ByteArray) (V N : Nat) (hp : hexRun 6 s.data.toList 0 0 = (V, N)) (h0 : 0 < s.size) (hn : s[0].toNat ≠ 10 ∧ s[0].toNat ≠ 13 ∧ s[0].toNat ≠ 12) (hN : 0 < N) (hV0 : V ≠ 0) (hVt : V ≤ 0x10ffff) (hVr : 55296 ≤ V ∧ V ≤ 57343) (hE : N + 1 < s.size) (hblk : isBlankB s[N].toNat = true) (h13 : s[N].toNat = 13) (h10 : s[N + 1].toNat ≠ 10) (w : World) (hs : s.size ≤ maxLen) :
    Calls Tryd.prog 47 #[.string s] w fun e w' => RetCss (codedL (cssChar V), (N + 1), true) e ∧ Below w.heap.size w w' := by
  have hs0 := hs
  obtain ⟨_, hN6, hNL, hV⟩ := hexRun_bound _ _ _ _ _ _ hp
  have hV24 : V < 16777216 := by
    have h1 := hV (by decide)
    have : (16 : Nat) ^ N ≤ 16 ^ 6 := Nat.pow_le_pow_right (by omega) (by omega)
    omega
  have hNs : N ≤ s.size := by simpa using hNL
  have hne : s.data.toList ≠ [] := by
    intro h
    have h1 := congrArg List.length h
    rw [show s.data.toList.length = s.size by simp] at h1
    simp only [List.length_nil] at h1
    omega
  have e1 : s.toList.isEmpty = false := by rw [Lib.toList_data, List.isEmpty_eq_false_iff]; exact hne
  have e2 : (s.toList = []) = False := by rw [Lib.toList_data]; exact eq_false hne
  have k1 : ((s[0].toNat : Int) == 10) = false := by rw [beq_eq_false_iff_ne]; omega
  have k2 : ((s[0].toNat : Int) == 13) = false := by rw [beq_eq_false_iff_ne]; omega
  have k3 : ((s[0].toNat : Int) == 12) = false := by rw [beq_eq_false_iff_ne]; omega
  have h0' : (0 : Int) < s.size := by omega
  have HRUN : Hid (Run s.data.toList V N 0 0) := Lib.hid ⟨by omega, hp, by decide⟩
  have hvb : ((V : Int) == 0) = false := by rw [beq_eq_false_iff_ne]; omega
  have hvt : decide ((1114111 : Int) < V) = false := by rw [decide_eq_false_iff_not]; omega
  have hN0 : ((N : Int) == 0) = false := by rw [beq_eq_false_iff_ne]; omega
  obtain ⟨x, hx⟩ : ∃ x, cssChar V = x := ⟨_, rfl⟩
  have hx21 : x < 2097152 := by rw [← hx]; unfold cssChar; split <;> omega
  have hcod := fun w => coded_any x w hx21
  have d1 : decide ((55296 : Int) ≤ V) = true := by rw [decide_eq_true_eq]; omega
  have d2 : decide ((V : Int) ≤ 57343) = true := by rw [decide_eq_true_eq]; omega
  have hx65 : x = 65533 := by rw [← hx]; unfold cssChar; rw [if_pos (by omega)]
  rw [hx65] at hcod hx
  rw [show ((65533 : Nat) : Int) = 65533 from rfl] at hcod
  have HCOD := Lib.hid hcod
  clear hcod hx65 hx21
  rw [hx]
  clear hx
  have hbl := fun w => isBlank_any s[N].toNat w
  rw [hblk] at hbl
  have HBL := Lib.hid hbl
  clear hbl hblk
  have r1 : ((s[N].toNat : Int) == 13) = true := by rw [beq_iff_eq]; omega
  have r3 : ((s[N + 1].toNat : Int) == 10) = false := by rw [beq_eq_false_iff_ne]; omega
  have hEi : (N : Int) + 1 < s.size := by omega
  clear hp hV hNL hne hn hV24 hN hV0 hVt hVr h13 h10
  unfold maxLen at hs
  go_enter Tryd.func47, Tryd.ntmps47
  go_wp2_with fail
  go_loop [5, 6] (fun vv i => ∃ k v : Nat, k ≤ s.size ∧ i = .int .i64 k ∧ vv = .int .i64 v ∧ Run s.data.toList V N k v) (fun _ i => 7 - (intOf i).toNat)
  case atStart => exact ⟨0, 0, Nat.zero_le _, rfl, rfl, HRUN.out⟩
  case round =>
    obtain ⟨k, v, hk, rfl, rfl, hr⟩ := hrel
    have HR := Lib.hid hr
    have hv24 := run_v hr
    have hk6 : k ≤ 6 := hr.1
    clear hr
    by_cases hlt : k < s.size ∧ k < 6 ∧ ∃ hk : k < s.size, digitV s[k].toNat < 16
    · obtain ⟨hlt, h6, _, hdg⟩ := hlt
      obtain ⟨dd, hdd⟩ : ∃ dd, digitV s[k].toNat = dd := ⟨_, rfl⟩
      have hcon := fun w => digit_any s[k].toNat s[k].toNat_lt 16 w
      rw [hdd] at hcon hdg
      have HC := Lib.hid hcon; clear hcon
      have HRS := Lib.hid (run_step hlt h6 HR.out hdd hdg)
      have hdi : decide ((dd : Int) < 16) = true := by rw [decide_eq_true_eq]; omega
      have ho := or4 v dd (by omega) hdg
      have h6i : (k : Int) < 6 := by omega
      clear hdd
      go_wp2_with (go_at_call 67; refine (HC.out _).mono ?_; rintro e w' ⟨rfl, rfl⟩)
      go_round
      case rel => exact ⟨k + 1, v * 16 + dd, by omega, by go_num, by go_num, HRS.out⟩
      case measure => simp [intOf]; omega
    · have hend : s.size ≤ k ∨ k = 6 ∨ ∃ hk : k < s.size, 16 ≤ digitV s[k].toNat := by
        by_cases g1 : s.size ≤ k
        · exact .inl g1
        by_cases g2 : k = 6
        · exact .inr (.inl g2)
        · right; right
          refine ⟨by omega, ?_⟩
          have g3 : ¬ digitV s[k].toNat < 16 := fun h => hlt ⟨by omega, by omega, by omega, h⟩
          omega
      obtain ⟨hkN, hvV⟩ := run_end HR.out hend
      subst hkN hvV
      clear hlt
      have hcase : (s.size : Int) ≤ k ∨ ((k : Int) < s.size ∧ k = 6) ∨ (∃ hk : k < s.size, k < 6 ∧ 16 ≤ digitV s[k].toNat) := by
        rcases hend with h | h | ⟨h1, h2⟩
        · left; omega
        · by_cases g : s.size ≤ k
          · left; omega
          · right; left; omega
        · by_cases g : k = 6
          · right; left; omega
          · right; right; exact ⟨h1, by omega, h2⟩
      clear hend
      rcases hcase with hc | ⟨hc, hk6e⟩ | ⟨hkl, hk6', hdg⟩
      · exact absurd hc (by first | omega | (have := HNN.out; omega))
      · have hk6i : (6 : Int) ≤ k := by omega
        clear hk6e
        go_wp2_with (first
          | (go_at_call 69; refine (HBL.out _).mono ?_; rintro e w9 ⟨rfl, rfl⟩)
          | (go_at_call 70; refine (HCOD.out _).mono ?_; rintro e w9 ⟨⟨y, rfl, hy⟩, hb9⟩; have HY := Lib.hid hy; clear hy))
        go_ret3
        exact ⟨⟨_, rfl, HY.out⟩, hb9⟩
      · obtain ⟨dd, hdd⟩ : ∃ dd, digitV s[k].toNat = dd := ⟨_, rfl⟩
        have hcon := fun w => digit_any s[k].toNat s[k].toNat_lt 16 w
        rw [hdd] at hcon hdg
        have HC := Lib.hid hcon; clear hcon
        have hdi : decide ((dd : Int) < 16) = false := by rw [decide_eq_false_iff_not]; omega
        have h6i : (k : Int) < 6 := by omega
        have hkli : (k : Int) < s.size := by omega
        clear hdd hdg hk6' hv24
        go_wp2_with (first
          | (go_at_call 67; refine (HC.out _).mono ?_; rintro e w9 ⟨rfl, rfl⟩)
          | (go_at_call 69; refine (HBL.out _).mono ?_; rintro e w9 ⟨rfl, rfl⟩)
          | (go_at_call 70; refine (HCOD.out _).mono ?_; rintro e w9 ⟨⟨y, rfl, hy⟩, hb9⟩; have HY := Lib.hid hy; clear hy))
        go_ret3
        exact ⟨⟨_, rfl, HY.out⟩, hb9⟩

set_option maxRecDepth 100000 in
set_option maxHeartbeats 8000000 in
theorem css_e4_hi (s : ByteArray) (V N : Nat) (hp : hexRun 6 s.data.toList 0 0 = (V, N)) (h0 : 0 < s.size) (hn : s[0].toNat ≠ 10 ∧ s[0].toNat ≠ 13 ∧ s[0].toNat ≠ 12) (hN : 0 < N) (hV0 : V ≠ 0) (hVt : V ≤ 0x10ffff) (hVr : 57343 < V) (hE : N + 1 < s.size) (hblk : isBlankB s[N].toNat = true) (h13 : s[N].toNat = 13) (h10 : s[N + 1].toNat ≠ 10) (w : World) (hs : s.size ≤ maxLen) :
    Calls Tryd.prog 47 #[.string s] w fun e w' => RetCss (codedL (cssChar V), (N + 1), true) e ∧ Below w.heap.size w w' := by
  have hs0 := hs
  obtain ⟨_, hN6, hNL, hV⟩ := hexRun_bound _ _ _ _ _ _ hp
  have hV24 : V < 16777216 := by
    have h1 := hV (by decide)
    have : (16 : Nat) ^ N ≤ 16 ^ 6 := Nat.pow_le_pow_right (by omega) (by omega)
    omega
  have hNs : N ≤ s.size := by simpa using hNL
  have hne : s.data.toList ≠ [] := by
    intro h
    have h1 := congrArg List.length h
    rw [show s.data.toList.length = s.size by simp] at h1
    simp only [List.length_nil] at h1
    omega
  have e1 : s.toList.isEmpty = false := by rw [Lib.toList_data, List.isEmpty_eq_false_iff]; exact hne
  have e2 : (s.toList = []) = False := by rw [Lib.toList_data]; exact eq_false hne
  have k1 : ((s[0].toNat : Int) == 10) = false := by rw [beq_eq_false_iff_ne]; omega
  have k2 : ((s[0].toNat : Int) == 13) = false := by rw [beq_eq_false_iff_ne]; omega
  have k3 : ((s[0].toNat : Int) == 12) = false := by rw [beq_eq_false_iff_ne]; omega
  have h0' : (0 : Int) < s.size := by omega
  have HRUN : Hid (Run s.data.toList V N 0 0) := Lib.hid ⟨by omega, hp, by decide⟩
  have hvb : ((V : Int) == 0) = false := by rw [beq_eq_false_iff_ne]; omega
  have hvt : decide ((1114111 : Int) < V) = false := by rw [decide_eq_false_iff_not]; omega
  have hN0 : ((N : Int) == 0) = false := by rw [beq_eq_false_iff_ne]; omega
  obtain ⟨x, hx⟩ : ∃ x, cssChar V = x := ⟨_, rfl⟩
  have hx21 : x < 2097152 := by rw [← hx]; unfold cssChar; split <;> omega
  have hcod := fun w => coded_any x w hx21
  have d1 : decide ((55296 : Int) ≤ V) = true := by rw [decide_eq_true_eq]; omega
  have d2 : decide ((V : Int) ≤ 57343) = false := by rw [decide_eq_false_iff_not]; omega
  obtain rfl : V = x := by rw [← hx]; unfold cssChar; rw [if_neg (by omega)]
  have HCOD := Lib.hid hcod
  clear hcod
  rw [hx]
  clear hx
  have hbl := fun w => isBlank_any s[N].toNat w
  rw [hblk] at hbl
  have HBL := Lib.hid hbl
  clear hbl hblk
  have r1 : ((s[N].toNat : Int) == 13) = true := by rw [beq_iff_eq]; omega
  have r3 : ((s[N + 1].toNat : Int) == 10) = false := by rw [beq_eq_false_iff_ne]; omega
  have hEi : (N : Int) + 1 < s.size := by omega
  clear hp hV hNL hne hn hV24 hN hV0 hVt hVr h13 h10
  unfold maxLen at hs
  go_enter Tryd.func47, Tryd.ntmps47
  go_wp2_with fail
  go_loop [5, 6] (fun vv i => ∃ k v : Nat, k ≤ s.size ∧ i = .int .i64 k ∧ vv = .int .i64 v ∧ Run s.data.toList V N k v) (fun _ i => 7 - (intOf i).toNat)
  case atStart => exact ⟨0, 0, Nat.zero_le _, rfl, rfl, HRUN.out⟩
  case round =>
    obtain ⟨k, v, hk, rfl, rfl, hr⟩ := hrel
    have HR := Lib.hid hr
    have hv24 := run_v hr
    have hk6 : k ≤ 6 := hr.1
    clear hr
    by_cases hlt : k < s.size ∧ k < 6 ∧ ∃ hk : k < s.size, digitV s[k].toNat < 16
    · obtain ⟨hlt, h6, _, hdg⟩ := hlt
      obtain ⟨dd, hdd⟩ : ∃ dd, digitV s[k].toNat = dd := ⟨_, rfl⟩
      have hcon := fun w => digit_any s[k].toNat s[k].toNat_lt 16 w
      rw [hdd] at hcon hdg
      have HC := Lib.hid hcon; clear hcon
      have HRS := Lib.hid (run_step hlt h6 HR.out hdd hdg)
      have hdi : decide ((dd : Int) < 16) = true := by rw [decide_eq_true_eq]; omega
      have ho := or4 v dd (by omega) hdg
      have h6i : (k : Int) < 6 := by omega
      clear hdd
      go_wp2_with (go_at_call 67; refine (HC.out _).mono ?_; rintro e w' ⟨rfl, rfl⟩)
      go_round
      case rel => exact ⟨k + 1, v * 16 + dd, by omega, by go_num, by go_num, HRS.out⟩
      case measure => simp [intOf]; omega
    · have hend : s.size ≤ k ∨ k = 6 ∨ ∃ hk : k < s.size, 16 ≤ digitV s[k].toNat := by
        by_cases g1 : s.size ≤ k
        · exact .inl g1
        by_cases g2 : k = 6
        · exact .inr (.inl g2)
        · right; right
          refine ⟨by omega, ?_⟩
          have g3 : ¬ digitV s[k].toNat < 16 := fun h => hlt ⟨by omega, by omega, by omega, h⟩
          omega
      obtain ⟨hkN, hvV⟩ := run_end HR.out hend
      subst hkN hvV
      clear hlt
      have hcase : (s.size : Int) ≤ k ∨ ((k : Int) < s.size ∧ k = 6) ∨ (∃ hk : k < s.size, k < 6 ∧ 16 ≤ digitV s[k].toNat) := by
        rcases hend with h | h | ⟨h1, h2⟩
        · left; omega
        · by_cases g : s.size ≤ k
          · left; omega
          · right; left; omega
        · by_cases g : k = 6
          · right; left; omega
          · right; right; exact ⟨h1, by omega, h2⟩
      clear hend
      rcases hcase with hc | ⟨hc, hk6e⟩ | ⟨hkl, hk6', hdg⟩
      · exact absurd hc (by first | omega | (have := HNN.out; omega))
      · have hk6i : (6 : Int) ≤ k := by omega
        clear hk6e
        go_wp2_with (first
          | (go_at_call 69; refine (HBL.out _).mono ?_; rintro e w9 ⟨rfl, rfl⟩)
          | (go_at_call 70; refine (HCOD.out _).mono ?_; rintro e w9 ⟨⟨y, rfl, hy⟩, hb9⟩; have HY := Lib.hid hy; clear hy))
        go_ret3
        exact ⟨⟨_, rfl, HY.out⟩, hb9⟩
      · obtain ⟨dd, hdd⟩ : ∃ dd, digitV s[k].toNat = dd := ⟨_, rfl⟩
        have hcon := fun w => digit_any s[k].toNat s[k].toNat_lt 16 w
        rw [hdd] at hcon hdg
        have HC := Lib.hid hcon; clear hcon
        have hdi : decide ((dd : Int) < 16) = false := by rw [decide_eq_false_iff_not]; omega
        have h6i : (k : Int) < 6 := by omega
        have hkli : (k : Int) < s.size := by omega
        clear hdd hdg hk6' hv24
        go_wp2_with (first
          | (go_at_call 67; refine (HC.out _).mono ?_; rintro e w9 ⟨rfl, rfl⟩)
          | (go_at_call 69; refine (HBL.out _).mono ?_; rintro e w9 ⟨rfl, rfl⟩)
          | (go_at_call 70; refine (HCOD.out _).mono ?_; rintro e w9 ⟨⟨y, rfl, hy⟩, hb9⟩; have HY := Lib.hid hy; clear hy))
        go_ret3
        exact ⟨⟨_, rfl, HY.out⟩, hb9⟩

set_option maxRecDepth 100000 in
set_option maxHeartbeats 8000000 in
theorem css_e5_lo (s : ByteArray) (V N : Nat) (hp : hexRun 6 s.data.toList 0 0 = (V, N)) (h0 : 0 < s.size) (hn : s[0].toNat ≠ 10 ∧ s[0].toNat ≠ 13 ∧ s[0].toNat ≠ 12) (hN : 0 < N) (hV0 : V ≠ 0) (hVt : V ≤ 0x10ffff) (hVr : V < 55296) (hE : N + 1 < s.size) (hblk : isBlankB s[N].toNat = true) (h13 : s[N].toNat = 13) (h10 : s[N + 1].toNat = 10) (w : World) (hs : s.size ≤ maxLen) :
    Calls Tryd.prog 47 #[.string s] w fun e w' => RetCss (codedL (cssChar V), (N + 2), true) e ∧ Below w.heap.size w w' := by
  have hs0 := hs
  obtain ⟨_, hN6, hNL, hV⟩ := hexRun_bound _ _ _ _ _ _ hp
  have hV24 : V < 16777216 := by
    have h1 := hV (by decide)
    have : (16 : Nat) ^ N ≤ 16 ^ 6 := Nat.pow_le_pow_right (by omega) (by omega)
    omega
  have hNs : N ≤ s.size := by simpa using hNL
  have hne : s.data.toList ≠ [] := by
    intro h
    have h1 := congrArg List.length h
    rw [show s.data.toList.length = s.size by simp] at h1
    simp only [List.length_nil] at h1
    omega
  have e1 : s.toList.isEmpty = false := by rw [Lib.toList_data, List.isEmpty_eq_false_iff]; exact hne
  have e2 : (s.toList = []) = False := by rw [Lib.toList_data]; exact eq_false hne
  have k1 : ((s[0].toNat : Int) == 10) = false := by rw [beq_eq_false_iff_ne]; omega
  have k2 : ((s[0].toNat : Int) == 13) = false := by rw [beq_eq_false_iff_ne]; omega
  have k3 : ((s[0].toNat : Int) == 12) = false := by rw [beq_eq_false_iff_ne]; omega
  have h0' : (0 : Int) < s.size := by omega
  have HRUN : Hid (Run s.data.toList V N 0 0) := Lib.hid ⟨by omega, hp, by decide⟩
  have hvb : ((V : Int) == 0) = false := by rw [beq_eq_false_iff_ne]; omega
  have hvt : decide ((1114111 : Int) < V) = false := by rw [decide_eq_false_iff_not]; omega
  have hN0 : ((N : Int) == 0) = false := by rw [beq_eq_false_iff_ne]; omega
  obtain ⟨x, hx⟩ : ∃ x, cssChar V = x := ⟨_, rfl⟩
  have hx21 : x < 2097152 := by rw [← hx]; unfold cssChar; split <;> omega
  have hcod := fun w => coded_any x w hx21
  have d1 : decide ((55296 : Int) ≤ V) = false := by rw [decide_eq_false_iff_not]; omega
  obtain rfl : V = x := by rw [← hx]; unfold cssChar; rw [if_neg (by omega)]
  have HCOD := Lib.hid hcod
  clear hcod
  rw [hx]
  clear hx
  have hbl := fun w => isBlank_any s[N].toNat w
  rw [hblk] at hbl
  have HBL := Lib.hid hbl
  clear hbl hblk
  have r1 : ((s[N].toNat : Int) == 13) = true := by rw [beq_iff_eq]; omega
  have r3 : ((s[N + 1].toNat : Int) == 10) = true := by rw [beq_iff_eq]; omega
  have hEi : (N : Int) + 1 < s.size := by omega
  clear hp hV hNL hne hn hV24 hN hV0 hVt hVr h13 h10
  unfold maxLen at hs
  go_enter Tryd.func47, Tryd.ntmps47
  go_wp2_with fail
  go_loop [5, 6] (fun vv i => ∃ k v : Nat, k ≤ s.size ∧ i = .int .i64 k ∧ vv = .int .i64 v ∧ Run s.data.toList V N k v) (fun _ i => 7 - (intOf i).toNat)
  case atStart => exact ⟨0, 0, Nat.zero_le _, rfl, rfl, HRUN.out⟩
  case round =>
    obtain ⟨k, v, hk, rfl, rfl, hr⟩ := hrel
    have HR := Lib.hid hr
    have hv24 := run_v hr
    have hk6 : k ≤ 6 := hr.1
    clear hr
    by_cases hlt : k < s.size ∧ k < 6 ∧ ∃ hk : k < s.size, digitV s[k].toNat < 16
    · obtain ⟨hlt, h6, _, hdg⟩ := hlt
      obtain ⟨dd, hdd⟩ : ∃ dd, digitV s[k].toNat = dd := ⟨_, rfl⟩
      have hcon := fun w => digit_any s[k].toNat s[k].toNat_lt 16 w
      rw [hdd] at hcon hdg
      have HC := Lib.hid hcon; clear hcon
      have HRS := Lib.hid (run_step hlt h6 HR.out hdd hdg)
      have hdi : decide ((dd : Int) < 16) = true := by rw [decide_eq_true_eq]; omega
      have ho := or4 v dd (by omega) hdg
      have h6i : (k : Int) < 6 := by omega
      clear hdd
      go_wp2_with (go_at_call 67; refine (HC.out _).mono ?_; rintro e w' ⟨rfl, rfl⟩)
      go_round
      case rel => exact ⟨k + 1, v * 16 + dd, by omega, by go_num, by go_num, HRS.out⟩
      case measure => simp [intOf]; omega
    · have hend : s.size ≤ k ∨ k = 6 ∨ ∃ hk : k < s.size, 16 ≤ digitV s[k].toNat := by
        by_cases g1 : s.size ≤ k
        · exact .inl g1
        by_cases g2 : k = 6
        · exact .inr (.inl g2)
        · right; right
          refine ⟨by omega, ?_⟩
          have g3 : ¬ digitV s[k].toNat < 16 := fun h => hlt ⟨by omega, by omega, by omega, h⟩
          omega
      obtain ⟨hkN, hvV⟩ := run_end HR.out hend
      subst hkN hvV
      clear hlt
      have hcase : (s.size : Int) ≤ k ∨ ((k : Int) < s.size ∧ k = 6) ∨ (∃ hk : k < s.size, k < 6 ∧ 16 ≤ digitV s[k].toNat) := by
        rcases hend with h | h | ⟨h1, h2⟩
        · left; omega
        · by_cases g : s.size ≤ k
          · left; omega
          · right; left; omega
        · by_cases g : k = 6
          · right; left; omega
          · right; right; exact ⟨h1, by omega, h2⟩
      clear hend
      rcases hcase with hc | ⟨hc, hk6e⟩ | ⟨hkl, hk6', hdg⟩
      · exact absurd hc (by first | omega | (have := HNN.out; omega))
      · have hk6i : (6 : Int) ≤ k := by omega
        clear hk6e
        go_wp2_with (first
          | (go_at_call 69; refine (HBL.out _).mono ?_; rintro e w9 ⟨rfl, rfl⟩)
          | (go_at_call 70; refine (HCOD.out _).mono ?_; rintro e w9 ⟨⟨y, rfl, hy⟩, hb9⟩; have HY := Lib.hid hy; clear hy))
        go_ret3
        exact ⟨⟨_, rfl, HY.out⟩, hb9⟩
      · obtain ⟨dd, hdd⟩ : ∃ dd, digitV s[k].toNat = dd := ⟨_, rfl⟩
        have hcon := fun w => digit_any s[k].toNat s[k].toNat_lt 16 w
        rw [hdd] at hcon hdg
        have HC := Lib.hid hcon; clear hcon
        have hdi : decide ((dd : Int) < 16) = false := by rw [decide_eq_false_iff_not]; omega
        have h6i : (k : Int) < 6 := by omega
        have hkli : (k : Int) < s.size := by omega
        clear hdd hdg hk6' hv24
        go_wp2_with (first
          | (go_at_call 67; refine (HC.out _).mono ?_; rintro e w9 ⟨rfl, rfl⟩)
          | (go_at_call 69; refine (HBL.out _).mono ?_; rintro e w9 ⟨rfl, rfl⟩)
          | (go_at_call 70; refine (HCOD.out _).mono ?_; rintro e w9 ⟨⟨y, rfl, hy⟩, hb9⟩; have HY := Lib.hid hy; clear hy))
        go_ret3
        exact ⟨⟨_, rfl, HY.out⟩, hb9⟩

set_option maxRecDepth 100000 in
set_option maxHeartbeats 8000000 in
theorem css_e5_sur (s : ByteArray) (V N : Nat) (hp : hexRun 6 s.data.toList 0 0 = (V, N)) (h0 : 0 < s.size) (hn : s[0].toNat ≠ 10 ∧ s[0].toNat ≠ 13 ∧ s[0].toNat ≠ 12) (hN : 0 < N) (hV0 : V ≠ 0) (hVt : V ≤ 0x10ffff) (hVr : 55296 ≤ V ∧ V ≤ 57343) (hE : N + 1 < s.size) (hblk : isBlankB s[N].toNat = true) (h13 : s[N].toNat = 13) (h10 : s[N + 1].toNat = 10) (w : World) (hs : s.size ≤ maxLen) :
    Calls Tryd.prog 47 #[.string s] w fun e w' => RetCss (codedL (cssChar V), (N + 2), true) e ∧ Below w.heap.size w w' := by
  have hs0 := hs
  obtain ⟨_, hN6, hNL, hV⟩ := hexRun_bound _ _ _ _ _ _ hp
  have hV24 : V < 16777216 := by
    have h1 := hV (by decide)
    have : (16 : Nat) ^ N ≤ 16 ^ 6 := Nat.pow_le_pow_right (by omega) (by omega)
    omega
  have hNs : N ≤ s.size := by simpa using hNL
  have hne : s.data.toList ≠ [] := by
    intro h
    have h1 := congrArg List.length h
    rw [show s.data.toList.length = s.size by simp] at h1
    simp only [List.length_nil] at h1
    omega
  have e1 : s.toList.isEmpty = false := by rw [Lib.toList_data, List.isEmpty_eq_false_iff]; exact hne
  have e2 : (s.toList = []) = False := by rw [Lib.toList_data]; exact eq_false hne
  have k1 : ((s[0].toNat : Int) == 10) = false := by rw [beq_eq_false_iff_ne]; omega
  have k2 : ((s[0].toNat : Int) == 13) = false := by rw [beq_eq_false_iff_ne]; omega
  have k3 : ((s[0].toNat : Int) == 12) = false := by rw [beq_eq_false_iff_ne]; omega
  have h0' : (0 : Int) < s.size := by omega
  have HRUN : Hid (Run s.data.toList V N 0 0) := Lib.hid ⟨by omega, hp, by decide⟩
  have hvb : ((V : Int) == 0) = false := by rw [beq_eq_false_iff_ne]; omega
  have hvt : decide ((1114111 : Int) < V) = false := by rw [decide_eq_false_iff_not]; omega
  have hN0 : ((N : Int) == 0) = false := by rw [beq_eq_false_iff_ne]; omega
  obtain ⟨x, hx⟩ : ∃ x, cssChar V = x := ⟨_, rfl⟩
  have hx21 : x < 2097152 := by rw [← hx]; unfold cssChar; split <;> omega
  have hcod := fun w => coded_any x w hx21
  have d1 : decide ((55296 : Int) ≤ V) = true := by rw [decide_eq_true_eq]; omega
  have d2 : decide ((V : Int) ≤ 57343) = true := by rw [decide_eq_true_eq]; omega
  have hx65 : x = 65533 := by rw [← hx]; unfold cssChar; rw [if_pos (by omega)]
  rw [hx65] at hcod hx
  rw [show ((65533 : Nat) : Int) = 65533 from rfl] at hcod
  have HCOD := Lib.hid hcod
  clear hcod hx65 hx21
  rw [hx]
  clear hx
  have hbl := fun w => isBlank_any s[N].toNat w
  rw [hblk] at hbl
  have HBL := Lib.hid hbl
  clear hbl hblk
  have r1 : ((s[N].toNat : Int) == 13) = true := by rw [beq_iff_eq]; omega
  have r3 : ((s[N + 1].toNat : Int) == 10) = true := by rw [beq_iff_eq]; omega
  have hEi : (N : Int) + 1 < s.size := by omega
  clear hp hV hNL hne hn hV24 hN hV0 hVt hVr h13 h10
  unfold maxLen at hs
  go_enter Tryd.func47, Tryd.ntmps47
  go_wp2_with fail
  go_loop [5, 6] (fun vv i => ∃ k v : Nat, k ≤ s.size ∧ i = .int .i64 k ∧ vv = .int .i64 v ∧ Run s.data.toList V N k v) (fun _ i => 7 - (intOf i).toNat)
  case atStart => exact ⟨0, 0, Nat.zero_le _, rfl, rfl, HRUN.out⟩
  case round =>
    obtain ⟨k, v, hk, rfl, rfl, hr⟩ := hrel
    have HR := Lib.hid hr
    have hv24 := run_v hr
    have hk6 : k ≤ 6 := hr.1
    clear hr
    by_cases hlt : k < s.size ∧ k < 6 ∧ ∃ hk : k < s.size, digitV s[k].toNat < 16
    · obtain ⟨hlt, h6, _, hdg⟩ := hlt
      obtain ⟨dd, hdd⟩ : ∃ dd, digitV s[k].toNat = dd := ⟨_, rfl⟩
      have hcon := fun w => digit_any s[k].toNat s[k].toNat_lt 16 w
      rw [hdd] at hcon hdg
      have HC := Lib.hid hcon; clear hcon
      have HRS := Lib.hid (run_step hlt h6 HR.out hdd hdg)
      have hdi : decide ((dd : Int) < 16) = true := by rw [decide_eq_true_eq]; omega
      have ho := or4 v dd (by omega) hdg
      have h6i : (k : Int) < 6 := by omega
      clear hdd
      go_wp2_with (go_at_call 67; refine (HC.out _).mono ?_; rintro e w' ⟨rfl, rfl⟩)
      go_round
      case rel => exact ⟨k + 1, v * 16 + dd, by omega, by go_num, by go_num, HRS.out⟩
      case measure => simp [intOf]; omega
    · have hend : s.size ≤ k ∨ k = 6 ∨ ∃ hk : k < s.size, 16 ≤ digitV s[k].toNat := by
        by_cases g1 : s.size ≤ k
        · exact .inl g1
        by_cases g2 : k = 6
        · exact .inr (.inl g2)
        · right; right
          refine ⟨by omega, ?_⟩
          have g3 : ¬ digitV s[k].toNat < 16 := fun h => hlt ⟨by omega, by omega, by omega, h⟩
          omega
      obtain ⟨hkN, hvV⟩ := run_end HR.out hend
      subst hkN hvV
      clear hlt
      have hcase : (s.size : Int) ≤ k ∨ ((k : Int) < s.size ∧ k = 6) ∨ (∃ hk : k < s.size, k < 6 ∧ 16 ≤ digitV s[k].toNat) := by
        rcases hend with h | h | ⟨h1, h2⟩
        · left; omega
        · by_cases g : s.size ≤ k
          · left; omega
          · right; left; omega
        · by_cases g : k = 6
          · right; left; omega
          · right; right; exact ⟨h1, by omega, h2⟩
      clear hend
      rcases hcase with hc | ⟨hc, hk6e⟩ | ⟨hkl, hk6', hdg⟩
      · exact absurd hc (by first | omega | (have := HNN.out; omega))
      · have hk6i : (6 : Int) ≤ k := by omega
        clear hk6e
        go_wp2_with (first
          | (go_at_call 69; refine (HBL.out _).mono ?_; rintro e w9 ⟨rfl, rfl⟩)
          | (go_at_call 70; refine (HCOD.out _).mono ?_; rintro e w9 ⟨⟨y, rfl, hy⟩, hb9⟩; have HY := Lib.hid hy; clear hy))
        go_ret3
        exact ⟨⟨_, rfl, HY.out⟩, hb9⟩
      · obtain ⟨dd, hdd⟩ : ∃ dd, digitV s[k].toNat = dd := ⟨_, rfl⟩
        have hcon := fun w => digit_any s[k].toNat s[k].toNat_lt 16 w
        rw [hdd] at hcon hdg
        have HC := Lib.hid hcon; clear hcon
        have hdi : decide ((dd : Int) < 16) = false := by rw [decide_eq_false_iff_not]; omega
        have h6i : (k : Int) < 6 := by omega
        have hkli : (k : Int) < s.size := by omega
        clear hdd hdg hk6' hv24
        go_wp2_with (first
          | (go_at_call 67; refine (HC.out _).mono ?_; rintro e w9 ⟨rfl, rfl⟩)
          | (go_at_call 69; refine (HBL.out _).mono ?_; rintro e w9 ⟨rfl, rfl⟩)
          | (go_at_call 70; refine (HCOD.out _).mono ?_; rintro e w9 ⟨⟨y, rfl, hy⟩, hb9⟩; have HY := Lib.hid hy; clear hy))
        go_ret3
        exact ⟨⟨_, rfl, HY.out⟩, hb9⟩

set_option maxRecDepth 100000 in
set_option maxHeartbeats 8000000 in
theorem css_e5_hi (s : ByteArray) (V N : Nat) (hp : hexRun 6 s.data.toList 0 0 = (V, N)) (h0 : 0 < s.size) (hn : s[0].toNat ≠ 10 ∧ s[0].toNat ≠ 13 ∧ s[0].toNat ≠ 12) (hN : 0 < N) (hV0 : V ≠ 0) (hVt : V ≤ 0x10ffff) (hVr : 57343 < V) (hE : N + 1 < s.size) (hblk : isBlankB s[N].toNat = true) (h13 : s[N].toNat = 13) (h10 : s[N + 1].toNat = 10) (w : World) (hs : s.size ≤ maxLen) :
    Calls Tryd.prog 47 #[.string s] w fun e w' => RetCss (codedL (cssChar V), (N + 2), true) e ∧ Below w.heap.size w w' := by
  have hs0 := hs
  obtain ⟨_, hN6, hNL, hV⟩ := hexRun_bound _ _ _ _ _ _ hp
  have hV24 : V < 16777216 := by
    have h1 := hV (by decide)
    have : (16 : Nat) ^ N ≤ 16 ^ 6 := Nat.pow_le_pow_right (by omega) (by omega)
    omega
  have hNs : N ≤ s.size := by simpa using hNL
  have hne : s.data.toList ≠ [] := by
    intro h
    have h1 := congrArg List.length h
    rw [show s.data.toList.length = s.size by simp] at h1
    simp only [List.length_nil] at h1
    omega
  have e1 : s.toList.isEmpty = false := by rw [Lib.toList_data, List.isEmpty_eq_false_iff]; exact hne
  have e2 : (s.toList = []) = False := by rw [Lib.toList_data]; exact eq_false hne
  have k1 : ((s[0].toNat : Int) == 10) = false := by rw [beq_eq_false_iff_ne]; omega
  have k2 : ((s[0].toNat : Int) == 13) = false := by rw [beq_eq_false_iff_ne]; omega
  have k3 : ((s[0].toNat : Int) == 12) = false := by rw [beq_eq_false_iff_ne]; omega
  have h0' : (0 : Int) < s.size := by omega
  have HRUN : Hid (Run s.data.toList V N 0 0) := Lib.hid ⟨by omega, hp, by decide⟩
  have hvb : ((V : Int) == 0) = false := by rw [beq_eq_false_iff_ne]; omega
  have hvt : decide ((1114111 : Int) < V) = false := by rw [decide_eq_false_iff_not]; omega
  have hN0 : ((N : Int) == 0) = false := by rw [beq_eq_false_iff_ne]; omega
  obtain ⟨x, hx⟩ : ∃ x, cssChar V = x := ⟨_, rfl⟩
  have hx21 : x < 2097152 := by rw [← hx]; unfold cssChar; split <;> omega
  have hcod := fun w => coded_any x w hx21
  have d1 : decide ((55296 : Int) ≤ V) = true := by rw [decide_eq_true_eq]; omega
  have d2 : decide ((V : Int) ≤ 57343) = false := by rw [decide_eq_false_iff_not]; omega
  obtain rfl : V = x := by rw [← hx]; unfold cssChar; rw [if_neg (by omega)]
  have HCOD := Lib.hid hcod
  clear hcod
  rw [hx]
  clear hx
  have hbl := fun w => isBlank_any s[N].toNat w
  rw [hblk] at hbl
  have HBL := Lib.hid hbl
  clear hbl hblk
  have r1 : ((s[N].toNat : Int) == 13) = true := by rw [beq_iff_eq]; omega
  have r3 : ((s[N + 1].toNat : Int) == 10) = true := by rw [beq_iff_eq]; omega
  have hEi : (N : Int) + 1 < s.size := by omega
  clear hp hV hNL hne hn hV24 hN hV0 hVt hVr h13 h10
  unfold maxLen at hs
  go_enter Tryd.func47, Tryd.ntmps47
  go_wp2_with fail
  go_loop [5, 6] (fun vv i => ∃ k v : Nat, k ≤ s.size ∧ i = .int .i64 k ∧ vv = .int .i64 v ∧ Run s.data.toList V N k v) (fun _ i => 7 - (intOf i).toNat)
  case atStart => exact ⟨0, 0, Nat.zero_le _, rfl, rfl, HRUN.out⟩
  case round =>
    obtain ⟨k, v, hk, rfl, rfl, hr⟩ := hrel
    have HR := Lib.hid hr
    have hv24 := run_v hr
    have hk6 : k ≤ 6 := hr.1
    clear hr
    by_cases hlt : k < s.size ∧ k < 6 ∧ ∃ hk : k < s.size, digitV s[k].toNat < 16
    · obtain ⟨hlt, h6, _, hdg⟩ := hlt
      obtain ⟨dd, hdd⟩ : ∃ dd, digitV s[k].toNat = dd := ⟨_, rfl⟩
      have hcon := fun w => digit_any s[k].toNat s[k].toNat_lt 16 w
      rw [hdd] at hcon hdg
      have HC := Lib.hid hcon; clear hcon
      have HRS := Lib.hid (run_step hlt h6 HR.out hdd hdg)
      have hdi : decide ((dd : Int) < 16) = true := by rw [decide_eq_true_eq]; omega
      have ho := or4 v dd (by omega) hdg
      have h6i : (k : Int) < 6 := by omega
      clear hdd
      go_wp2_with (go_at_call 67; refine (HC.out _).mono ?_; rintro e w' ⟨rfl, rfl⟩)
      go_round
      case rel => exact ⟨k + 1, v * 16 + dd, by omega, by go_num, by go_num, HRS.out⟩
      case measure => simp [intOf]; omega
    · have hend : s.size ≤ k ∨ k = 6 ∨ ∃ hk : k < s.size, 16 ≤ digitV s[k].toNat := by
        by_cases g1 : s.size ≤ k
        · exact .inl g1
        by_cases g2 : k = 6
        · exact .inr (.inl g2)
        · right; right
          refine ⟨by omega, ?_⟩
          have g3 : ¬ digitV s[k].toNat < 16 := fun h => hlt ⟨by omega, by omega, by omega, h⟩
          omega
      obtain ⟨hkN, hvV⟩ := run_end HR.out hend
      subst hkN hvV
      clear hlt
      have hcase : (s.size : Int) ≤ k ∨ ((k : Int) < s.size ∧ k = 6) ∨ (∃ hk : k < s.size, k < 6 ∧ 16 ≤ digitV s[k].toNat) := by
        rcases hend with h | h | ⟨h1, h2⟩
        · left; omega
        · by_cases g : s.size ≤ k
          · left; omega
          · right; left; omega
        · by_cases g : k = 6
          · right; left; omega
          · right; right; exact ⟨h1, by omega, h2⟩
      clear hend
      rcases hcase with hc | ⟨hc, hk6e⟩ | ⟨hkl, hk6', hdg⟩
      · exact absurd hc (by first | omega | (have := HNN.out; omega))
      · have hk6i : (6 : Int) ≤ k := by omega
        clear hk6e
        go_wp2_with (first
          | (go_at_call 69; refine (HBL.out _).mono ?_; rintro e w9 ⟨rfl, rfl⟩)
          | (go_at_call 70; refine (HCOD.out _).mono ?_; rintro e w9 ⟨⟨y, rfl, hy⟩, hb9⟩; have HY := Lib.hid hy; clear hy))
        go_ret3
        exact ⟨⟨_, rfl, HY.out⟩, hb9⟩
      · obtain ⟨dd, hdd⟩ : ∃ dd, digitV s[k].toNat = dd := ⟨_, rfl⟩
        have hcon := fun w => digit_any s[k].toNat s[k].toNat_lt 16 w
        rw [hdd] at hcon hdg
        have HC := Lib.hid hcon; clear hcon
        have hdi : decide ((dd : Int) < 16) = false := by rw [decide_eq_false_iff_not]; omega
        have h6i : (k : Int) < 6 := by omega
        have hkli : (k : Int) < s.size := by omega
        clear hdd hdg hk6' hv24
        go_wp2_with (first
          | (go_at_call 67; refine (HC.out _).mono ?_; rintro e w9 ⟨rfl, rfl⟩)
          | (go_at_call 69; refine (HBL.out _).mono ?_; rintro e w9 ⟨rfl, rfl⟩)
          | (go_at_call 70; refine (HCOD.out _).mono ?_; rintro e w9 ⟨⟨y, rfl, hy⟩, hb9⟩; have HY := Lib.hid hy; clear hy))
        go_ret3
        exact ⟨⟨_, rfl, HY.out⟩, hb9⟩

theorem styleEscape_any (s : ByteArray) (w : World) (hs : s.size ≤ maxLen) :
    Calls Tryd.prog 47 #[.string s] w fun e w' => RetCss (cssEscL s.data.toList) e ∧ Below w.heap.size w w' := by
  have hL : s.data.toList.length = s.size := by simp
  unfold cssEscL
  by_cases hA : s.data.toList = [] ∨ at0 s.data.toList 0 = 10 ∨ at0 s.data.toList 0 = 13 ∨ at0 s.data.toList 0 = 12
  · rw [if_pos hA]
    exact css_no0 s w hs hA
  · rw [if_neg hA]
    simp only [not_or] at hA
    obtain ⟨hne, h10, h13, h12⟩ := hA
    have h0 : 0 < s.size := by rw [← hL]; exact List.length_pos_iff.2 hne
    rw [at0_get s 0 h0] at h10 h13 h12
    obtain ⟨⟨V, N⟩, hp⟩ : ∃ p, hexRun 6 s.data.toList 0 0 = p := ⟨_, rfl⟩
    obtain ⟨_, hN6, hNL, _⟩ := hexRun_bound _ _ _ _ _ _ hp
    rw [hp]
    simp only
    by_cases hN : N = 0
    · rw [if_pos hN]
      exact css_char s V N hp h0 ⟨h10, h13, h12⟩ hN w hs
    rw [if_neg hN]
    by_cases hV : V = 0 ∨ 0x10ffff < V
    · rw [if_pos hV]
      rcases hV with hV | hV
      · exact css_noneA s V N hp h0 ⟨h10, h13, h12⟩ (by omega) hV w hs
      · exact css_noneB s V N hp h0 ⟨h10, h13, h12⟩ (by omega) hV w hs
    rw [if_neg hV]
    have hN0 : 0 < N := by omega
    have hV0 : V ≠ 0 := fun h => hV (.inl h)
    have hVt : V ≤ 0x10ffff := by omega
    have hn : s[0].toNat ≠ 10 ∧ s[0].toNat ≠ 13 ∧ s[0].toNat ≠ 12 := ⟨h10, h13, h12⟩
    have hr : V < 55296 ∨ (55296 ≤ V ∧ V ≤ 57343) ∨ 57343 < V := by omega
    have hNs : N ≤ s.size := by rw [← hL]; omega
    unfold blankEnd
    rw [hL]
    by_cases hE : N < s.size
    · rw [at0_get s N hE]
      by_cases hb : isBlankB s[N].toNat = true
      · rw [if_pos ⟨hE, hb⟩]
        by_cases h13 : s[N].toNat = 13
        · by_cases hE1 : N + 1 < s.size
          · rw [at0_get s (N + 1) hE1]
            by_cases h10 : s[N + 1].toNat = 10
            · rw [if_pos ⟨h13, hE1, h10⟩]
              rcases hr with hr | hr | hr
              · exact css_e5_lo s V N hp h0 hn hN0 hV0 hVt hr hE1 hb h13 h10 w hs
              · exact css_e5_sur s V N hp h0 hn hN0 hV0 hVt hr hE1 hb h13 h10 w hs
              · exact css_e5_hi s V N hp h0 hn hN0 hV0 hVt hr hE1 hb h13 h10 w hs
            · rw [if_neg (fun h => h10 h.2.2)]
              rcases hr with hr | hr | hr
              · exact css_e4_lo s V N hp h0 hn hN0 hV0 hVt hr hE1 hb h13 h10 w hs
              · exact css_e4_sur s V N hp h0 hn hN0 hV0 hVt hr hE1 hb h13 h10 w hs
              · exact css_e4_hi s V N hp h0 hn hN0 hV0 hVt hr hE1 hb h13 h10 w hs
          · rw [if_neg (fun h => hE1 h.2.1)]
            rcases hr with hr | hr | hr
            · exact css_e3_lo s V N hp h0 hn hN0 hV0 hVt hr hE (by omega) hb h13 w hs
            · exact css_e3_sur s V N hp h0 hn hN0 hV0 hVt hr hE (by omega) hb h13 w hs
            · exact css_e3_hi s V N hp h0 hn hN0 hV0 hVt hr hE (by omega) hb h13 w hs
        · rw [if_neg (fun h => h13 h.1)]
          rcases hr with hr | hr | hr
          · exact css_e2_lo s V N hp h0 hn hN0 hV0 hVt hr hE hb h13 w hs
          · exact css_e2_sur s V N hp h0 hn hN0 hV0 hVt hr hE hb h13 w hs
          · exact css_e2_hi s V N hp h0 hn hN0 hV0 hVt hr hE hb h13 w hs
      · have hb' : isBlankB s[N].toNat = false := by simpa using hb
        rw [if_neg (fun h => hb h.2)]
        rcases hr with hr | hr | hr
        · exact css_e1_lo s V N hp h0 hn hN0 hV0 hVt hr hE hb' w hs
        · exact css_e1_sur s V N hp h0 hn hN0 hV0 hVt hr hE hb' w hs
        · exact css_e1_hi s V N hp h0 hn hN0 hV0 hVt hr hE hb' w hs
    · rw [if_neg (fun h => hE h.1)]
      rcases hr with hr | hr | hr
      · exact css_e0_lo s V N hp h0 hn hN0 hV0 hVt hr (by omega) w hs
      · exact css_e0_sur s V N hp h0 hn hN0 hV0 hVt hr (by omega) w hs
      · exact css_e0_hi s V N hp h0 hn hN0 hV0 hVt hr (by omega) w hs
end Go.Proofs.YtigobehhmodoiaaDoor
