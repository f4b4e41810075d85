/- The package's small words for URLs. -/
import Derived.Test.YtolamblmfejhoaaDoorUrlB
import Derived.RegionTactic
import Derived.ChangeAlike
import Derived.Deep.QuietTactic
import Derived.BigQuiet
namespace Go.Proofs.YtolamblmfejhoaaDoor
open Go.RowKit
set_option linter.unusedVariables false
set_option linter.unusedSimpArgs false

theorem isHex_any (c : Nat) (w : World) :
    Calls Tryd.prog 50 #[.int .u8 c] w fun e w' => e = .returned (.bool (hexB c)) ∧ w = w' := by
  have hx : hexB c = decide ((48 ≤ c ∧ c ≤ 57) ∨ (97 ≤ c ∧ c ≤ 102) ∨ (65 ≤ c ∧ c ≤ 70)) := by
    unfold hexB digitV
    rw [decide_eq_decide]
    repeat' split
    all_goals omega
  rw [hx]
  clear hx
  go_enter Tryd.func50, Tryd.ntmps50
  go_wp2
  all_goals
    go_ret
    refine ⟨ret_bool ?_, rfl⟩
    rw [Bool.eq_iff_iff]
    simp
    omega

def hexS : ByteArray := ⟨#[48, 49, 50, 51, 52, 53, 54, 55, 56, 57, 97, 98, 99, 100, 101, 102]⟩
theorem hexS_at : ∀ x, x < 16 → hexS.extract x (x + 1) = ⟨#[lowHex x]⟩ := by
  intro x hx
  match x, hx with
  | 0, _ => rfl
  | 1, _ => rfl
  | 2, _ => rfl
  | 3, _ => rfl
  | 4, _ => rfl
  | 5, _ => rfl
  | 6, _ => rfl
  | 7, _ => rfl
  | 8, _ => rfl
  | 9, _ => rfl
  | 10, _ => rfl
  | 11, _ => rfl
  | 12, _ => rfl
  | 13, _ => rfl
  | 14, _ => rfl
  | 15, _ => rfl
  | n + 16, h => omega
theorem and15b (a : Nat) (ha : a < 256) : bits .and .u8 (a : Int) 15 = ((a % 16 : Nat) : Int) := by
  have := u8_and_nat a 15 ha (by omega); rw [nat_mask4] at this; exact this
set_option maxRecDepth 100000 in
set_option maxHeartbeats 4000000 in
theorem zzPercent_any (c : Nat) (hc : c < 256) (w : World) :
    Calls Tryd.prog 51 #[.int .u8 c] w fun e w' => e = .returned (.string ⟨(pct c).toArray⟩) ∧ Below w.heap.size w w' := by
  obtain ⟨x, hx⟩ : ∃ x, x = c / 16 := ⟨_, rfl⟩
  obtain ⟨y, hy⟩ : ∃ y, y = c % 16 := ⟨_, rfl⟩
  have hx16 : x < 16 := by omega
  have hy16 : y < 16 := by omega
  have e1 : (c : Int) / 16 = x := by omega
  have e2 : bits .and .u8 (c : Int) 15 = (y : Int) := by rw [and15b c hc, hy]
  have e3 : IntKind.u8.wrap ((x : Int) + 1) = (x : Int) + 1 := by rw [IntKind.wrap_u8]; omega
  have e4 : IntKind.u8.wrap ((y : Int) + 1) = (y : Int) + 1 := by rw [IntKind.wrap_u8]; omega
  have hxi : (x : Int) < 16 := by omega
  have hyi : (y : Int) < 16 := by omega
  have HP : Hid (pct c = [37, lowHex x, lowHex y]) := Lib.hid (by unfold pct; rw [hx, hy])
  clear hx hy
  go_enter Tryd.func51, Tryd.ntmps51
  go_wp2_with fail
  go_quiet (fail)
  go_wp2_with fail
  go_ret
  refine ⟨?_, below_drew _ _⟩
  have h : (⟨#[37]⟩ : ByteArray) ++ hexS.extract x (x + 1) ++ hexS.extract y (y + 1) = ⟨(pct c).toArray⟩ := by
    rw [hexS_at x hx16, hexS_at y hy16, HP.out]; rfl
  rw [← h]
  rfl

/-- Is there a byte that is replaced? -/
def urlCh (norm : Bool) : Bytes → Bool
  | [] => false
  | c :: t => !urlKeep norm c.toNat t || urlCh norm t
theorem urlCh_cons (norm : Bool) (c : UInt8) (t : Bytes) : urlCh norm (c :: t) = (!urlKeep norm c.toNat t || urlCh norm t) := rfl
theorem urlCh_none (norm : Bool) : ∀ s, urlCh norm s = false → urlL norm s = s
  | [], _ => rfl
  | c :: t, h => by
    unfold urlCh at h
    rw [Bool.or_eq_false_iff, Bool.not_eq_false'] at h
    show urlOne norm c t ++ urlL norm t = _
    unfold urlOne
    rw [if_pos h.1, urlCh_none norm t h.2]; rfl
/-- The loop's account: what has been written, what waits, what is to come. -/
def UAcct (norm : Bool) (l acc0 acc : Bytes) (j k : Nat) : Prop :=
  acc ++ (l.drop j).take (k - j) ++ urlL norm (l.drop k) = acc0 ++ urlL norm l ∧ (decide (j ≠ 0) || urlCh norm (l.drop k)) = urlCh norm l ∧ acc.length ≤ acc0.length + 3 * j
theorem uacct_keep {norm : Bool} {l acc0 acc : Bytes} {j k z : Nat} {c : UInt8} (hl : l.length = z) (hk : k < z) (hj : j ≤ k) (hd : l.drop k = c :: l.drop (k + 1)) (h : UAcct norm l acc0 acc j k) (hs : urlKeep norm c.toNat (l.drop (k + 1)) = true) :
    UAcct norm l acc0 acc j (k + 1) := by
  obtain ⟨h1, h2, h3⟩ := h
  refine ⟨?_, ?_, h3⟩
  · have e : (l.drop j).take (k + 1 - j) = (l.drop j).take (k - j) ++ [c] := by
      have : k + 1 - j = (k - j) + 1 := by omega
      rw [this, List.take_add, List.drop_drop]
      congr 1
      have : j + (k - j) = k := by omega
      rw [this, hd]; rfl
    rw [hd] at h1
    have : urlL norm (c :: l.drop (k + 1)) = c :: urlL norm (l.drop (k + 1)) := by
      show urlOne norm c _ ++ _ = _
      unfold urlOne; rw [if_pos hs]; rfl
    rw [this] at h1
    rw [e, ← h1]
    simp [List.append_assoc]
  · rw [hd, urlCh_cons, hs] at h2
    exact h2
theorem uacct_put {norm : Bool} {l acc0 acc : Bytes} {j k z : Nat} {c : UInt8} (hl : l.length = z) (hk : k < z) (hj : j ≤ k) (hd : l.drop k = c :: l.drop (k + 1)) (h : UAcct norm l acc0 acc j k) (hs : urlKeep norm c.toNat (l.drop (k + 1)) = false) :
    UAcct norm l acc0 (acc ++ (l.drop j).take (k - j) ++ pct c.toNat) (k + 1) (k + 1) := by
  obtain ⟨h1, h2, h3⟩ := h
  refine ⟨?_, ?_, ?_⟩
  · rw [hd] at h1
    have : urlL norm (c :: l.drop (k + 1)) = pct c.toNat ++ urlL norm (l.drop (k + 1)) := by
      show urlOne norm c _ ++ _ = _
      unfold urlOne; rw [if_neg (by rw [hs]; decide)]
    rw [this] at h1
    rw [← h1]
    simp [List.append_assoc]
  · rw [hd, urlCh_cons, hs] at h2
    rw [← h2]
    simp
  · have : ((l.drop j).take (k - j)).length ≤ k - j := List.length_take_le _ _
    simp only [List.length_append, pct, List.length_cons, List.length_nil]
    omega
end Go.Proofs.YtolamblmfejhoaaDoor
