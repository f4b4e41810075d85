/- Plain laws: the types of scripts. -/
import Derived.Test.YteheelcppgjeaaaDoorPlainH
import Derived.Lib.Case
import Derived.Lib.Space
namespace Go.Proofs.YteheelcppgjeaaaDoor
set_option linter.unusedVariables false
set_option linter.unusedSimpArgs false

def mimes : List Bytes := [
  [97, 112, 112, 108, 105, 99, 97, 116, 105, 111, 110, 47, 101, 99, 109, 97, 115, 99, 114, 105, 112, 116],
  [97, 112, 112, 108, 105, 99, 97, 116, 105, 111, 110, 47, 106, 97, 118, 97, 115, 99, 114, 105, 112, 116],
  [97, 112, 112, 108, 105, 99, 97, 116, 105, 111, 110, 47, 120, 45, 101, 99, 109, 97, 115, 99, 114, 105, 112, 116],
  [97, 112, 112, 108, 105, 99, 97, 116, 105, 111, 110, 47, 120, 45, 106, 97, 118, 97, 115, 99, 114, 105, 112, 116],
  [116, 101, 120, 116, 47, 101, 99, 109, 97, 115, 99, 114, 105, 112, 116],
  [116, 101, 120, 116, 47, 106, 97, 118, 97, 115, 99, 114, 105, 112, 116],
  [116, 101, 120, 116, 47, 106, 97, 118, 97, 115, 99, 114, 105, 112, 116, 49, 46, 48],
  [116, 101, 120, 116, 47, 106, 97, 118, 97, 115, 99, 114, 105, 112, 116, 49, 46, 49],
  [116, 101, 120, 116, 47, 106, 97, 118, 97, 115, 99, 114, 105, 112, 116, 49, 46, 50],
  [116, 101, 120, 116, 47, 106, 97, 118, 97, 115, 99, 114, 105, 112, 116, 49, 46, 51],
  [116, 101, 120, 116, 47, 106, 97, 118, 97, 115, 99, 114, 105, 112, 116, 49, 46, 52],
  [116, 101, 120, 116, 47, 106, 97, 118, 97, 115, 99, 114, 105, 112, 116, 49, 46, 53],
  [116, 101, 120, 116, 47, 106, 115, 99, 114, 105, 112, 116],
  [116, 101, 120, 116, 47, 108, 105, 118, 101, 115, 99, 114, 105, 112, 116],
  [116, 101, 120, 116, 47, 120, 45, 101, 99, 109, 97, 115, 99, 114, 105, 112, 116],
  [116, 101, 120, 116, 47, 120, 45, 106, 97, 118, 97, 115, 99, 114, 105, 112, 116]]
def jsTypes : List Bytes := [
  [],
  [97, 112, 112, 108, 105, 99, 97, 116, 105, 111, 110, 47, 101, 99, 109, 97, 115, 99, 114, 105, 112, 116],
  [97, 112, 112, 108, 105, 99, 97, 116, 105, 111, 110, 47, 106, 97, 118, 97, 115, 99, 114, 105, 112, 116],
  [97, 112, 112, 108, 105, 99, 97, 116, 105, 111, 110, 47, 106, 115, 111, 110],
  [97, 112, 112, 108, 105, 99, 97, 116, 105, 111, 110, 47, 108, 100, 43, 106, 115, 111, 110],
  [97, 112, 112, 108, 105, 99, 97, 116, 105, 111, 110, 47, 120, 45, 101, 99, 109, 97, 115, 99, 114, 105, 112, 116],
  [97, 112, 112, 108, 105, 99, 97, 116, 105, 111, 110, 47, 120, 45, 106, 97, 118, 97, 115, 99, 114, 105, 112, 116],
  [109, 111, 100, 117, 108, 101],
  [116, 101, 120, 116, 47, 101, 99, 109, 97, 115, 99, 114, 105, 112, 116],
  [116, 101, 120, 116, 47, 106, 97, 118, 97, 115, 99, 114, 105, 112, 116],
  [116, 101, 120, 116, 47, 106, 97, 118, 97, 115, 99, 114, 105, 112, 116, 49, 46, 48],
  [116, 101, 120, 116, 47, 106, 97, 118, 97, 115, 99, 114, 105, 112, 116, 49, 46, 49],
  [116, 101, 120, 116, 47, 106, 97, 118, 97, 115, 99, 114, 105, 112, 116, 49, 46, 50],
  [116, 101, 120, 116, 47, 106, 97, 118, 97, 115, 99, 114, 105, 112, 116, 49, 46, 51],
  [116, 101, 120, 116, 47, 106, 97, 118, 97, 115, 99, 114, 105, 112, 116, 49, 46, 52],
  [116, 101, 120, 116, 47, 106, 97, 118, 97, 115, 99, 114, 105, 112, 116, 49, 46, 53],
  [116, 101, 120, 116, 47, 106, 115, 99, 114, 105, 112, 116],
  [116, 101, 120, 116, 47, 108, 105, 118, 101, 115, 99, 114, 105, 112, 116],
  [116, 101, 120, 116, 47, 120, 45, 101, 99, 109, 97, 115, 99, 114, 105, 112, 116],
  [116, 101, 120, 116, 47, 120, 45, 106, 97, 118, 97, 115, 99, 114, 105, 112, 116]]
def lowerL (s : Bytes) : Bytes := Lib.toLowerA s
def isMime (s : Bytes) : Bool := mimes.any (· == lowerL s)
def beforeSemi (m : Bytes) : Bytes := m.takeWhile (fun b => b != 59)
def jsTypeOf (m : Bytes) : Bytes := Lib.trimSpace (Lib.toLowerA (beforeSemi m))
def isJSTypeL (m : Bytes) : Bool := jsTypes.any (· == jsTypeOf m)
def charset : Bytes := [59, 32, 99, 104, 97, 114, 115, 101, 116, 61, 117, 116, 102, 45, 56]
theorem lowerB_ascii : ∀ n, n < 256 → ((Lib.lowerB (UInt8.ofNat n)).toNat < 128 → n < 128) ∧ (Lib.lowerB (UInt8.ofNat n) ≠ 59 → UInt8.ofNat n ≠ 59) := by decide +kernel
theorem lowerB_at (b : UInt8) : ((Lib.lowerB b).toNat < 128 → b.toNat < 128) ∧ (Lib.lowerB b ≠ 59 → b ≠ 59) := by
  have := lowerB_ascii b.toNat b.toNat_lt
  simpa using this
theorem mimes_ok : ∀ x ∈ mimes, (∀ b ∈ x, b.toNat < 128 ∧ b ≠ 59) ∧ Lib.trimSpace x = x ∧ Lib.trimSpace (32 :: x) = x ∧ jsTypes.any (· == x) = true := by decide +kernel
theorem mime_of (s : Bytes) (h : isMime s = true) : lowerL s ∈ mimes := by
  unfold isMime at h
  rw [List.any_eq_true] at h
  obtain ⟨x, hx, e⟩ := h
  rw [beq_iff_eq] at e
  rw [← e]; exact hx
theorem mime_bytes (s : Bytes) (h : isMime s = true) : ∀ b ∈ s, b.toNat < 128 ∧ b ≠ 59 := by
  intro b hb
  have h1 := (mimes_ok _ (mime_of s h)).1 (Lib.lowerB b) (List.mem_map_of_mem hb)
  exact ⟨(lowerB_at b).1 h1.1, (lowerB_at b).2 h1.2⟩
theorem semi_none (s r : Bytes) (h : ∀ b ∈ s, b.toNat < 128 ∧ b ≠ 59) : beforeSemi (s ++ 59 :: r) = s ∧ beforeSemi s = s := by
  have h1 : ∀ b ∈ s, (b != 59) = true := fun b hb => by simpa using (h b hb).2
  constructor
  · unfold beforeSemi
    rw [List.takeWhile_append_of_pos h1]; simp
  · have := List.takeWhile_append_of_pos (l₂ := []) h1
    unfold beforeSemi
    simpa using this
/-- THE LAW OF SCRIPTS' TYPES. -/
theorem mime_law (s : Bytes) (h : isMime s = true) : isJSTypeL s = true ∧ isJSTypeL (s ++ charset) = true ∧ isJSTypeL (32 :: s) = true := by
  have hb := mime_bytes s h
  obtain ⟨_, h2, h3, h4⟩ := mimes_ok _ (mime_of s h)
  have e1 : Lib.toLowerA s = lowerL s := rfl
  refine ⟨?_, ?_, ?_⟩
  · unfold isJSTypeL jsTypeOf
    rw [(semi_none s [] hb).2, e1, h2]; exact h4
  · unfold isJSTypeL jsTypeOf
    rw [show charset = 59 :: charset.tail from rfl, (semi_none s _ hb).1, e1, h2]; exact h4
  · have : beforeSemi (32 :: s) = 32 :: s := by
      have := (semi_none (32 :: s) [] (fun b hb' => by
        rcases List.mem_cons.1 hb' with rfl | hb'
        · decide
        · exact hb b hb')).2
      exact this
    unfold isJSTypeL jsTypeOf
    rw [this]
    show jsTypes.any (· == Lib.trimSpace (Lib.lowerB 32 :: lowerL s)) = true
    have e2 : Lib.lowerB 32 = 32 := by decide
    rw [e2, h3]; exact h4
theorem texts_not : isJSTypeL [116, 101, 120, 116, 47, 116, 101, 109, 112, 108, 97, 116, 101] = false ∧ isJSTypeL [116, 101, 120, 116, 47, 104, 116, 109, 108] = false ∧ isJSTypeL [116, 101, 120, 116, 47, 112, 108, 97, 105, 110] = false := by decide +kernel
end Go.Proofs.YteheelcppgjeaaaDoor
