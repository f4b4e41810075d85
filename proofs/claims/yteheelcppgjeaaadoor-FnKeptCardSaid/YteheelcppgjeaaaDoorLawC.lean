/- Plain laws: HTML that is kept in a quoted attribute value: it is read as it was. -/
import Derived.Test.YteheelcppgjeaaaDoorLawB
namespace Go.Proofs.YteheelcppgjeaaaDoor
set_option linter.unusedVariables false
set_option linter.unusedSimpArgs false

/-! ### a replacer that lets all bad characters by goes byte by byte -/
def byteR (T : Nat → Bytes) (n : Nat) (b : UInt8) : Bytes := if b.toNat < n then (if T b.toNat = [] then [b] else T b.toNat) else [b]
def bytesR (T : Nat → Bytes) (n : Nat) (l : Bytes) : Bytes := l.flatMap (byteR T n)
theorem bytesR_app (T : Nat → Bytes) (n : Nat) (x y : Bytes) : bytesR T n (x ++ y) = bytesR T n x ++ bytesR T n y := by simp [bytesR]
theorem bytesR_keep (T : Nat → Bytes) (n : Nat) (x : Bytes) (h : ∀ b ∈ x, byteR T n b = [b]) : bytesR T n x = x := by
  induction x with
  | nil => rfl
  | cons b x ih =>
    show byteR T n b ++ bytesR T n x = _
    rw [h b List.mem_cons_self, ih (fun y hy => h y (List.mem_cons_of_mem _ hy))]; rfl
/-- In a text in UTF-8, a replacer goes byte by byte. -/
theorem replL_bytes (T : Nat → Bytes) (n : Nat) (hn : n ≤ 128) (l : Bytes) (h : validL l = true) : replL T n true l = bytesR T n l := by
  refine valid_ind (P := fun l => replL T n true l = bytesR T n l) rfl ?_ l h
  intro l hne hs hv ih
  obtain ⟨hc, hlen⟩ := isChar_take l hne hs
  rw [replL_step T n true l hne, size_dec l hs, ih]
  conv => rhs; rw [← List.take_append_drop (sizeL l) l, bytesR_app]
  congr 1
  rcases hc.bytes with ⟨x, hx, hx1⟩ | hall
  · have h3 : at0 l 0 = x.toNat := by
      rw [← at0_take l (sizeL l) 0 (by have := hlen; rw [hx] at this; simp at this; omega), hx]; simp [at0]
    have h4 : decL l = (x.toNat, 1) := by
      unfold decL Go.Lib.decodeN
      rw [if_pos (by omega), h3]
    have h5 : sizeL l = 1 := by rw [← hlen, hx]; rfl
    rw [hx]
    unfold replOne bytesR
    rw [h4, ← h5, hx]
    simp [byteR]
  · rw [bytesR_keep]
    · unfold replOne
      rw [size_dec l hs]
      have h4 : ¬ (decL l).1 < n := by
        intro h
        have e := dec_ascii l (by omega)
        rw [size_dec l hs] at e
        have hm := hall (l.head hne) (by
          rw [e.2]
          match l, hne with
          | b :: t, _ => simp)
        have : at0 l 0 = (l.head hne).toNat := by
          match l, hne with
          | b :: t, _ => simp [at0]
        omega
      rw [if_neg h4]
      simp
    · intro b hb
      unfold byteR
      rw [if_neg (by have := hall b hb; omega)]
end Go.Proofs.YteheelcppgjeaaaDoor
