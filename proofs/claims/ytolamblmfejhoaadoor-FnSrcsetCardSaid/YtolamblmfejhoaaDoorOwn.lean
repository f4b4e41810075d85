/- Slices of bytes that a call makes by append. -/
import Derived.Test.YtolamblmfejhoaaDoorSpecC
import Derived.Lib.AppendStr
import Derived.Lib.UnsafeStr
namespace Go.Proofs.YtolamblmfejhoaaDoor
open Go.RowKit
set_option linter.unusedVariables false
set_option linter.unusedSimpArgs false

theorem byteInfo : (Tryd.prog.info? 5).map (fun i => (i.zero, i.size, i.bytes)) = some (some (.int .u8 0), 1, 1) := by kernel_rfl

/-- v is a slice of bytes that lies in blocks from B on, made by append, and reads as l. -/
def Own (B : Nat) (v : Value) (l : Bytes) (w : World) : Prop := w.ownsRow B 5 1 v l.length (Lib.byteCells l)
theorem Own.nil (B : Nat) (w : World) : Own B (.slice none 0 0) [] w := World.ownsRow_nil _ _ _ _
theorem Own.keep {B : Nat} {v : Value} {l : Bytes} {w w' : World} (h : Own B v l w) (k : Below w.heap.size w w') : Own B v l w' := by
  refine ⟨h.1, ?_⟩
  rcases h.2 with h0 | ⟨g, cap, cur, e1, e2, e3, e4⟩
  · exact .inl h0
  · exact .inr ⟨g, cap, cur, e1, e2, (k.block _ (Array.getElem?_eq_some_iff.1 e3).1).trans e3, e4⟩
theorem Own.conv {B : Nat} {v : Value} {l : Bytes} {w : World} (h : Own B v l w) : (convert 37 9 v).run Tryd.prog w = .ok (.string ⟨l.toArray⟩) w := by
  rcases h.2 with ⟨rfl, h0⟩ | ⟨g, cap, cur, rfl, e2, e3, e4, e5, e6, e7⟩
  · have hl : l = [] := List.eq_nil_of_length_eq_zero h0
    subst hl
    rw [run_convert_bytes_string w 37 9 5 none 0 0 Tryd.underlying37 Tryd.underlying5 Tryd.underlying9]
    rfl
  · refine run_convert_bytes_back _ _ _ 5 _ _ l Tryd.underlying37 Tryd.underlying5 Tryd.underlying9 (fun j hj => ?_)
    have e : Addr.add ⟨g, 0, none⟩ j = ⟨g, j, none⟩ := by
      by_cases h0 : j = 0
      · subst h0; rfl
      · simp [Addr.add, h0]
    rw [e]
    have h1 : cur[j]? = some (.int .u8 (l[j].toNat : Int)) := by
      have h2 : (cur.toList.take (l.length * 1))[j]? = (Lib.byteCells l)[j]? := by rw [e7]
      rw [List.getElem?_take_of_lt (by omega)] at h2
      rw [← Array.getElem?_toList, h2]
      simp [Lib.byteCells, List.getElem?_eq_getElem hj]
    simp [World.cell?, e3, h1]
theorem Own.put {B : Nat} {v : Value} {l x : Bytes} {n : Nat} {w : World} (hn : n = l.length + x.length) (h : w.ownsRow B 5 1 v n (Lib.byteCells l ++ Lib.byteCells x)) : Own B v (l ++ x) w := by
  unfold Own
  rw [List.length_append, Lib.byteCells_append, ← hn]
  exact h
theorem Own.lt {B : Nat} {v : Value} {l : Bytes} {w : World} (h : Own B v l w) : ∀ k, v.ownBlock = some k → B ≤ k := by
  intro k hk
  rcases h.2 with ⟨rfl, _⟩ | ⟨g, cap, cur, rfl, e2, _⟩
  · cases hk
  · simp [Value.ownBlock] at hk; omega
end Go.Proofs.YtolamblmfejhoaaDoor
