/- A converted text's block; bytes.ToLower of an owned row. -/
import Derived.Test.YtigobehhmodoiaaDoorValA
import Derived.Test.YtigobehhmodoiaaDoorOwn
import Derived.Test.YtigobehhmodoiaaDoorShelf
import Derived.Lib.ConvBytes
import Derived.Lib.SmallJoins
namespace Go.Proofs.YtigobehhmodoiaaDoor
open Go.RowKit
set_option linter.unusedVariables false
set_option linter.unusedSimpArgs false

/-- Block b is a conversion's, and holds the text. -/
def ConvAt (b : Nat) (S : ByteArray) (w : World) : Prop := ∃ cs fz, w.heap[b]? = some (.cells cs 5 fz) ∧ fz ≠ (0, 0) ∧ ∀ j (h : j < S.size), cs[j]? = some (.int .u8 (S[j].toNat : Int))
theorem ConvAt.new (w : World) (S : ByteArray) : ConvAt w.heap.size S (Lib.bytesWorld w 5 S) := by
  refine ⟨_, _, Lib.bytesWorld_at_new _ _ _, by simp, fun j h => ?_⟩
  have hd : S.data.size = S.size := rfl
  unfold Lib.bytesCells
  rw [Array.getElem?_append_left (by simp; omega)]
  simp [h]
  rfl
theorem ConvAt.lt {b : Nat} {S : ByteArray} {w : World} (h : ConvAt b S w) : b < w.heap.size := by
  obtain ⟨cs, fz, h1, _⟩ := h
  rcases Nat.lt_or_ge b w.heap.size with h' | h'
  · exact h'
  · rw [Array.getElem?_eq_none h'] at h1; cases h1
theorem ConvAt.same {b : Nat} {S : ByteArray} {w w' : World} (h : ConvAt b S w) (e : w'.heap[b]? = w.heap[b]?) : ConvAt b S w' := by
  obtain ⟨cs, fz, h1, h2, h3⟩ := h
  exact ⟨cs, fz, e.trans h1, h2, h3⟩
theorem ConvAt.drewN {b : Nat} {S : ByteArray} {w : World} (h : ConvAt b S w) (n : Nat) : ConvAt b S (w.drewN n) := h.same rfl
theorem ConvAt.below {b : Nat} {S : ByteArray} {w w' : World} (h : ConvAt b S w) (hb : Below w.heap.size w w') : ConvAt b S w' := h.same (hb.block _ h.lt)
theorem ConvAt.alloc {b : Nat} {S : ByteArray} {w : World} (h : ConvAt b S w) (o : Obj) : ConvAt b S (w.alloc o) := h.same (heap_alloc_old w o h.lt)
theorem ConvAt.cell {b : Nat} {S : ByteArray} {w : World} (h : ConvAt b S w) (j : Nat) (hj : j < S.size) : w.cell? ⟨b, j, none⟩ = some (.int .u8 (S[j].toNat : Int)) := by
  obtain ⟨cs, fz, h1, h2, h3⟩ := h
  simp [World.cell?, h1, h3 j hj]
theorem ConvAt.bytes {b : Nat} {S : ByteArray} {w : World} (h : ConvAt b S w) : Lib.Bytes w b 0 S := fun j hj => by
  rw [Nat.zero_add]; exact h.cell j hj
theorem ConvAt.ne {b : Nat} {S : ByteArray} {w : World} (h : ConvAt b S w) {B : Nat} {v : Value} {l : Bytes} (ho : Own B v l w) : some b ≠ v.ownBlock := by
  obtain ⟨cs, fz, h1, h2, h3⟩ := h
  rcases ho.2 with ⟨rfl, _⟩ | ⟨g, cap, cur, rfl, e2, e3, _⟩
  · simp [Value.ownBlock]
  · intro e
    simp only [Value.ownBlock, Option.some.injEq] at e
    subst e
    rw [h1] at e3
    simp only [Option.some.injEq, Obj.cells.injEq] at e3
    exact h2 e3.2.2
theorem ConvAt.grown {b : Nat} {S : ByteArray} {w w' : World} (h : ConvAt b S w) {B : Nat} {v : Value} {l : Bytes} (ho : Own B v l w) (o : Obj) (hg : (w.alloc o).grownBy w' v.ownBlock) : ConvAt b S w' := by
  have h1 := h.alloc o
  exact h1.same (hg.block _ h1.lt (h.ne ho))
theorem Own.made {B : Nat} (w : World) (c : Array Value) (cap : Nat) (hb : B ≤ w.heap.size) (hm : cap ≤ maxLen) (hs : c.size = cap) : Own B (.slice (some ⟨w.heap.size, 0, none⟩) 0 cap) [] (w.alloc (.cells c 5)) :=
  World.ownsRow_made w c cap hb hm (by rw [hs, Nat.mul_one])
theorem Own.same {B : Nat} {v : Value} {l : Bytes} {w w' : World} (h : Own B v l w) (k : ∀ i, i < w.heap.size → w'.heap[i]? = w.heap[i]?) : Own B v l w' := by
  refine ⟨h.1, ?_⟩
  rcases h.2 with h0 | ⟨g, cap, cur, e1, e2, e3, e4⟩
  · exact .inl h0
  · exact .inr ⟨g, cap, cur, e1, e2, (k _ (Array.getElem?_eq_some_iff.1 e3).1).trans e3, e4⟩
theorem Own.bytes {B : Nat} {v : Value} {l : Bytes} {w : World} (h : Own B v l w) (h0 : 0 < l.length) : ∃ g cap, v = .slice (some ⟨g, 0, none⟩) l.length cap ∧ Lib.Bytes w g 0 ⟨l.toArray⟩ := by
  obtain ⟨g, cap, rfl⟩ := Joins.ownsRow_form h h0
  refine ⟨g, cap, rfl, fun j hj => ?_⟩
  have hj' : j < l.length := by simpa [ByteArray.size] using hj
  rw [Nat.zero_add, World.ownsRow.cellAt h j (by omega)]
  unfold Lib.byteCells
  simp [hj']
  rfl

set_option maxRecDepth 100000 in
/-- bytes.ToLower of what we own, of small bytes. -/
theorem toLower_own {B : Nat} {v : Value} {l : Bytes} {w : World} (h : Own B v l w) (hs : l.length ≤ 140737488355328) (ha : ∀ x ∈ l, x.toNat < 128) :
    Calls Tryd.prog 95 #[v] w fun e w' => (∃ g cap, e = .returned (.slice (some ⟨g, 0, none⟩) l.length cap) ∧ Lib.Bytes w' g 0 ⟨(Lib.toLowerA l).toArray⟩ ∧ l.length ≤ cap ∧ cap ≤ maxLen ∧ g < w'.heap.size) ∧ Below w.heap.size w w' := by
  by_cases h0 : 0 < l.length
  · obtain ⟨g, cap, rfl, hb⟩ := h.bytes h0
    have e1 : l.length = (⟨l.toArray⟩ : ByteArray).size := by simp [ByteArray.size]
    have hc := Tryd.bytes_ToLower_ascii g 0 cap ⟨l.toArray⟩ w hb (by omega) (by omega) (fun j x hx => ha x (by have := List.mem_of_getElem? hx; simpa using this))
    rw [← e1] at hc
    refine hc.mono ?_
    rintro e w' ⟨v', rfl, ⟨g', cap', zs, rfl, k1, k2, k3, k4, k5, k6, k7, k8⟩, hbel⟩
    have hll : (Lib.toLowerA l).length = l.length := by simp [Lib.toLowerA]
    simp only [] at k6 k2 k7 ⊢
    refine ⟨⟨g', cap', by rw [hll], fun j hj => ?_, by rw [← hll]; exact k2, k3, ?_⟩, hbel⟩
    · have hj2 : j < (Lib.toLowerA l).length := by simpa [ByteArray.size] using hj
      rw [Nat.zero_add, k7 j (by omega)]
      have hz : j < zs.length := by omega
      have hg1 : zs.getD j 0 = zs[j] := by rw [List.getD_eq_getElem?_getD, List.getElem?_eq_getElem hz]; rfl
      have hr := k5 zs[j] (List.getElem_mem hz)
      have e3 : (Lib.toLowerA l)[j]? = some (UInt8.ofNat zs[j].toNat) := by
        rw [← k6]
        unfold Lib.bytesOf
        rw [List.getElem?_map, List.getElem?_take_of_lt (by omega), List.getElem?_eq_getElem hz]
        rfl
      rw [hg1]
      have e4 : (⟨(Lib.toLowerA l).toArray⟩ : ByteArray)[j] = UInt8.ofNat zs[j].toNat := by
        have : (⟨(Lib.toLowerA l).toArray⟩ : ByteArray)[j] = (Lib.toLowerA l)[j] := rfl
        rw [this]
        rw [List.getElem?_eq_getElem hj2] at e3
        exact Option.some.inj e3
      rw [e4]
      congr 2
      simp
      omega
    · have := k7 0 (by omega)
      exact World.block_lt_of_cell? _ ⟨g', 0, none⟩ this
  · have hl : l = [] := List.eq_nil_of_length_eq_zero (by omega)
    subst hl
    obtain ⟨p, c, rfl⟩ : ∃ p c, v = .slice p 0 c := by
      rcases h.2 with ⟨rfl, _⟩ | ⟨g, cap, cur, rfl, _⟩
      · exact ⟨none, 0, rfl⟩
      · exact ⟨_, _, rfl⟩
    refine (Tryd.bytes_ToLower_empty p c w).mono ?_
    rintro e w' ⟨rfl, rfl⟩
    refine ⟨⟨w.heap.size, 0, rfl, fun j hj => absurd hj (by simp [Lib.toLowerA, ByteArray.size]), Nat.le_refl _, by unfold maxLen; omega, by simp⟩, ⟨rfl, rfl, rfl, by simp, fun k hk => heap_alloc_old w _ hk⟩⟩
end Go.Proofs.YtigobehhmodoiaaDoor
