/- (*strings.Builder).Write at this program: the bytes come out of a row of the call's own. -/
import Derived.Test.YthhmccdjhcfggaaEscA
import Derived.Test.YthhmccdjhcfggaaShelf
import Derived.Shelf.Spec.BuilderWrite
import Derived.Lib.ConvBytes
import Derived.Lib.BufferWrite
namespace Go.Proofs.Ythhmccdjhcfggaa
open Go.Shelf Go.RowKit
set_option linter.unusedVariables false
set_option linter.unusedSimpArgs false

def ren240 : Go.Shelf.Ren := ⟨fun | 240 => 47 | 276 => 48 | n => n, fun | 0 => 0 | 4 => 4 | 9 => 9 | 20 => 20 | 70 => 31 | 72 => 34 | 37 => 32 | 164 => 76 | 5 => 5 | n => n, fun | n => n⟩
theorem lays240 : Go.Proofs.Lays.n240 Try.prog ren240 := {
  mixed := by kernel_rfl
  f240 := Try.func47.trans (congrArg some (by kernel_rfl))
  f276 := Try.func48.trans (congrArg some (by kernel_rfl))
  t0 := Try.underlying0
  a0 := Try.isAgg0
  z0 := Try.sizeOf0
  v0 := Try.zeroValue0
  t4 := Try.underlying4
  a4 := Try.isAgg4
  z4 := Try.sizeOf4
  v4 := Try.zeroValue4
  t9 := Try.underlying9
  a9 := Try.isAgg9
  z9 := Try.sizeOf9
  v9 := Try.zeroValue9
  t20 := Try.underlying20
  a20 := Try.isAgg20
  z20 := Try.sizeOf20
  v20 := Try.zeroValue20
  t70 := Try.underlying31
  a70 := Try.isAgg31
  z70 := Try.sizeOf31
  v70 := Try.zeroValue31
  t72 := Try.underlying34
  a72 := Try.isAgg34
  z72 := Try.sizeOf34
  v72 := Try.zeroValue34
  t164 := Try.underlying76
  a164 := Try.isAgg76
  z164 := Try.sizeOf76
  v164 := Try.zeroValue76 }
theorem x72 : Builder.X72 Try.prog ren240 := { sizeBuilder := by kernel_rfl, liesBuilder := by kernel_rfl }

/-- Every row up to D stays, but the builder's. -/
structure Kept (b D : Nat) (w w' : World) : Prop where
  os : w'.os = w.os
  tape : w'.tape = w.tape
  output : w'.output = w.output
  size : w.heap.size ≤ w'.heap.size
  block : ∀ k, k ≤ D → k ≠ b → w'.heap[k]? = w.heap[k]?
theorem Kept.refl (b D : Nat) (w : World) : Kept b D w w := ⟨rfl, rfl, rfl, Nat.le_refl _, fun _ _ _ => rfl⟩
theorem Kept.trans {b D : Nat} {u v w : World} (h : Kept b D u v) (k : Kept b D v w) : Kept b D u w :=
  ⟨k.os.trans h.os, k.tape.trans h.tape, k.output.trans h.output, Nat.le_trans h.size k.size, fun i h1 h2 => (k.block i h1 h2).trans (h.block i h1 h2)⟩
theorem Kept.below {b D : Nat} {w w' : World} (h : Kept b D w w') (hb : b ≤ D) : Below b w w' :=
  ⟨h.os, h.tape, h.output, h.size, fun k hk => h.block k (by omega) (by omega)⟩
/-- A builder in block b; its buffer lies behind D. -/
def Bw (b D : Nat) (p : Value) (l : Bytes) (w : World) : Prop :=
  b ≤ D ∧ D < w.heap.size ∧ ∃ v, w.heap[b]? = some (.cells #[p, v] 34 (0, 0)) ∧ w.ownsRow (D + 1) 5 1 v (Lib.byteCells l).length (Lib.byteCells l)
theorem Bw.open {b D : Nat} {p : Value} {l : Bytes} {w : World} (h : Bw b D p l w) : b ≤ D ∧ D < w.heap.size ∧ ∃ vo vn vc, w.heap[b]? = some (.cells #[p, .slice vo vn vc] 34 (0, 0)) ∧ w.ownsRow (D + 1) 5 1 (.slice vo vn vc) (Lib.byteCells l).length (Lib.byteCells l) ∧ w.cell? ⟨b, 0, none⟩ = some p ∧ w.cell? ⟨b, 1, none⟩ = some (.slice vo vn vc) := by
  obtain ⟨h1, h2, v, h3, hown⟩ := h
  obtain ⟨vo, vn, vc, rfl⟩ : ∃ ao n' cap, v = .slice ao n' cap := by
    rcases hown.2 with ⟨hv, _⟩ | ⟨g, cap, cur, hv, _⟩
    · exact ⟨_, _, _, hv⟩
    · exact ⟨_, _, _, hv⟩
  exact ⟨h1, h2, vo, vn, vc, h3, hown, by rw [Lib.cell_of_heap h3]; rfl, by rw [Lib.cell_of_heap h3]; rfl⟩
theorem Bw.keep {b D : Nat} {p : Value} {l : Bytes} {w w' : World} (h : Bw b D p l w) (hs : w.heap.size ≤ w'.heap.size) (k : ∀ i, i < w.heap.size → w'.heap[i]? = w.heap[i]?) : Bw b D p l w' := by
  obtain ⟨h1, h2, v, h3, h4, h5⟩ := h
  refine ⟨h1, by omega, v, (k _ (by omega)).trans h3, h4, ?_⟩
  rcases h5 with h0 | ⟨g, cap, cur, e1, e2, e3, e4⟩
  · exact .inl h0
  · exact .inr ⟨g, cap, cur, e1, e2, (k _ (Array.getElem?_eq_some_iff.1 e3).1).trans e3, e4⟩

theorem copyCheck_calls (b D : Nat) (p : Value) (hp : p = .pointer none ∨ p = .pointer (some ⟨b, 0, none⟩)) (l : Bytes) (w : World) (h : Bw b D p l w) :
    Calls Try.prog 47 #[.pointer (some ⟨b, 0, none⟩)] w fun e w' => e = .returned (.tuple #[]) ∧ Bw b D (.pointer (some ⟨b, 0, none⟩)) l w' ∧ Kept b D w w' ∧ (∀ k, k ≠ b → w'.heap[k]? = w.heap[k]?) := by
  obtain ⟨h1, h2, v, h3, h4⟩ := h
  have c0 : w.cell? ⟨b, 0, none⟩ = some p := by rw [Lib.cell_of_heap h3]; rfl
  rcases hp with rfl | rfl
  · refine (Any.Builder_copyCheck_fresh lays240 x72 b w c0 (by simp [World.shape?, h3]; rfl) (Lib.frozen_of_heap h3 0)).mono ?_
    rintro e w' ⟨rfl, rfl⟩
    have hb : ∀ k, k ≠ b → (w.setCell ⟨b, 0, none⟩ (.pointer (some ⟨b, 0, none⟩))).heap[k]? = w.heap[k]? := fun k hk => Below.heap_setCell _ _ _ _ hk
    refine ⟨rfl, ⟨h1, by simpa [World.setCell] using h2, v, ?_, ?_⟩, ⟨rfl, rfl, rfl, by simp [World.setCell], fun k _ hk => hb k hk⟩, hb⟩
    · simp [World.setCell, Array.getElem?_modify, h3]
    · refine h4.kept (row := some b) ⟨rfl, rfl, rfl, by simp [World.setCell], fun k _ hk => hb k (fun e => hk (by rw [e]))⟩ (Or.inr ?_)
      intro hv
      have := (h4.lt b hv).1
      omega
  · refine (Any.Builder_copyCheck_used lays240 x72 b w c0).mono ?_
    rintro e w' ⟨rfl, rfl⟩
    exact ⟨rfl, ⟨h1, h2, v, h3, h4⟩, Kept.refl _ _ _, fun _ _ => rfl⟩

theorem cells_kept {b : Nat} {w w1 : World} {ad : Addr} {news : Bytes} (ho1 : ∀ k, k ≠ b → w1.heap[k]? = w.heap[k]?) (hab : ad.block ≠ b) (hnews : ∀ j u, (Lib.byteCells news)[j]? = some u → w.cell? (ad.add j) = some u) :
    ∀ j u, (Lib.byteCells news)[j]? = some u → w1.cell? (ad.add j) = some u := fun j u hj => by
  have hbk : (ad.add j).block = ad.block := by unfold Addr.add; split <;> rfl
  rw [World.cell?_of_block (w := w) (ho1 _ (by rw [hbk]; exact hab))]
  exact hnews j u hj

set_option maxHeartbeats 2000000 in
set_option maxRecDepth 100000 in
theorem write_calls (b D : Nat) (p : Value) (hp : p = .pointer none ∨ p = .pointer (some ⟨b, 0, none⟩)) (l news : Bytes) (ad : Addr) (m c : Nat) (w : World) (h : Bw b D p l w)
    (hm : news.length = m) (hnews : ∀ j u, (Lib.byteCells news)[j]? = some u → w.cell? (ad.add j) = some u) (hab : ad.block ≠ b) (hlen : l.length + m ≤ 140737488355328) :
    Calls Try.prog 46 #[.pointer (some ⟨b, 0, none⟩), .slice (some ad) m c] w fun e w' => e = .returned (.tuple #[.int .i64 m, .nilIface]) ∧ Bw b D (.pointer (some ⟨b, 0, none⟩)) (l ++ news) w' ∧ Kept b D w w' := by
  obtain ⟨i0, hi, hz0, hz1, hz2⟩ := info_parts (Try.Builder_Extra_169.infoByte)
  have hi : Try.prog.info? 5 = some i0 := hi
  go_enter Try.func46, Try.ntmps46
  go_wp2_with (first
    | (go_at_call 47; refine (copyCheck_calls b D p hp l _ h).mono ?_; rintro e w1 ⟨rfl, hB1, hk1, ho1⟩; obtain ⟨h1, h2, vo, vn, vc, h3, hown, c0, c1⟩ := hB1.open; have HN := Lib.hid (cells_kept ho1 hab hnews); clear ho1 hnews hab h hp)
    | (at_builtin; refine wpList_append_own _ rfl _ _ 32 rfl (D + 1) 5 i0 (.int .u8 0) 1 1 Try.underlying32 hi hz0 hz1 hz2 rfl (by decide) _ _ _ rfl hown ad m c (Lib.byteCells news) rfl ?c2 HN (Lib.byteCells_one news) ?c3 ?c4 ?c5 ?_))
  case c2 => rw [Lib.byteCells_length]; omega
  case c3 => rw [Lib.byteCells_length]; unfold maxLen; omega
  case c4 => rw [Lib.byteCells_length]; omega
  case c5 => omega
  intro v' w2 hown' hgrow _
  have hnb : some b ≠ (Value.slice vo vn vc).ownBlock := by
    intro e
    have := (hown.lt b e.symm).1
    omega
  have hb2 : w2.heap[b]? = some (.cells #[.pointer (some ⟨b, 0, none⟩), .slice vo vn vc] 34 (0, 0)) := by
    rw [hgrow.block b (by omega) hnb]
    exact h3
  have d0 : w2.cell? ⟨b, 0, none⟩ = some (.pointer (some ⟨b, 0, none⟩)) := by rw [Lib.cell_of_heap hb2]; rfl
  have d1 : w2.cell? ⟨b, 1, none⟩ = some (.slice vo vn vc) := by rw [Lib.cell_of_heap hb2]; rfl
  have f1 : w2.frozen? ⟨b, 1, none⟩ = false := Lib.frozen_of_heap hb2 1
  have HK := Lib.hid hk1; have HG := Lib.hid hgrow; have HO := Lib.hid hown'; have HW := Lib.hid hown; have HD := Lib.hid h2
  clear hk1 hgrow hown'
  have hvs : ∃ ao n' cap, v' = .slice ao n' cap := by
    rcases (show _ from HO).2 with ⟨hv, _⟩ | ⟨g, cap, cur, hv, _⟩
    · exact ⟨_, _, _, hv⟩
    · exact ⟨_, _, _, hv⟩
  obtain ⟨ao, n', cap, rfl⟩ := hvs
  clear h2 hown
  go_wp2
  go_ret2
  have hk1 : Kept b D w w1 := HK; have hgrow : w1.grownBy w2 (Value.slice vo vn vc).ownBlock := HG; have hown' := HO; have hown : w1.ownsRow (D + 1) 5 1 (Value.slice vo vn vc) (Lib.byteCells l).length (Lib.byteCells l) := HW; have h2 : D < w1.heap.size := HD
  have hs2 := hgrow.size
  have hb : ∀ k, k ≠ b → (w2.setCell ⟨b, 1, none⟩ (.slice ao n' cap)).heap[k]? = w2.heap[k]? := fun k hk => Below.heap_setCell _ _ _ _ hk
  refine ⟨rfl, ⟨h1, ?_, .slice ao n' cap, ?_, ?_⟩, ?_⟩
  · simp [World.setCell]; omega
  · simp [World.setCell, Array.getElem?_modify, hb2]
  · have h9 : w2.ownsRow (D + 1) 5 1 (.slice ao n' cap) (Lib.byteCells (l ++ news)).length (Lib.byteCells (l ++ news)) := by
      rw [Lib.byteCells_append, List.length_append, Lib.byteCells_length news, hm]
      exact hown'
    refine h9.kept (row := some b) ⟨rfl, rfl, rfl, by simp [World.setCell], fun k _ hk => hb k (fun e => hk (by rw [e]))⟩ (Or.inr ?_)
    intro hv
    have := (h9.lt b hv).1
    omega
  · refine hk1.trans (Kept.trans ⟨hgrow.os, hgrow.tape, hgrow.output, hgrow.size, fun k hk _ => hgrow.block k (by omega) ?_⟩ ⟨rfl, rfl, rfl, by simp [World.setCell], fun k _ hk => hb k hk⟩)
    intro e
    have := (hown.lt k e.symm).1
    omega
end Go.Proofs.Ythhmccdjhcfggaa
