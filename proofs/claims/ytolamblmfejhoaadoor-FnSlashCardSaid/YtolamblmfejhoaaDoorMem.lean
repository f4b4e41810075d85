/- Builders, tables and the decoder's tables over later worlds. -/
import Derived.Test.YtolamblmfejhoaaDoorBuild
import Derived.Test.YtolamblmfejhoaaDoorSpecC
import Derived.Test.YtolamblmfejhoaaDoorPlainH
namespace Go.Proofs.YtolamblmfejhoaaDoor
open Go.Shelf Go.RowKit
set_option linter.unusedVariables false
set_option linter.unusedSimpArgs false

theorem heap_lt {w : World} {b : Nat} {o : Obj} (h : w.heap[b]? = some o) : b < w.heap.size := (Array.getElem?_eq_some_iff.1 h).1
theorem cell_lt {w : World} {b o : Nat} {v : Value} (h : w.cell? ⟨b, o, none⟩ = some v) : b < w.heap.size := by
  rcases Nat.lt_or_ge b w.heap.size with h' | h'
  · exact h'
  · simp [World.cell?, Array.getElem?_eq_none h'] at h

/-- A builder that the call has made, in block b, which holds the bytes l. -/
def Bld (b : Nat) (l : Bytes) (w : World) : Prop := Lib.IsBuilderF 43 5 b b (Lib.byteCells l) w
/-- A builder that has not been written. -/
def Fresh (b : Nat) (w : World) : Prop := w.heap[b]? = some (.cells #[.pointer none, .slice none 0 0] 43 (0, 0))

theorem Bld.lt {b : Nat} {l : Bytes} {w : World} (h : Bld b l w) : b < w.heap.size := by
  rcases h with h | h
  · exact h.lt
  · exact h.lt
theorem keepAt {T e : TypeId} {B b : Nat} {p : Value} {bs : List Value} {w w' : World} (h : Lib.BuilderAtF T e B b p bs w) (k : ∀ i, i < w.heap.size → w'.heap[i]? = w.heap[i]?) : Lib.BuilderAtF T e B b p bs w' := by
  obtain ⟨hB, v, hb, ⟨ho1, ho2⟩, hne⟩ := h
  refine ⟨hB, v, (k _ (heap_lt hb)).trans hb, ⟨ho1, ?_⟩, hne⟩
  rcases ho2 with h0 | ⟨g, cap, cur, fz, e1, e2, e3, e4⟩
  · exact .inl h0
  · exact .inr ⟨g, cap, cur, fz, e1, e2, (k _ (heap_lt e3)).trans e3, e4⟩
theorem Bld.keep {b : Nat} {l : Bytes} {w w' : World} (h : Bld b l w) (k : Below w.heap.size w w') : Bld b l w' := by
  rcases h with h | h
  · exact .inl (keepAt h k.block)
  · exact .inr (keepAt h k.block)
theorem Fresh.keep {b : Nat} {w w' : World} (h : Fresh b w) (k : Below w.heap.size w w') : Fresh b w' := (k.block _ (heap_lt h)).trans h
theorem Fresh.bld {b : Nat} {w : World} (h : Fresh b w) : Bld b [] w :=
  .inl ⟨Nat.le_refl _, .slice none 0 0, h, World.ownsRowF_of (World.ownsRow_nil _ _ _ _), by simp [Value.ownBlock]⟩

/-- The decoder's tables lie as Go's library lays them. -/
def Tabs (w : World) : Prop := Lib.Utf8Tabs 3 4 w
theorem Tabs.keep {B : Nat} {w w' : World} (h : Tabs w) (k : Below B w w') (hB : w.heap.size ≤ B) : Tabs w' := by
  refine ⟨fun c hc => ?_, fun i hi => ?_⟩
  · have h1 := h.1 c hc
    exact (k.cell (p := ⟨_, c, none⟩) (Nat.lt_of_lt_of_le (cell_lt h1) hB)).trans h1
  · obtain ⟨h1, h2⟩ := h.2 i hi
    exact ⟨(k.cell (p := ⟨_, _, none⟩) (Nat.lt_of_lt_of_le (cell_lt h1) hB)).trans h1, (k.cell (p := ⟨_, _, none⟩) (Nat.lt_of_lt_of_le (cell_lt h2) hB)).trans h2⟩

/-- A table of strings in block b. -/
def TabAt (b n : Nat) (T : Nat → Bytes) (w : World) : Prop := ∀ r, r < n → ∃ v : ByteArray, w.cell? ⟨b, r, none⟩ = some (.string v) ∧ v.data.toList = T r
theorem TabAt.keep {b n : Nat} {T : Nat → Bytes} {B : Nat} {w w' : World} (h : TabAt b n T w) (k : Below B w w') (hB : b < B) : TabAt b n T w' := by
  intro r hr
  obtain ⟨v, h1, h2⟩ := h r hr
  exact ⟨v, (k.cell (p := ⟨b, r, none⟩) hB).trans h1, h2⟩

theorem get!_at0 (s : ByteArray) (k i : Nat) (h : k + i < s.size ∨ s.size ≤ k + i) : (s.get! (k + i)).toNat = at0 (s.data.toList.drop k) i := by
  unfold at0
  rw [List.getD_eq_getElem?_getD, List.getElem?_drop]
  cases s with
  | mk d =>
    show (d[k + i]!).toNat = _
    rw [getElem!_def]
    simp only [Array.getElem?_toList]
    cases d[k + i]? <;> rfl
theorem decode_at0 (s : ByteArray) (k : Nat) (hk : k ≤ s.size) : Utf8.decode s k = decL (s.data.toList.drop k) := by
  rw [Lib.decode_at]
  unfold decL
  have e := get!_at0 s k 0 (by omega)
  rw [Nat.add_zero] at e
  rw [e, get!_at0 s k 1 (by omega), get!_at0 s k 2 (by omega), get!_at0 s k 3 (by omega), List.length_drop]
  simp
theorem decodeGo_at (s : ByteArray) (k : Nat) (hk : k < s.size) : Lib.decodeGo (s.extract k s.size) = decL (s.data.toList.drop k) := by
  unfold Lib.decodeGo
  rw [if_neg (by simp; omega), decode_at0 _ 0 (by omega), List.drop_zero, extract_end]

theorem decode_calls (s : ByteArray) (k : Nat) (hk : k < s.size) (w : World) (hT : Tabs w) :
    Calls Tryd.prog 61 #[.string (s.extract k s.size)] w fun e w' => e = .returned (.tuple #[.int .i32 (decL (s.data.toList.drop k)).1, .int .i64 (decL (s.data.toList.drop k)).2]) ∧ Below w.heap.size w w' := by
  have h := Tryd.utf8_DecodeRuneInString (s.extract k s.size) w hT
  rw [decodeGo_at s k hk] at h
  exact h
theorem grow_calls (b n : Nat) (w : World) (h : Fresh b w) (hn : n ≤ 281474976710656) :
    Calls Tryd.prog 49 #[.pointer (some ⟨b, 0, none⟩), .int .i64 n] w fun e w' => e = .returned (.tuple #[]) ∧ Bld b [] w' ∧ Below b w w' := by
  refine (Tryd.Builder_Grow_fresh b b n w (Nat.le_refl _) h (Nat.le_of_lt (heap_lt h)) hn).mono ?_
  rintro e w' ⟨rfl, h1, h2⟩
  exact ⟨rfl, .inr (Lib.BuilderAtF.of h1), h2⟩
theorem write_calls (b : Nat) (l : Bytes) (s : ByteArray) (w : World) (h : Bld b l w) (hlen : l.length + s.size ≤ 140737488355328) :
    Calls Tryd.prog 38 #[.pointer (some ⟨b, 0, none⟩), .string s] w fun e w' => e = .returned (.tuple #[.int .i64 s.size, .nilIface]) ∧ Bld b (l ++ s.data.toList) w' ∧ Below b w w' := by
  refine (writeString_k b b _ s w h (by rw [Lib.byteCells_length]; exact hlen) (Nat.le_of_lt (Bld.lt h))).mono ?_
  rintro e w' ⟨rfl, h1, h2, _⟩
  refine ⟨rfl, .inr ?_, h2⟩
  rw [Lib.byteCells_append]
  exact h1
theorem string_calls (b : Nat) (l : Bytes) (w : World) (h : Bld b l w) :
    Calls Tryd.prog 35 #[.pointer (some ⟨b, 0, none⟩)] w fun e w' => e = .returned (.string ⟨l.toArray⟩) ∧ Below b w w' := by
  refine (Tryd.Builder_String_any_k b b l w h (Nat.le_of_lt (Bld.lt h))).mono ?_
  rintro e w' ⟨rfl, _, h2, _⟩
  exact ⟨rfl, h2⟩
end Go.Proofs.YtolamblmfejhoaaDoor
