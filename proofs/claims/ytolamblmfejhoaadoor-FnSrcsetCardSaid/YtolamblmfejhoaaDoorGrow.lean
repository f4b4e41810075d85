/- (*strings.Builder).Grow at a builder that has been written. -/
import Derived.Test.YtolamblmfejhoaaDoorMem
import Derived.RegionTactic
import Derived.Laws.CopyRow
import Derived.Lib.MakeNoZero
import Derived.Lib.Builder
import Derived.Shelf.Strings.Builder2
namespace Go.Proofs.YtolamblmfejhoaaDoor
open Go.Shelf Go.RowKit
set_option linter.unusedVariables false
set_option linter.unusedSimpArgs false

/-- The new row: the bytes that were there, then whatever lay there. -/
def grownRow (xs : List Value) (cs : Array Value) : Array Value := (xs ++ cs.toList.drop xs.length).toArray

set_option maxHeartbeats 2000000 in
set_option maxRecDepth 1000000 in
theorem grow_row (b g n cap : Nat) (xs : List Value) (cur : Array Value) (fz : Nat × Nat) (w : World)
    (hbk : w.heap[b]? = some (.cells #[.pointer (some ⟨b, 0, none⟩), .slice (some ⟨g, 0, none⟩) xs.length cap] 43 (0, 0))) (hg : w.heap[g]? = some (.cells cur 5 fz)) (hbg : b < g) (hcap : xs.length ≤ cap) (hcur : cur.size = cap) (htk : cur.toList.take xs.length = xs)
    (h1 : ∀ v ∈ xs, v.oneCell' = true) (hn : 2 * cap + n ≤ 140737488355328) :
    Calls Tryd.prog 64 #[.pointer (some ⟨b, 0, none⟩), .int .i64 n] w fun e w' => e = .returned (.tuple #[]) ∧ Lib.BuilderAtF 43 5 b b (.pointer (some ⟨b, 0, none⟩)) xs w' ∧ Below b w w' := by
  obtain ⟨cs, hrun, hle, hmax⟩ := Lib.run_makeNoZero (P := Tryd.prog) w.drew #[3] 37 5 Tryd.underlying37 (2 * cap + n) (by omega)
  have hw : IntKind.i64.wrap (IntKind.i64.wrap (2 * (cap : Int)) + (n : Int)) = ((2 * cap + n : Nat) : Int) := by
    rw [IntKind.wrap_i64, IntKind.wrap_i64]
    omega
  have hcall : (callFunc 73 #[.int .i64 (IntKind.i64.wrap (IntKind.i64.wrap (2 * (cap : Int)) + (n : Int)))]).run Tryd.prog w.drew = .ok (.value (.slice (some ⟨w.drew.heap.size, 0, none⟩) (2 * cap + n : Nat) cs.size)) (w.drew.drew.drew.alloc (.cells cs 5)) := by
    rw [hw, run_callFunc_extern Tryd.func73 (by kernel_rfl) (by kernel_rfl) (by kernel_rfl) (e := Extern.BytealgMakeNoZero.makeNoZero #[3] #[37]) (by kernel_rfl), hrun]
    rfl
  have hlt : b < w.heap.size := heap_lt hbk
  have c1 : w.drew.cell? ⟨b, 1, none⟩ = some (.slice (some ⟨g, 0, none⟩) xs.length cap) := by
    have : w.drew.heap[b]? = _ := hbk
    rw [Lib.cell_of_heap this]; rfl
  have hgl : g < w.heap.size := heap_lt hg
  have hb2 : (w.alloc (.cells cs 5)).heap[b]? = _ := (Lib.alloc_old w _ b hlt).trans hbk
  have hg2 : (w.alloc (.cells cs 5)).heap[g]? = _ := (Lib.alloc_old w _ g hgl).trans hg
  have hn2 : (w.alloc (.cells cs 5)).heap[w.heap.size]? = some (.cells cs 5 (0, 0)) := heap_alloc_new w _
  have c2 : (w.alloc (.cells cs 5)).cell? ⟨b, 1, none⟩ = some (.slice (some ⟨g, 0, none⟩) xs.length cap) := by rw [Lib.cell_of_heap hb2]; rfl
  have hle2 : xs.length ≤ 2 * cap + n := by omega
  have hle3 : xs.length ≤ cs.size := by omega
  have mixed : Tryd.prog.follows .mixedOrders = true := by kernel_rfl
  have hsz : (Tryd.prog.info? 5).map (·.size) = some 1 := by kernel_rfl
  have hgne : g ≠ w.heap.size := by omega
  have hcopy0 := run_copy_row (P := Tryd.prog) (w.alloc (.cells cs 5)).drew.drew.drew 37 37 3 5 w.heap.size 0 xs.length cs.size ⟨g, 0, none⟩ xs.length cap cs 5 xs
    Tryd.underlying37 hsz hn2 (by simp) (fun j v hv => by
      have e : (⟨g, 0, none⟩ : Addr).add j = ⟨g, j, none⟩ := by rw [Addr.add_lit]; simp
      rw [e]
      have hg3 : ((w.alloc (.cells cs 5)).drew.drew.drew).heap[g]? = some (.cells cur 5 fz) := hg2
      rw [Lib.cell_of_heap hg3]
      rw [← htk] at hv
      have hj : j < xs.length := by
        rcases Nat.lt_or_ge j xs.length with h | h
        · exact h
        · rw [List.getElem?_eq_none (by rw [List.length_take]; omega)] at hv; cases hv
      rw [List.getElem?_take_of_lt hj] at hv
      simpa using hv) (by simpa using hle3) h1
  obtain ⟨W2, hW2⟩ : ∃ W2, (w.alloc (.cells cs 5)).drew.drew.drew.setRow w.heap.size (cs.toList.take 0 ++ xs ++ cs.toList.drop (0 + xs.length)).toArray = W2 := ⟨_, rfl⟩
  have hother : ∀ k, k ≠ w.heap.size → W2.heap[k]? = (w.alloc (.cells cs 5)).heap[k]? := fun k hk => by
    rw [← hW2]
    show (((w.alloc (.cells cs 5)).heap).modify w.heap.size _)[k]? = _
    rw [Array.getElem?_modify]
    simp [Ne.symm hk]
  have hW2n : W2.heap[w.heap.size]? = some (.cells (cs.toList.take 0 ++ xs ++ cs.toList.drop (0 + xs.length)).toArray 5 (0, 0)) := by
    rw [← hW2]
    exact setRow_heap _ _ cs _ _ _ hn2
  have hW2b : W2.heap[b]? = _ := (hother b (by omega)).trans hb2
  have hW2B : Below b w W2 := ⟨by rw [← hW2]; rfl, by rw [← hW2]; rfl, by rw [← hW2]; rfl, by rw [← hW2]; show w.heap.size ≤ (Array.modify (w.heap.push _) _ _).size; rw [Array.size_modify, Array.size_push]; omega, fun k hk => by
    rw [hother k (by omega)]
    exact Lib.alloc_old w _ k (by omega)⟩
  rw [hW2] at hcopy0
  have c3 : W2.cell? ⟨b, 1, none⟩ = some (.slice (some ⟨g, 0, none⟩) xs.length cap) := by rw [Lib.cell_of_heap hW2b]; rfl
  have f3 : W2.frozen? ⟨b, 1, none⟩ = false := Lib.frozen_of_heap hW2b 1
  have hrow : W2.ownsRow b 5 1 (.slice (some ⟨w.heap.size, 0, none⟩) xs.length cs.size) xs.length xs := by
    refine ⟨by simp, .inr ⟨w.heap.size, cs.size, _, rfl, by omega, hW2n, hle3, hmax (by unfold maxLen; omega), ?_, ?_⟩⟩
    · simp; omega
    · simp
  have hfin : Lib.BuilderAtF 43 5 b b (.pointer (some ⟨b, 0, none⟩)) xs (W2.setCell ⟨b, 1, none⟩ (.slice (some ⟨w.heap.size, 0, none⟩) xs.length cs.size)) ∧ Below b w (W2.setCell ⟨b, 1, none⟩ (.slice (some ⟨w.heap.size, 0, none⟩) xs.length cs.size)) :=
    ⟨Lib.BuilderAtF.of (Lib.BuilderAt.put (Nat.le_refl _) hW2b hrow (by decide)), hW2B.setCell (p := ⟨b, 1, none⟩) (Nat.le_refl _) _⟩
  clear hW2 hother hW2n hW2b hW2B hrow hsz hgne hn2 hg2 hb2 hmax hrun htk hcur h1 hw
  go_enter Tryd.func64, Tryd.ntmps64
  go_wp2
  go_region_o
  all_goals go_wp2
  all_goals go_end0
  all_goals exact ⟨rfl, hfin.1, hfin.2⟩
end Go.Proofs.YtolamblmfejhoaaDoor
