/- The reference's entities. -/
import Derived.Test.YthhmccdjhcfggaaSpecD
namespace Go.Proofs.Ythhmccdjhcfggaa
open Go.RowKit
set_option linter.unusedVariables false
set_option linter.unusedSimpArgs false

def entCells (e : Bytes × Bytes × Bool) : List Value := [.string ⟨e.1.toArray⟩, .string ⟨e.2.1.toArray⟩, .bool e.2.2]
def entSlice (w : World) : Value := .slice (some ⟨w.heap.size, 0, none⟩) 54 54
def entAct (w : World) : Act := { tmps := (entSlice w :: (ents.map (fun e => Value.agg (entCells e).toArray) ++ [entSlice w])).toArray, defers := [] }
def entWorld (w : World) : World := w.alloc (.cells (ents.flatMap entCells).toArray 40)

/-- The straight operations of a region, run one by one. -/
def runOps (P : Program) (ops : Array Oper) : List Oper → Act → World → Option (Act × World)
  | [], a, w => some (a, w)
  | o :: rest, a, w =>
    if Region.wanted o (yielded ops a.tmps) = true then
      match (execOp a.eval o).run P w with
      | .ok (.value v) w' => runOps P ops rest (a.put o.dst v) w'
      | .ok .skip w' => runOps P ops rest (a.put o.dst undef) w'
      | _ => none
    else runOps P ops rest (a.put o.dst undef) w

theorem wpList_of_run {P : Program} {ops : Array Oper} {Q : Exit → Act → World → Prop} : ∀ (l : List Oper) (a : Act) (w : World) (a' : Act) (w' : World),
    runOps P ops l a w = some (a', w') → Q .normal a' w' → wpList P ops Q l a w
  | [], a, w, a', w', h, q => by
    simp only [runOps, Option.some.injEq, Prod.mk.injEq] at h
    obtain ⟨rfl, rfl⟩ := h
    exact q
  | o :: rest, a, w, a', w', h, q => by
    unfold wpList
    unfold runOps at h
    by_cases hw : Region.wanted o (yielded ops a.tmps) = true
    · rw [if_pos hw] at h ⊢
      left
      unfold Oper.wp
      split at h
      · next v w1 hr => rw [hr]; exact wpList_of_run rest _ _ _ _ h q
      · next w1 hr => rw [hr]; exact wpList_of_run rest _ _ _ _ h q
      · cases h
    · rw [if_neg hw] at h ⊢
      exact wpList_of_run rest _ _ _ _ h q

theorem wp_seq_region {P : Program} {id : Nat} {ops : Array Oper} {y : Code} {Q : Exit → Act → World → Prop} {a : Act} {w : World} (a' : Act) (w' : World)
    (h : runOps P ops ops.toList a w = some (a', w')) (g : y.wp P Q a' w') : ((Code.region id ops false).seq y).wp P Q a w :=
  wp_seq (wp_region_list (wpList_of_run _ _ _ _ _ h g))

set_option maxRecDepth 100000 in
theorem entities_any (w : World) :
    Calls Try.prog 19 #[] w fun e w' => e = .returned (entSlice w) ∧ w' = entWorld w := by
  go_enter Try.func19, Try.ntmps19
  refine wp_seq_region { tmps := (.slice none 0 0 :: List.replicate 55 undef).toArray, defers := [] } w (by kernel_rfl) ?_
  refine wp_seq_region (entAct w) (entWorld w) (by kernel_rfl) ?_
  refine wp_ret ?_
  exact bodyPost_ret (v := entSlice w) (by kernel_rfl) rfl ⟨rfl, rfl⟩

def entAt (k : Nat) : Bytes × Bytes × Bool := ents.getD k ([], [], false)
def entName (k : Nat) : ByteArray := ⟨(entAt k).1.toArray⟩
def entText (k : Nat) : ByteArray := ⟨(entAt k).2.1.toArray⟩
def entLegacy (k : Nat) : Bool := (entAt k).2.2

theorem ent_flat : ∀ k, k < 54 → (ents.flatMap entCells)[k * 3]? = some (.string (entName k)) ∧ (ents.flatMap entCells)[k * 3 + 1]? = some (.string (entText k)) ∧ (ents.flatMap entCells)[k * 3 + 2]? = some (.bool (entLegacy k)) := by
  intro k hk
  match k, hk with
  | 0, _ => exact ⟨rfl, rfl, rfl⟩
  | 1, _ => exact ⟨rfl, rfl, rfl⟩
  | 2, _ => exact ⟨rfl, rfl, rfl⟩
  | 3, _ => exact ⟨rfl, rfl, rfl⟩
  | 4, _ => exact ⟨rfl, rfl, rfl⟩
  | 5, _ => exact ⟨rfl, rfl, rfl⟩
  | 6, _ => exact ⟨rfl, rfl, rfl⟩
  | 7, _ => exact ⟨rfl, rfl, rfl⟩
  | 8, _ => exact ⟨rfl, rfl, rfl⟩
  | 9, _ => exact ⟨rfl, rfl, rfl⟩
  | 10, _ => exact ⟨rfl, rfl, rfl⟩
  | 11, _ => exact ⟨rfl, rfl, rfl⟩
  | 12, _ => exact ⟨rfl, rfl, rfl⟩
  | 13, _ => exact ⟨rfl, rfl, rfl⟩
  | 14, _ => exact ⟨rfl, rfl, rfl⟩
  | 15, _ => exact ⟨rfl, rfl, rfl⟩
  | 16, _ => exact ⟨rfl, rfl, rfl⟩
  | 17, _ => exact ⟨rfl, rfl, rfl⟩
  | 18, _ => exact ⟨rfl, rfl, rfl⟩
  | 19, _ => exact ⟨rfl, rfl, rfl⟩
  | 20, _ => exact ⟨rfl, rfl, rfl⟩
  | 21, _ => exact ⟨rfl, rfl, rfl⟩
  | 22, _ => exact ⟨rfl, rfl, rfl⟩
  | 23, _ => exact ⟨rfl, rfl, rfl⟩
  | 24, _ => exact ⟨rfl, rfl, rfl⟩
  | 25, _ => exact ⟨rfl, rfl, rfl⟩
  | 26, _ => exact ⟨rfl, rfl, rfl⟩
  | 27, _ => exact ⟨rfl, rfl, rfl⟩
  | 28, _ => exact ⟨rfl, rfl, rfl⟩
  | 29, _ => exact ⟨rfl, rfl, rfl⟩
  | 30, _ => exact ⟨rfl, rfl, rfl⟩
  | 31, _ => exact ⟨rfl, rfl, rfl⟩
  | 32, _ => exact ⟨rfl, rfl, rfl⟩
  | 33, _ => exact ⟨rfl, rfl, rfl⟩
  | 34, _ => exact ⟨rfl, rfl, rfl⟩
  | 35, _ => exact ⟨rfl, rfl, rfl⟩
  | 36, _ => exact ⟨rfl, rfl, rfl⟩
  | 37, _ => exact ⟨rfl, rfl, rfl⟩
  | 38, _ => exact ⟨rfl, rfl, rfl⟩
  | 39, _ => exact ⟨rfl, rfl, rfl⟩
  | 40, _ => exact ⟨rfl, rfl, rfl⟩
  | 41, _ => exact ⟨rfl, rfl, rfl⟩
  | 42, _ => exact ⟨rfl, rfl, rfl⟩
  | 43, _ => exact ⟨rfl, rfl, rfl⟩
  | 44, _ => exact ⟨rfl, rfl, rfl⟩
  | 45, _ => exact ⟨rfl, rfl, rfl⟩
  | 46, _ => exact ⟨rfl, rfl, rfl⟩
  | 47, _ => exact ⟨rfl, rfl, rfl⟩
  | 48, _ => exact ⟨rfl, rfl, rfl⟩
  | 49, _ => exact ⟨rfl, rfl, rfl⟩
  | 50, _ => exact ⟨rfl, rfl, rfl⟩
  | 51, _ => exact ⟨rfl, rfl, rfl⟩
  | 52, _ => exact ⟨rfl, rfl, rfl⟩
  | 53, _ => exact ⟨rfl, rfl, rfl⟩
  | n + 54, h => omega

/-- What lies in memory behind a call of entities: its block, and all that was there. -/
structure EntW (w w' : World) : Prop where
  below : Below w.heap.size w w'
  size : w'.heap.size = w.heap.size + 1
  cell0 : ∀ k, k < 54 → w'.cell? ⟨w.heap.size, k * 3, none⟩ = some (.string (entName k))
  cell1 : ∀ k, k < 54 → w'.cell? ⟨w.heap.size, k * 3 + 1, none⟩ = some (.string (entText k))
  cell2 : ∀ k, k < 54 → w'.cell? ⟨w.heap.size, k * 3 + 2, none⟩ = some (.bool (entLegacy k))

theorem entW (w : World) : EntW w (entWorld w) :=
  { below := (Below.refl _ _).alloc (Nat.le_refl _) _
    size := by simp [entWorld]
    cell0 := fun k hk => cell_new w _ _ _ _ (ent_flat k hk).1
    cell1 := fun k hk => cell_new w _ _ _ _ (ent_flat k hk).2.1
    cell2 := fun k hk => cell_new w _ _ _ _ (ent_flat k hk).2.2 }

theorem entities_calls (w : World) :
    Calls Try.prog 19 #[] w fun e w' => e = .returned (.slice (some ⟨w.heap.size, 0, none⟩) 54 54) ∧ EntW w w' :=
  (entities_any w).mono fun e w' h => ⟨h.1, h.2 ▸ entW w⟩

def strAt (k : Nat) : ByteArray := ⟨(strangeL.getD k []).toArray⟩
structure StrW (w w' : World) : Prop where
  below : Below w.heap.size w w'
  size : w'.heap.size = w.heap.size + 1
  cell : ∀ k, k < 18 → w'.cell? ⟨w.heap.size, k, none⟩ = some (.string (strAt k))
theorem str_flat : ∀ k, k < 18 → (strangeL.map (fun l => Value.string ⟨l.toArray⟩))[k]? = some (.string (strAt k)) := by
  intro k hk
  match k, hk with
  | 0, _ => rfl
  | 1, _ => rfl
  | 2, _ => rfl
  | 3, _ => rfl
  | 4, _ => rfl
  | 5, _ => rfl
  | 6, _ => rfl
  | 7, _ => rfl
  | 8, _ => rfl
  | 9, _ => rfl
  | 10, _ => rfl
  | 11, _ => rfl
  | 12, _ => rfl
  | 13, _ => rfl
  | 14, _ => rfl
  | 15, _ => rfl
  | 16, _ => rfl
  | 17, _ => rfl
  | n + 18, h => omega
theorem strange_calls (w : World) :
    Calls Try.prog 20 #[] w fun e w' => e = .returned (.slice (some ⟨w.heap.size, 0, none⟩) 18 18) ∧ StrW w w' :=
  (strange_any w).mono fun e w' h => ⟨h.1, h.2 ▸ { below := (Below.refl _ _).alloc (Nat.le_refl _) _, size := by simp, cell := fun k hk => cell_new w _ _ _ _ (str_flat k hk) }⟩
end Go.Proofs.Ythhmccdjhcfggaa
