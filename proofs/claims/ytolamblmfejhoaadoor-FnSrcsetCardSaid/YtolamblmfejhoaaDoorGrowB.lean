/- (*strings.Builder).Grow at any builder. -/
import Derived.Test.YtolamblmfejhoaaDoorGrow
import Derived.Shelf.Strings.BuilderK
namespace Go.Proofs.YtolamblmfejhoaaDoor
open Go.Shelf Go.RowKit
set_option linter.unusedVariables false
set_option linter.unusedSimpArgs false

theorem byteCells_one (l : Bytes) : ∀ v ∈ Lib.byteCells l, v.oneCell' = true := by
  intro v hv
  unfold Lib.byteCells at hv
  obtain ⟨x, _, rfl⟩ := List.mem_map.1 hv
  rfl
set_option maxHeartbeats 1000000 in
set_option maxRecDepth 1000000 in
theorem grow_used (b n : Nat) (l : Bytes) (w : World) (h : Bld b l w) (hn : l.length + n ≤ 17592186044416) (hn0 : 0 < n) :
    Calls Tryd.prog 49 #[.pointer (some ⟨b, 0, none⟩), .int .i64 n] w fun e w' => e = .returned (.tuple #[]) ∧ Bld b l w' ∧ Below b w w' := by
  have HC := Lib.hid (Any.Builder_copyCheck_k lays240 bextra.toX72 b b _ w h)
  have mixed : Tryd.prog.follows .mixedOrders = true := by kernel_rfl
  clear h
  go_enter Tryd.func49, Tryd.ntmps49
  go_wp2_with (go_at_call 55; refine HC.out.mono ?_; rintro e w1 ⟨rfl, hA, hb1, _⟩; clear HC)
  have HA := Lib.hid hA
  obtain ⟨-, v, hbk, ⟨ho1, ho2⟩, hne⟩ := hA
  have hlen : (Lib.byteCells l).length = l.length := Lib.byteCells_length l
  rcases ho2 with ⟨rfl, h0⟩ | ⟨g, cap, cur, fz, rfl, hbg, hg, hfz, hcap, hmax, hcur, htk⟩
  · have hnz : (0 : Int) < (n : Int) := by omega
    have hl0 : l = [] := List.eq_nil_of_length_eq_zero (by omega)
    subst hl0
    have HG := Lib.hid (Tryd.Builder_grow_fresh b b n w1.drew (Nat.le_refl _) hbk (Nat.le_of_lt (heap_lt hbk)) (by omega))
    have c1 : w1.drew.cell? ⟨b, 1, none⟩ = some (.slice none 0 0) := by
      have : w1.drew.heap[b]? = _ := hbk
      rw [Lib.cell_of_heap this]; rfl
    have hb2 := hb1.drew
    clear hbk ho1 hne hlen h0
    go_region_o
    all_goals go_wp2_with (go_at_call 64; refine HG.out.mono ?_; rintro e w2 ⟨rfl, h1, h2⟩)
    all_goals go_end0
    all_goals exact ⟨rfl, .inr (Lib.BuilderAtF.of h1), hb2.trans h2⟩
  · rw [Nat.mul_one] at ho1 htk hcur
    have c1 : w1.drew.cell? ⟨b, 1, none⟩ = some (.slice (some ⟨g, 0, none⟩) (Lib.byteCells l).length cap) := by
      have : w1.drew.heap[b]? = _ := hbk
      rw [Lib.cell_of_heap this]; rfl
    have hb2 := hb1.drew
    have hbg' : b < g := by
      rcases Nat.lt_or_ge b g with h | h
      · exact h
      · exact absurd (by simp [Value.ownBlock]; omega) hne
    by_cases hbig : (cap : Int) - (l.length : Int) < (n : Int)
    · have HG := Lib.hid (grow_row b g n cap (Lib.byteCells l) cur fz w1.drew hbk hg hbg' hcap hcur htk (byteCells_one l) (by omega))
      rw [hlen] at c1
      clear hbk ho1 hne hlen hg hfz hcap hcur htk hmax hbg
      go_region_o
      all_goals go_wp2_with (go_at_call 64; refine HG.out.mono ?_; rintro e w2 ⟨rfl, h1, h2⟩)
      all_goals go_end0
      all_goals exact ⟨rfl, .inr h1, hb2.trans h2⟩
    · rw [hlen] at c1 hcap
      have hmx : (cap : Int) ≤ 9223372036854775807 := by unfold maxLen at hmax; omega
      have hle : (l.length : Int) ≤ (cap : Int) := by omega
      have hno : IntKind.i64.wrap ((cap : Int) - (l.length : Int)) = (cap : Int) - (l.length : Int) := by rw [IntKind.wrap_i64]; omega
      clear hbk ho1 hne hlen hg hfz hcap hcur htk hmax hbg
      go_region_o
      all_goals go_wp2
      all_goals first
        | omega
        | (go_end0; exact ⟨rfl, Bld.keep (.inr HA.out) (Below.refl _ _).drew, hb2⟩)
end Go.Proofs.YtolamblmfejhoaaDoor
