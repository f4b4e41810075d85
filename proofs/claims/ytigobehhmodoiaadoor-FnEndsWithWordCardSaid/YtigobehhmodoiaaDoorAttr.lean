/- The package's attrTypeMap. -/
import Derived.Test.YtigobehhmodoiaaDoorSwt
namespace Go.Proofs.YtigobehhmodoiaaDoor
open Go.RowKit
set_option linter.unusedVariables false
set_option linter.unusedSimpArgs false

def attrTab : List (Bytes × Value × Value) := attrMap.map fun e => (e.1, .int .u8 (e.2 : Int), .bool true)
noncomputable def attrCode : Code := match Tryd.f105.body with
  | some (.seq _ (.seq (.seq _ (.block _ c)) _)) => c
  | _ => .skip
theorem find_look : ∀ (t : List (Bytes × Nat)) (l : Bytes), findB (t.map fun e => (e.1, Value.int .u8 (e.2 : Int), Value.bool true)) l = if (lookL t l).2 = true then some (.int .u8 ((lookL t l).1 : Int), .bool true) else none
  | [], l => rfl
  | e :: t, l => by
    show (if (e.1 == l) = true then some (Value.int .u8 (e.2 : Int), Value.bool true) else findB (t.map fun e => (e.1, Value.int .u8 (e.2 : Int), Value.bool true)) l) = _
    unfold lookL
    by_cases h : (e.1 == l) = true
    · rw [if_pos h, if_pos h, if_pos rfl]
    · rw [if_neg h, if_neg h]
      exact find_look t l
set_option maxRecDepth 1000000 in
set_option maxHeartbeats 4000000 in
theorem attr_chain : Chain 4 .skip attrTab 5 attrCode := by
  repeat' (first | exact Chain.done _ | refine Chain.arm ?_)

theorem look_snd : ∀ (t : List (Bytes × Nat)) (l : Bytes), (lookL t l).2 = false → (lookL t l).1 = 0
  | [], _, _ => rfl
  | e :: t, l, h => by
    unfold lookL at h ⊢
    split at h
    · cases h
    · next hn => rw [if_neg hn]; exact look_snd t l h

theorem fin2 {w : World} {R : Ending → World → Prop} (a : Act) (v1 v2 : Value) (hd : a.defers = []) (h1 : a.eval (.tmp 2) = v1) (h2 : a.eval (.tmp 3) = v2) (hR : R (.returned (.tuple #[v1, v2])) w) : bodyPost Tryd.prog Tryd.f105 R .ret a w := by
  have g1 : a.tmps[2]?.getD undef = v1 := by simpa [Act.eval] using h1
  have g2 : a.tmps[3]?.getD undef = v2 := by simpa [Act.eval] using h2
  refine bodyPost_ret (v := .tuple #[v1, v2]) ?_ hd hR
  simp [results, Tryd.results105, go_sem, g1, g2]
set_option maxRecDepth 1000000 in
set_option maxHeartbeats 4000000 in
theorem attrTypeMap_any (s : ByteArray) (w : World) :
    Calls Tryd.prog 105 #[.string s] w fun e w' => e = .returned (.tuple #[.int .u8 ((lookL attrMap s.data.toList).1 : Int), .bool (lookL attrMap s.data.toList).2]) ∧ w = w' := by
  have hN : Tryd.ntmps105 = Tryd.ntmps105 := rfl
  go_enter Tryd.func105, Tryd.ntmps105
  refine wp_seq_regionC { tmps := ([Value.string s, undef, .int .u8 0, .bool false] ++ List.replicate 227 undef).toArray, defers := [] } w (by kernel_rfl) ?_
  refine wp_seq ?_
  refine wp_seq_regionC { tmps := ([Value.string s, undef, .int .u8 0, .bool false, .string s] ++ List.replicate 226 undef).toArray, defers := [] } w (by kernel_rfl) ?_
  refine wp_block ?_
  refine chain_wp (N := 231) (v := s) (D := []) (sub := 4) (z := .skip) (tab := attrTab) (k := 5) attr_chain _ (by simp) rfl (by decide +kernel) (by decide) (by decide) rfl ?_
  rw [show findB attrTab s.data.toList = _ from find_look attrMap s.data.toList]
  cases hl : (lookL attrMap s.data.toList).2
  · rw [if_neg (by decide), look_snd _ _ hl]
    intro a' h1 h2
    refine wp_skip ?_
    change Code.wp _ _ _ a' w
    refine wp_seq (wp_region_list ?_)
    refine wpList_val (v := .int .u8 0) rfl (by simp [execOp, go_sem, Act.eval]) ?_
    refine wpList_val (v := .bool false) rfl (by simp [execOp, go_sem, Act.eval]) ?_
    show (Code.ret.wp _ _ ((a'.put (some 2) (.int .u8 0)).put (some 3) (.bool false)) w)
    refine wp_ret (fin2 _ _ _ h2 ?_ ?_ ⟨rfl, rfl⟩)
    · rw [eval_put_other _ _ _ _ (by decide)]
      exact eval_put_same _ _ _ (by omega)
    · exact eval_put_same _ _ _ (by rw [size_put]; omega)
  · rw [if_pos rfl]
    intro a' h1 h2 h3 h4
    exact fin2 (R := fun e w' => e = .returned (.tuple #[.int .u8 ((lookL attrMap s.data.toList).1 : Int), .bool true]) ∧ w = w') a' _ _ h2 h3 h4 ⟨rfl, rfl⟩
end Go.Proofs.YtigobehhmodoiaaDoor
