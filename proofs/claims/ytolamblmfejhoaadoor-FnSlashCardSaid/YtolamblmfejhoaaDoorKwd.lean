/- The package's regexpPrecederKeywords; isJSIdentPart. -/
import Derived.Test.YtolamblmfejhoaaDoorSwt
import Derived.Test.YtolamblmfejhoaaDoorLawT
namespace Go.Proofs.YtolamblmfejhoaaDoor
open Go.RowKit
set_option linter.unusedVariables false
set_option linter.unusedSimpArgs false

def keyTab : List (Bytes × Value × Value) := (keyWords ++ [yieldW]).map fun e => (e, .bool true, .bool true)
noncomputable def keyCode : Code := match Tryd.f42.body with
  | some (.seq _ (.seq (.seq _ (.block _ c)) _)) => c
  | _ => .skip
theorem find_key : ∀ (t : List Bytes) (l : Bytes), findB (t.map fun e => (e, Value.bool true, Value.bool true)) l = if t.any (· == l) = true then some (.bool true, .bool true) else none
  | [], l => rfl
  | e :: t, l => by
    show (if (e == l) = true then some (Value.bool true, Value.bool true) else findB (t.map fun e => (e, Value.bool true, Value.bool true)) l) = _
    rw [List.any_cons]
    by_cases h : (e == l) = true
    · rw [if_pos h, if_pos (by rw [h]; rfl)]
    · rw [if_neg h, find_key t l]
      have : (e == l) = false := by simpa using h
      rw [this, Bool.false_or]
theorem key_any (l : Bytes) : (keyWords ++ [yieldW]).any (· == l) = isKeyP l := by
  rw [List.any_append]
  unfold isKeyP isKey
  simp
set_option maxRecDepth 100000 in
theorem key_chain : Chain 4 .skip keyTab 5 keyCode := by
  repeat' (first | exact Chain.done _ | refine Chain.arm ?_)
theorem fin2k {w : World} {R : Ending → World → Prop} (a : Act) (v1 v2 : Value) (hd : a.defers = []) (h1 : a.eval (.tmp 2) = v1) (h2 : a.eval (.tmp 3) = v2) (hR : R (.returned (.tuple #[v1, v2])) w) : bodyPost Tryd.prog Tryd.f42 R .ret a w := by
  have g1 : a.tmps[2]?.getD undef = v1 := by simpa [Act.eval] using h1
  have g2 : a.tmps[3]?.getD undef = v2 := by simpa [Act.eval] using h2
  refine bodyPost_ret (v := .tuple #[v1, v2]) ?_ hd hR
  simp [results, Tryd.results42, go_sem, g1, g2]
set_option maxRecDepth 100000 in
set_option maxHeartbeats 1000000 in
theorem keywords_any (s : ByteArray) (w : World) :
    Calls Tryd.prog 42 #[.string s] w fun e w' => e = .returned (.tuple #[.bool (isKeyP s.data.toList), .bool (isKeyP s.data.toList)]) ∧ w = w' := by
  go_enter Tryd.func42, Tryd.ntmps42
  refine wp_seq_regionC { tmps := ([Value.string s, undef, .bool false, .bool false] ++ List.replicate 31 undef).toArray, defers := [] } w (by kernel_rfl) ?_
  refine wp_seq ?_
  refine wp_seq_regionC { tmps := ([Value.string s, undef, .bool false, .bool false, .string s] ++ List.replicate 30 undef).toArray, defers := [] } w (by kernel_rfl) ?_
  refine wp_block ?_
  refine chain_wp (N := 35) (v := s) (D := []) (sub := 4) (z := .skip) (tab := keyTab) (k := 5) key_chain _ (by simp) rfl (by decide +kernel) (by decide) (by decide) rfl ?_
  rw [show findB keyTab s.data.toList = _ from find_key (keyWords ++ [yieldW]) s.data.toList, key_any]
  cases hl : isKeyP s.data.toList
  · rw [if_neg (by decide)]
    intro a' h1 h2
    refine wp_skip ?_
    change Code.wp _ _ _ a' w
    refine wp_seq (wp_region_list ?_)
    refine wpList_val (v := .bool false) rfl (by simp [execOp, go_sem, Act.eval]) ?_
    refine wpList_val (v := .bool false) rfl (by simp [execOp, go_sem, Act.eval]) ?_
    show (Code.ret.wp _ _ ((a'.put (some 2) (.bool false)).put (some 3) (.bool false)) w)
    refine wp_ret (fin2k _ _ _ h2 ?_ ?_ ⟨rfl, rfl⟩)
    · rw [eval_put_other _ _ _ _ (by decide)]
      exact eval_put_same _ _ _ (by omega)
    · exact eval_put_same _ _ _ (by rw [size_put]; omega)
  · rw [if_pos rfl]
    intro a' h1 h2 h3 h4
    exact fin2k (R := fun e w' => e = .returned (.tuple #[.bool true, .bool true]) ∧ w = w') a' _ _ h2 h3 h4 ⟨rfl, rfl⟩

set_option maxRecDepth 100000 in
theorem identPart_any (c : Nat) (hc : c < 256) (w : World) : Calls Tryd.prog 41 #[.int .i32 c] w fun e w' => e = .returned (.bool (identB c)) ∧ w = w' := by
  go_enter Tryd.func41, Tryd.ntmps41
  go_wp2
  all_goals (try simp only [beq_iff_eq, beq_eq_false_iff_ne, ne_eq] at *)
  all_goals
    go_ret
    refine ⟨ret_bool ?_, rfl⟩
    unfold identB isAlnumB isAlphaB
    first
      | (symm; rw [Bool.eq_false_iff]; simp; omega)
      | (simp; omega)
end Go.Proofs.YtolamblmfejhoaaDoor
