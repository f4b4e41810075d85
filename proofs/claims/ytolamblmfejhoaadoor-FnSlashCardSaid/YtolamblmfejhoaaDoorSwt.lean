/- A switch over a text: a chain of tests of one slot against constants, each with two results and a return. The lemma over any such chain. -/
import Derived.Test.YtolamblmfejhoaaDoorCom
import Derived.Test.YtolamblmfejhoaaDoorLawN
namespace Go.Proofs.YtolamblmfejhoaaDoor
open Go.RowKit
set_option linter.unusedVariables false
set_option linter.unusedSimpArgs false

/-- The code of the arms: (the constant, the operands of the two results), the slot of the first test. -/
inductive Chain (sub : Nat) (z : Code) : List (Bytes × Value × Value) → Nat → Code → Prop
  | done (k : Nat) : Chain sub z [] k z
  | arm {id1 id2 k : Nat} {b : Bytes} {v1 v2 : Value} {rest : List (Bytes × Value × Value)} {els : Code} {ty1 ty2 ty3 ty4 ty5 ty6 : TypeId} {p1 p2 p3 p4 : String} {f1 f2 f3 f4 : Array Edge}
      (h : Chain sub z rest (k + 2) els) :
      Chain sub z ((b, v1, v2) :: rest) k
        ((Code.region id1 #[{ dst := some (k + 1), op := .binOp .eql ty5 (.tmp sub) (.const (.string ⟨b.toArray⟩)) ty6, type := ty1, pos := p1, after := f1, guard := none },
            { dst := some k, op := .assign (.tmp (k + 1)), type := ty2, pos := p2, after := f2, guard := none }] false).seq
          (Code.cond (.tmp k) ((Code.region id2 #[{ dst := some 2, op := .assign (.const v1), type := ty3, pos := p3, after := f3, guard := none },
            { dst := some 3, op := .assign (.const v2), type := ty4, pos := p4, after := f4, guard := none }] false).seq .ret) els))

def findB : List (Bytes × Value × Value) → Bytes → Option (Value × Value)
  | [], _ => none
  | e :: t, l => if e.1 == l then some e.2 else findB t l

/-- The straight operations of a region, run one by one. -/
def runOpsC (P : Program) (ops : Array Oper) : List Oper → Act → World → Option (Act × World)
  | [], a, w => some (a, w)
  | o :: rest, a, w =>
    if Region.wanted o (yielded ops a.tmps) = true then
      match (execOp a.eval o).run P w with
      | .ok (.value v) w' => runOpsC P ops rest (a.put o.dst v) w'
      | .ok .skip w' => runOpsC P ops rest (a.put o.dst undef) w'
      | _ => none
    else runOpsC P ops rest (a.put o.dst undef) w

theorem wpList_of_runC {P : Program} {ops : Array Oper} {Q : Exit → Act → World → Prop} : ∀ (l : List Oper) (a : Act) (w : World) (a' : Act) (w' : World),
    runOpsC P ops l a w = some (a', w') → Q .normal a' w' → wpList P ops Q l a w
  | [], a, w, a', w', h, q => by
    simp only [runOpsC, Option.some.injEq, Prod.mk.injEq] at h
    obtain ⟨rfl, rfl⟩ := h
    exact q
  | o :: rest, a, w, a', w', h, q => by
    unfold wpList
    unfold runOpsC at h
    by_cases hw : Region.wanted o (yielded ops a.tmps) = true
    · rw [if_pos hw] at h ⊢
      left
      unfold Oper.wp
      split at h
      · next v w1 hr => rw [hr]; exact wpList_of_runC rest _ _ _ _ h q
      · next w1 hr => rw [hr]; exact wpList_of_runC rest _ _ _ _ h q
      · cases h
    · rw [if_neg hw] at h ⊢
      exact wpList_of_runC rest _ _ _ _ h q

theorem wp_seq_regionC {P : Program} {id : Nat} {ops : Array Oper} {y : Code} {Q : Exit → Act → World → Prop} {a : Act} {w : World} (a' : Act) (w' : World)
    (h : runOpsC P ops ops.toList a w = some (a', w')) (g : y.wp P Q a' w') : ((Code.region id ops false).seq y).wp P Q a w :=
  wp_seq (wp_region_list (wpList_of_runC _ _ _ _ _ h g))

theorem eval_put_same (a : Act) (k : Nat) (v : Value) (h : k < a.tmps.size) : (a.put (some k) v).eval (.tmp k) = v := by
  simp [Act.put, Act.eval, Array.getD, h]
theorem eval_put_other (a : Act) (k j : Nat) (v : Value) (h : j ≠ k) : (a.put (some k) v).eval (.tmp j) = a.eval (.tmp j) := by
  have h' : k ≠ j := fun e => h e.symm
  simp [Act.put, Act.eval, Array.getD_eq_getD_getElem?, Array.getElem?_setIfInBounds, h']
theorem size_put (a : Act) (k : Nat) (v : Value) : (a.put (some k) v).tmps.size = a.tmps.size := by simp [Act.put]
theorem wpList_val {P : Program} {ops : Array Oper} {Q : Exit → Act → World → Prop} {rest : List Oper} {o : Oper} {a : Act} {w : World} {v : Value} (hg : o.guard = none) (hr : (execOp a.eval o).run P w = .ok (.value v) w) (h : wpList P ops Q rest (a.put o.dst v) w) : wpList P ops Q (o :: rest) a w :=
  wpList_plain hg fun K hK => by unfold Oper.wp; rw [hr]; exact hK _ _ h

def ChainPost (P : Program) (sub : Nat) (z : Code) (N : Nat) (Q : Exit → Act → World → Prop) (D : List Deferred) (v : ByteArray) (w : World) : Option (Value × Value) → Prop
  | some r => ∀ a' : Act, a'.tmps.size = N → a'.defers = D → a'.eval (.tmp 2) = r.1 → a'.eval (.tmp 3) = r.2 → Q .ret a' w
  | none => ∀ a' : Act, a'.tmps.size = N → a'.defers = D → z.wp P Q a' w

theorem chain_wp {P : Program} {sub N : Nat} {z : Code} {Q : Exit → Act → World → Prop} {v : ByteArray} {w : World} {D : List Deferred} {tab : List (Bytes × Value × Value)} {k : Nat} {c : Code} (hc : Chain sub z tab k c) :
    ∀ a : Act, a.tmps.size = N → a.defers = D → k + 2 * tab.length ≤ N → sub < k → 3 < k → a.eval (.tmp sub) = .string v →
    ChainPost P sub z N Q D v w (findB tab v.data.toList) → c.wp P Q a w := by
  induction hc with
  | done k => intro a h1 h2 _ _ _ _ h; exact h a h1 h2
  | @arm id1 id2 k b v1 v2 rest els ty1 ty2 ty3 ty4 ty5 ty6 p1 p2 p3 p4 f1 f2 f3 f4 hch ih =>
    intro a h1 h2 h3 h4 h5 h6 h7
    rw [List.length_cons] at h3
    refine wp_seq (wp_region_list ?_)
    refine wpList_val (v := .bool (v.toList == (⟨b.toArray⟩ : ByteArray).toList)) rfl (by have g : a.tmps[sub]?.getD undef = .string v := (by simpa [Act.eval] using h6); simp [execOp, g, go_sem, eqGuard]) ?_
    obtain ⟨a1, ha1⟩ : ∃ a1, a1 = a.put (some (k + 1)) (.bool (v.toList == (⟨b.toArray⟩ : ByteArray).toList)) := ⟨_, rfl⟩
    have e1 : a1.eval (.tmp (k + 1)) = .bool (v.toList == (⟨b.toArray⟩ : ByteArray).toList) := by rw [ha1]; exact eval_put_same _ _ _ (by omega)
    have s1 : a1.tmps.size = N := by rw [ha1, size_put, h1]
    have d1 : a1.defers = D := by rw [ha1]; exact h2
    have b1 : a1.eval (.tmp sub) = .string v := by rw [ha1, eval_put_other _ _ _ _ (by omega)]; exact h6
    show wpList P _ _ _ (a.put (some (k + 1)) (.bool (v.toList == (⟨b.toArray⟩ : ByteArray).toList))) w
    rw [← ha1]
    refine wpList_val (v := .bool (v.toList == (⟨b.toArray⟩ : ByteArray).toList)) rfl (by have g : a1.tmps[k + 1]?.getD undef = .bool (v.toList == (⟨b.toArray⟩ : ByteArray).toList) := (by simpa [Act.eval] using e1); simp only [execOp, Act.eval] at e1 ⊢; simp [e1, go_sem]) ?_
    obtain ⟨a2, ha2⟩ : ∃ a2, a2 = a1.put (some k) (.bool (v.toList == (⟨b.toArray⟩ : ByteArray).toList)) := ⟨_, rfl⟩
    have e2 : a2.eval (.tmp k) = .bool (v.toList == (⟨b.toArray⟩ : ByteArray).toList) := by rw [ha2]; exact eval_put_same _ _ _ (by omega)
    have s2 : a2.tmps.size = N := by rw [ha2, size_put, s1]
    have d2 : a2.defers = D := by rw [ha2]; exact d1
    have b2 : a2.eval (.tmp sub) = .string v := by rw [ha2, eval_put_other _ _ _ _ (by omega)]; exact b1
    show wpList P _ _ _ (a1.put (some k) (.bool (v.toList == (⟨b.toArray⟩ : ByteArray).toList))) w
    rw [← ha2]
    show Exit.then _ _ .normal a2 w
    show ((Code.cond _ _ _).wp P Q a2 w)
    have hb : (v.toList == (⟨b.toArray⟩ : ByteArray).toList) = (b == v.data.toList) := by
      rw [Lib.toList_data, Lib.toList_data, Bool.eq_iff_iff, beq_iff_eq, beq_iff_eq]; exact eq_comm
    rw [hb] at e2
    cases hbv : (b == v.data.toList)
    · rw [hbv] at e2
      refine wp_cond_false e2 ?_
      refine ih a2 s2 d2 (by omega) (by omega) (by omega) b2 ?_
      have : findB ((b, v1, v2) :: rest) v.data.toList = findB rest v.data.toList := by
        show (if (b == v.data.toList) = true then some (v1, v2) else findB rest v.data.toList) = _
        rw [if_neg (by rw [hbv]; decide)]
      rw [this] at h7
      exact h7
    · rw [hbv] at e2
      refine wp_cond_true e2 ?_
      have : findB ((b, v1, v2) :: rest) v.data.toList = some (v1, v2) := by
        show (if (b == v.data.toList) = true then some (v1, v2) else findB rest v.data.toList) = _
        rw [if_pos hbv]
      rw [this] at h7
      refine wp_seq (wp_region_list ?_)
      refine wpList_val (v := v1) rfl (by simp [execOp, go_sem, Act.eval]) ?_
      refine wpList_val (v := v2) rfl (by simp [execOp, go_sem, Act.eval]) ?_
      show (Code.ret.wp P Q ((a2.put (some 2) v1).put (some 3) v2) w)
      refine wp_ret (h7 _ ?_ d2 ?_ ?_)
      · rw [size_put, size_put, s2]
      · rw [eval_put_other _ _ _ _ (by decide)]
        exact eval_put_same _ _ _ (by omega)
      · exact eval_put_same _ _ _ (by rw [size_put]; omega)
end Go.Proofs.YtolamblmfejhoaaDoor
