/- The package's attrType, the thin package's AttrType. -/
import Derived.Test.YtigobehhmodoiaaDoorAttr
import Derived.Test.YtigobehhmodoiaaDoorCut
import Derived.Test.YtigobehhmodoiaaDoorCont
import Derived.Test.YtigobehhmodoiaaDoorShelf
namespace Go.Proofs.YtigobehhmodoiaaDoor
open Go.RowKit
set_option linter.unusedVariables false
set_option linter.unusedSimpArgs false

theorem coreL_le (l : Bytes) : coreL l ≤ 8 := by
  have h : ∀ e ∈ attrMap, e.2 ≤ 8 := by decide +kernel
  have hl : ∀ (t : List (Bytes × Nat)), (∀ e ∈ t, e.2 ≤ 8) → (lookL t l).1 ≤ 8 := by
    intro t
    induction t with
    | nil => intro _; exact Nat.zero_le _
    | cons e t ih =>
      intro h
      unfold lookL
      split
      · exact h e (by simp)
      · exact ih (fun x hx => h x (by simp [hx]))
  unfold coreL
  split
  · exact hl attrMap h
  · split
    · decide
    · split <;> decide
theorem attrTypeL_le (l : Bytes) : attrTypeL l ≤ 8 := by
  unfold attrTypeL
  split
  · exact coreL_le _
  · split
    · split
      · decide
      · exact coreL_le _
    · exact coreL_le _

theorem drop_le (s : ByteArray) (n : Nat) (hs : (s.size : Int) ≤ 17179869184) : (((s.data.toList.drop n).length : Nat) : Int) ≤ 17179869184 := by
  have h2 : s.data.toList.length = s.size := by simp
  rw [List.length_drop, h2]; omega

/-- What the rest of attrType meets at a name that reads as x. -/
structure Meets (x : Bytes) (f : Bool) (k : Nat) (o c1 c2 c3 : Bool) : Prop where
  look : ∀ (v : ByteArray) (w : World), v.data.toList = x → Calls Tryd.prog 105 #[.string v] w fun e w' => e = .returned (.tuple #[.int .u8 (k : Int), .bool f]) ∧ w = w'
  on : ∀ (v : ByteArray) (w : World), v.data.toList = x → Calls Tryd.prog 103 #[.string v, .string ⟨#[111, 110]⟩] w fun e w' => e = .returned (.bool o) ∧ w = w'
  src : ∀ (v : ByteArray) (w : World), v.data.toList = x → Calls Tryd.prog 106 #[.string v, .string ⟨#[115, 114, 99]⟩] w fun e w' => e = .returned (.bool c1) ∧ w = w'
  uri : ∀ (v : ByteArray) (w : World), v.data.toList = x → Calls Tryd.prog 106 #[.string v, .string ⟨#[117, 114, 105]⟩] w fun e w' => e = .returned (.bool c2) ∧ w = w'
  url : ∀ (v : ByteArray) (w : World), v.data.toList = x → Calls Tryd.prog 106 #[.string v, .string ⟨#[117, 114, 108]⟩] w fun e w' => e = .returned (.bool c3) ∧ w = w'
  core : (coreL x : Int) = if f = true then (k : Int) else if o = true then 4 else if (c1 || c2 || c3) = true then 6 else 0
theorem meets (x : Bytes) (hx : (x.length : Int) ≤ 17179869184) : ∃ f k o c1 c2 c3, Meets x f k o c1 c2 c3 := by
  refine ⟨(lookL attrMap x).2, (lookL attrMap x).1, onW.isPrefixOf x, (idxL srcW x).isSome, (idxL uriW x).isSome, (idxL urlW x).isSome, ?_, ?_, ?_, ?_, ?_, ?_⟩
  · intro v w hv; have := attrTypeMap_any v w; rw [hv] at this; exact this
  · intro v w hv
    have := Tryd.strings_HasPrefix v ⟨#[111, 110]⟩ w
    unfold Lib.hasPrefix at this
    rw [hv] at this
    exact this.mono fun _ _ h => ⟨h.1, h.2.symm⟩
  · intro v w hv
    have := zzContains_any v ⟨#[115, 114, 99]⟩ w (by rw [← hv] at hx; simpa using hx) (by decide) (by decide)
    rw [hv] at this; exact this
  · intro v w hv
    have := zzContains_any v ⟨#[117, 114, 105]⟩ w (by rw [← hv] at hx; simpa using hx) (by decide) (by decide)
    rw [hv] at this; exact this
  · intro v w hv
    have := zzContains_any v ⟨#[117, 114, 108]⟩ w (by rw [← hv] at hx; simpa using hx) (by decide) (by decide)
    rw [hv] at this; exact this
  · unfold coreL
    split
    · rfl
    · split
      · rfl
      · split <;> rfl

set_option maxRecDepth 100000 in
set_option maxHeartbeats 4000000 in
theorem attrType_data (s : ByteArray) (w : World) (hs : (s.size : Int) ≤ 17179869184) (hp : dataW.isPrefixOf s.data.toList = true) :
    Calls Tryd.prog 78 #[.string s] w fun e w' => e = .returned (.int .u8 (coreL (s.data.toList.drop 5) : Int)) ∧ Below w.heap.size w w' := by
  have hl : (5 : Int) ≤ s.size := by
    have h1 := (List.isPrefixOf_iff_prefix.1 hp).length_le
    have h2 : s.data.toList.length = s.size := by simp
    rw [h2] at h1
    have : dataW.length = 5 := rfl
    omega
  obtain ⟨f, k, o, c1, c2, c3, hM⟩ := meets (s.data.toList.drop 5) (drop_le s 5 hs)
  have HP : Hid (∀ w, Calls Tryd.prog 103 #[.string s, .string ⟨#[100, 97, 116, 97, 45]⟩] w fun e w' => e = .returned (.bool true) ∧ w = w') := Lib.hid fun w => by
    have := Tryd.strings_HasPrefix s ⟨#[100, 97, 116, 97, 45]⟩ w
    unfold Lib.hasPrefix at this
    rw [show (⟨#[100, 97, 116, 97, 45]⟩ : ByteArray).data.toList = dataW from rfl, hp] at this
    exact this.mono fun _ _ h => ⟨h.1, h.2.symm⟩
  have HV : Hid ((s.extract 5 s.size).data.toList = s.data.toList.drop 5) := Lib.hid (extract_end s 5)
  have HM := Lib.hid hM
  have HC := Lib.hid hM.core
  have K1 : Hid True := Lib.hid trivial
  have K2 : Hid True := Lib.hid trivial
  have K3 : Hid True := Lib.hid trivial
  clear hM hp hs
  cases f <;> cases o <;> cases c1 <;> cases c2
  all_goals
    cases c3
    all_goals
      go_enter Tryd.func78, Tryd.ntmps78
      go_wp2_with (first
        | (clear K1; go_at_call 103; refine (HP.out _).mono ?_; rintro e w' ⟨rfl, rfl⟩)
        | (go_at_call 105; refine (HM.out.look _ _ HV.out).mono ?_; rintro e w' ⟨rfl, rfl⟩)
        | (go_at_call 103; refine (HM.out.on _ _ HV.out).mono ?_; rintro e w' ⟨rfl, rfl⟩)
        | (clear K2; go_at_call 106; refine (HM.out.src _ _ HV.out).mono ?_; rintro e w' ⟨rfl, rfl⟩)
        | (clear K3; go_at_call 106; refine (HM.out.uri _ _ HV.out).mono ?_; rintro e w' ⟨rfl, rfl⟩)
        | (go_at_call 106; refine (HM.out.url _ _ HV.out).mono ?_; rintro e w' ⟨rfl, rfl⟩))
      go_ret
      exact ⟨by rw [HC.out]; rfl, Below.refl _ _⟩
set_option maxRecDepth 100000 in
set_option maxHeartbeats 4000000 in
theorem attrType_cut (s : ByteArray) (w : World) (hs : (s.size : Int) ≤ 17179869184) (hp : dataW.isPrefixOf s.data.toList = false) (i : Nat) (ho : idxL [58] s.data.toList = some i) (hx : (s.data.toList.take i == xmlnsW) = false) :
    Calls Tryd.prog 78 #[.string s] w fun e w' => e = .returned (.int .u8 (coreL (s.data.toList.drop (i + 1)) : Int)) ∧ Below w.heap.size w w' := by
  obtain ⟨f, k, o, c1, c2, c3, hM⟩ := meets (s.data.toList.drop (i + 1)) (drop_le s _ hs)
  have HP : Hid (∀ w, Calls Tryd.prog 103 #[.string s, .string ⟨#[100, 97, 116, 97, 45]⟩] w fun e w' => e = .returned (.bool false) ∧ w = w') := Lib.hid fun w => by
    have := Tryd.strings_HasPrefix s ⟨#[100, 97, 116, 97, 45]⟩ w
    unfold Lib.hasPrefix at this
    rw [show (⟨#[100, 97, 116, 97, 45]⟩ : ByteArray).data.toList = dataW from rfl, hp] at this
    exact this.mono fun _ _ h => ⟨h.1, h.2.symm⟩
  have HX : Hid (∀ w, Calls Tryd.prog 104 #[.string s, .string ⟨#[58]⟩] w fun e w' => (∃ v1 v2 : ByteArray, e = .returned (.tuple #[.string v1, .string v2, .bool true]) ∧ v1.data.toList = s.data.toList.take i ∧ v2.data.toList = s.data.toList.drop (i + 1)) ∧ Below w.heap.size w w') := Lib.hid fun w => by
    have := zzCut_any s ⟨#[58]⟩ w hs (by decide) (by decide)
    rw [show (⟨#[58]⟩ : ByteArray).data.toList = [58] from rfl, ho] at this
    exact this.mono fun _ _ h => h
  have HM := Lib.hid hM
  have HC := Lib.hid hM.core
  have HQ := Lib.hid hx
  have K1 : Hid True := Lib.hid trivial
  have K2 : Hid True := Lib.hid trivial
  have K3 : Hid True := Lib.hid trivial
  clear hM hp hs ho hx
  cases f <;> cases o <;> cases c1 <;> cases c2
  all_goals
    cases c3
    all_goals
      go_enter Tryd.func78, Tryd.ntmps78
      go_wp2_with (first
        | (clear K1; go_at_call 103; refine (HP.out _).mono ?_; rintro e w' ⟨rfl, rfl⟩)
        | (go_at_call 104; refine (HX.out _).mono ?_; rintro e w1 ⟨⟨v1, v2, rfl, hv1, hv2⟩, hb1⟩; have q1 : (v1.toList == [120, 109, 108, 110, 115]) = false := (by rw [Lib.toList_data, hv1]; exact HQ.out); have q2 : (v1.toList = [120, 109, 108, 110, 115]) = False := (by simpa using q1); have HV := Lib.hid hv2; clear hv1 hv2)
        | (go_at_call 105; refine (HM.out.look _ _ HV.out).mono ?_; rintro e w' ⟨rfl, rfl⟩)
        | (go_at_call 103; refine (HM.out.on _ _ HV.out).mono ?_; rintro e w' ⟨rfl, rfl⟩)
        | (clear K2; go_at_call 106; refine (HM.out.src _ _ HV.out).mono ?_; rintro e w' ⟨rfl, rfl⟩)
        | (clear K3; go_at_call 106; refine (HM.out.uri _ _ HV.out).mono ?_; rintro e w' ⟨rfl, rfl⟩)
        | (go_at_call 106; refine (HM.out.url _ _ HV.out).mono ?_; rintro e w' ⟨rfl, rfl⟩))
      go_ret
      exact ⟨by rw [HC.out]; rfl, hb1⟩
set_option maxRecDepth 100000 in
set_option maxHeartbeats 4000000 in
theorem attrType_x (s : ByteArray) (w : World) (hs : (s.size : Int) ≤ 17179869184) (hp : dataW.isPrefixOf s.data.toList = false) (i : Nat) (ho : idxL [58] s.data.toList = some i) (hx : (s.data.toList.take i == xmlnsW) = true) :
    Calls Tryd.prog 78 #[.string s] w fun e w' => e = .returned (.int .u8 6) ∧ Below w.heap.size w w' := by
  have HP : Hid (∀ w, Calls Tryd.prog 103 #[.string s, .string ⟨#[100, 97, 116, 97, 45]⟩] w fun e w' => e = .returned (.bool false) ∧ w = w') := Lib.hid fun w => by
    have := Tryd.strings_HasPrefix s ⟨#[100, 97, 116, 97, 45]⟩ w
    unfold Lib.hasPrefix at this
    rw [show (⟨#[100, 97, 116, 97, 45]⟩ : ByteArray).data.toList = dataW from rfl, hp] at this
    exact this.mono fun _ _ h => ⟨h.1, h.2.symm⟩
  have HX : Hid (∀ w, Calls Tryd.prog 104 #[.string s, .string ⟨#[58]⟩] w fun e w' => (∃ v1 v2 : ByteArray, e = .returned (.tuple #[.string v1, .string v2, .bool true]) ∧ v1.data.toList = s.data.toList.take i ∧ v2.data.toList = s.data.toList.drop (i + 1)) ∧ Below w.heap.size w w') := Lib.hid fun w => by
    have := zzCut_any s ⟨#[58]⟩ w hs (by decide) (by decide)
    rw [show (⟨#[58]⟩ : ByteArray).data.toList = [58] from rfl, ho] at this
    exact this.mono fun _ _ h => h
  have HQ := Lib.hid hx
  clear hp hs ho hx
  go_enter Tryd.func78, Tryd.ntmps78
  go_wp2_with (first
    | (go_at_call 103; refine (HP.out _).mono ?_; rintro e w' ⟨rfl, rfl⟩)
    | (go_at_call 104; refine (HX.out _).mono ?_; rintro e w1 ⟨⟨v1, v2, rfl, hv1, hv2⟩, hb1⟩; have q1 : (v1.toList == [120, 109, 108, 110, 115]) = true := (by rw [Lib.toList_data, hv1]; exact HQ.out); have q2 : (v1.toList = [120, 109, 108, 110, 115]) = True := (by simpa using q1); clear hv1 hv2))
  go_ret
  exact ⟨rfl, hb1⟩
set_option maxRecDepth 100000 in
set_option maxHeartbeats 4000000 in
theorem attrType_plain (s : ByteArray) (w : World) (hs : (s.size : Int) ≤ 17179869184) (hp : dataW.isPrefixOf s.data.toList = false) (ho : idxL [58] s.data.toList = none) :
    Calls Tryd.prog 78 #[.string s] w fun e w' => e = .returned (.int .u8 (coreL s.data.toList : Int)) ∧ Below w.heap.size w w' := by
  obtain ⟨f, k, o, c1, c2, c3, hM⟩ := meets s.data.toList (by simpa using hs)
  have HP : Hid (∀ w, Calls Tryd.prog 103 #[.string s, .string ⟨#[100, 97, 116, 97, 45]⟩] w fun e w' => e = .returned (.bool false) ∧ w = w') := Lib.hid fun w => by
    have := Tryd.strings_HasPrefix s ⟨#[100, 97, 116, 97, 45]⟩ w
    unfold Lib.hasPrefix at this
    rw [show (⟨#[100, 97, 116, 97, 45]⟩ : ByteArray).data.toList = dataW from rfl, hp] at this
    exact this.mono fun _ _ h => ⟨h.1, h.2.symm⟩
  have HX : Hid (∀ w, Calls Tryd.prog 104 #[.string s, .string ⟨#[58]⟩] w fun e w' => (∃ v1 v2 : ByteArray, e = .returned (.tuple #[.string v1, .string v2, .bool false]) ∧ v1.data.toList = s.data.toList ∧ v2.data.toList = []) ∧ Below w.heap.size w w') := Lib.hid fun w => by
    have := zzCut_any s ⟨#[58]⟩ w hs (by decide) (by decide)
    rw [show (⟨#[58]⟩ : ByteArray).data.toList = [58] from rfl, ho] at this
    exact this.mono fun _ _ h => h
  have HM := Lib.hid hM
  have HC := Lib.hid hM.core
  have K1 : Hid True := Lib.hid trivial
  have K2 : Hid True := Lib.hid trivial
  have K3 : Hid True := Lib.hid trivial
  clear hM hp hs ho
  cases f <;> cases o <;> cases c1 <;> cases c2
  all_goals
    cases c3
    all_goals
      go_enter Tryd.func78, Tryd.ntmps78
      go_wp2_with (first
        | (clear K1; go_at_call 103; refine (HP.out _).mono ?_; rintro e w' ⟨rfl, rfl⟩)
        | (go_at_call 104; refine (HX.out _).mono ?_; rintro e w1 ⟨⟨v1, v2, rfl, hv1, hv2⟩, hb1⟩; clear hv1 hv2)
        | (go_at_call 105; refine (HM.out.look s _ rfl).mono ?_; rintro e w' ⟨rfl, rfl⟩)
        | (go_at_call 103; refine (HM.out.on s _ rfl).mono ?_; rintro e w' ⟨rfl, rfl⟩)
        | (clear K2; go_at_call 106; refine (HM.out.src s _ rfl).mono ?_; rintro e w' ⟨rfl, rfl⟩)
        | (clear K3; go_at_call 106; refine (HM.out.uri s _ rfl).mono ?_; rintro e w' ⟨rfl, rfl⟩)
        | (go_at_call 106; refine (HM.out.url s _ rfl).mono ?_; rintro e w' ⟨rfl, rfl⟩))
      go_ret
      exact ⟨by rw [HC.out]; rfl, hb1⟩
set_option maxRecDepth 100000 in
set_option maxHeartbeats 4000000 in
theorem attrType_any (s : ByteArray) (w : World) (hs : (s.size : Int) ≤ 17179869184) :
    Calls Tryd.prog 78 #[.string s] w fun e w' => e = .returned (.int .u8 (attrTypeL s.data.toList : Int)) ∧ Below w.heap.size w w' := by
  unfold attrTypeL
  cases hp : dataW.isPrefixOf s.data.toList
  · rw [if_neg (by decide)]
    cases ho : idxL [58] s.data.toList with
    | none => exact attrType_plain s w hs hp ho
    | some i =>
      show Calls _ _ _ _ fun e w' => e = .returned (.int .u8 ((if (s.data.toList.take i == xmlnsW) = true then 6 else coreL (s.data.toList.drop (i + 1)) : Nat) : Int)) ∧ Below w.heap.size w w'
      cases hx : (s.data.toList.take i == xmlnsW)
      · rw [if_neg (by decide)]; exact attrType_cut s w hs hp i ho hx
      · rw [if_pos rfl]; exact attrType_x s w hs hp i ho hx
  · rw [if_pos rfl]; exact attrType_data s w hs hp

set_option maxRecDepth 100000 in
theorem zzAttrType_any (s : ByteArray) (w : World) (hs : (s.size : Int) ≤ 17179869184) :
    Calls Tryd.prog 64 #[.string s] w fun e w' => e = .returned (.int .i64 (attrTypeL s.data.toList : Int)) ∧ Below w.heap.size w w' := by
  have HA := Lib.hid (fun w => attrType_any s w hs)
  have hk : (attrTypeL s.data.toList : Int) ≤ 8 := by have := attrTypeL_le s.data.toList; omega
  obtain ⟨k, hkk⟩ : ∃ k : Nat, k = attrTypeL s.data.toList := ⟨_, rfl⟩
  rw [← hkk] at HA hk ⊢
  clear hkk hs
  go_enter Tryd.func64, Tryd.ntmps64
  go_wp2_with (go_at_call 78; refine (HA.out _).mono ?_; rintro e w1 ⟨rfl, hb1⟩)
  go_ret
  exact ⟨rfl, hb1⟩
set_option maxRecDepth 100000 in
theorem implAttr_any (s : ByteArray) (w : World) (hs : (s.size : Int) ≤ 17179869184) :
    Calls Tryd.prog 39 #[.string s] w fun e w' => e = .returned (.int .i64 (attrTypeL s.data.toList : Int)) ∧ Below w.heap.size w w' := by
  have HA := Lib.hid (fun w => zzAttrType_any s w hs)
  obtain ⟨k, hkk⟩ : ∃ k : Nat, k = attrTypeL s.data.toList := ⟨_, rfl⟩
  rw [← hkk] at HA ⊢
  clear hkk hs
  go_enter Tryd.func39, Tryd.ntmps39
  go_wp2_with (go_at_call 64; refine (HA.out _).mono ?_; rintro e w1 ⟨rfl, hb1⟩)
  go_ret
  exact ⟨rfl, hb1⟩
end Go.Proofs.YtigobehhmodoiaaDoor
