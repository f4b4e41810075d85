/- The package's isJSType, the reference's JavaScript. -/
import Derived.Test.YteheelcppgjeaaaDoorCut
import Derived.Test.YteheelcppgjeaaaDoorLow
import Derived.Test.YteheelcppgjeaaaDoorSpIs
import Derived.Test.YteheelcppgjeaaaDoorLawM
import Derived.Test.YteheelcppgjeaaaDoorShelf
namespace Go.Proofs.YteheelcppgjeaaaDoor
open Go.RowKit
set_option linter.unusedVariables false
set_option linter.unusedSimpArgs false

theorem semi_take : ∀ (m : Bytes) (i : Nat), idxL [59] m = some i → m.take i = beforeSemi m
  | [], i, h => by rw [idxL_nil] at h; simp at h
  | b :: t, i, h => by
    cases e : [59].isPrefixOf (b :: t)
    · rw [idxL_next _ _ _ e] at h
      cases e2 : idxL [59] t with
      | none => rw [e2] at h; cases h
      | some k =>
        rw [e2] at h
        simp at h
        subst h
        rw [one_prefix] at e
        have hb : (b != 59) = true := by
          rw [bne_iff_ne]; intro e3; subst e3; simp at e
        unfold beforeSemi
        rw [List.take_succ_cons, List.takeWhile_cons, hb, if_pos rfl]
        exact congrArg (b :: ·) (semi_take t k e2)
    · rw [idxL_here _ _ e] at h
      obtain rfl := Option.some.inj h
      rw [one_prefix] at e
      have hb : (b != 59) = false := by
        have : (59 : UInt8) = b := by simpa using e
        subst this; rfl
      unfold beforeSemi
      rw [List.takeWhile_cons, hb, List.take_zero, if_neg (by decide)]
theorem semi_all : ∀ (m : Bytes), idxL [59] m = none → beforeSemi m = m
  | [], _ => rfl
  | b :: t, h => by
    cases e : [59].isPrefixOf (b :: t)
    · rw [idxL_next _ _ _ e] at h
      have e2 : idxL [59] t = none := by cases e3 : idxL [59] t with | none => rfl | some k => rw [e3] at h; cases h
      rw [one_prefix] at e
      have hb : (b != 59) = true := by
        rw [bne_iff_ne]; intro e3; subst e3; simp at e
      unfold beforeSemi
      rw [List.takeWhile_cons, hb, if_pos rfl]
      exact congrArg (b :: ·) (semi_all t e2)
    · rw [idxL_here _ _ e] at h; cases h
theorem cutSemi_any (m : ByteArray) (w : World) (hs : (m.size : Int) ≤ 17179869184) :
    Calls Tryd.prog 94 #[.string m, .string ⟨#[59]⟩] w fun e w' => (∃ (v1 v2 : ByteArray) (b : Bool), e = .returned (.tuple #[.string v1, .string v2, .bool b]) ∧ v1.data.toList = beforeSemi m.data.toList) ∧ Below w.heap.size w w' := by
  refine (zzCut_any m ⟨#[59]⟩ w hs (by decide) (by decide)).mono ?_
  rintro e w' ⟨⟨v1, v2, rfl, h⟩, hb⟩
  refine ⟨⟨v1, v2, _, rfl, ?_⟩, hb⟩
  rw [show (⟨#[59]⟩ : ByteArray).data.toList = [59] from rfl] at h
  cases ho : idxL [59] m.data.toList with
  | none => rw [ho] at h; rw [h.1, semi_all _ ho]
  | some i => rw [ho] at h; rw [h.1, semi_take _ _ ho]

/-- The three calls ahead of the switch. -/
structure JsPre (m v1 v2 v3 : ByteArray) : Prop where
  cut : ∀ w : World, Calls Tryd.prog 94 #[.string m, .string ⟨#[59]⟩] w fun e w' => (∃ (x : ByteArray) (b : Bool), e = .returned (.tuple #[.string v1, .string x, .bool b])) ∧ Below w.heap.size w w'
  low : ∀ w : World, Calls Tryd.prog 95 #[.string v1] w fun e w' => e = .returned (.string v2) ∧ Below w.heap.size w w'
  trim : ∀ w : World, Lib.TabIs Tryd.prog w "strings.asciiSpace" .u8 Lib.asciiSpaceTab → Calls Tryd.prog 96 #[.string v2] w fun e w' => e = .returned (.string v3) ∧ Below w.heap.size w w'
theorem jsPre (m : ByteArray) (hs : (m.size : Int) ≤ 17179869184) (ha : ∀ b ∈ m.data.toList, b.toNat < 128) :
    ∃ v1 v2, JsPre m v1 v2 ⟨(jsTypeOf m.data.toList).toArray⟩ := by
  have hl : m.data.toList.length = m.size := by simp
  have hsub : ∀ b ∈ beforeSemi m.data.toList, b.toNat < 128 := fun b hb => ha b ((List.takeWhile_prefix _).subset hb)
  have hle : (beforeSemi m.data.toList).length ≤ m.size := by rw [← hl]; exact (List.takeWhile_prefix _).length_le
  have hlow : ∀ b ∈ Lib.toLowerA (beforeSemi m.data.toList), b.toNat < 128 := by
    intro b hb
    obtain ⟨x, hx, rfl⟩ := List.mem_map.1 hb
    have h1 := hsub x hx
    have h2 : ∀ n, n < 128 → (Lib.lowerB (UInt8.ofNat n)).toNat < 128 := by decide +kernel
    have h3 := h2 x.toNat h1
    rwa [show UInt8.ofNat x.toNat = x by simp] at h3
  have z1 : (⟨(beforeSemi m.data.toList).toArray⟩ : ByteArray).size = (beforeSemi m.data.toList).length := List.size_toArray
  have z2 : (⟨(Lib.toLowerA (beforeSemi m.data.toList)).toArray⟩ : ByteArray).size = (beforeSemi m.data.toList).length := by
    rw [show (⟨(Lib.toLowerA (beforeSemi m.data.toList)).toArray⟩ : ByteArray).size = (Lib.toLowerA (beforeSemi m.data.toList)).length from List.size_toArray]
    simp [Lib.toLowerA]
  refine ⟨⟨(beforeSemi m.data.toList).toArray⟩, ⟨(Lib.toLowerA (beforeSemi m.data.toList)).toArray⟩, ?_, ?_, ?_⟩
  · intro w
    refine (cutSemi_any m w hs).mono ?_
    rintro e w' ⟨⟨v1, v2, b, rfl, hv⟩, hb⟩
    obtain rfl : v1 = ⟨(beforeSemi m.data.toList).toArray⟩ := ba_ext (by rw [hv])
    exact ⟨⟨v2, b, rfl⟩, hb⟩
  · intro w
    have := Tryd.strings_ToLower_ascii ⟨(beforeSemi m.data.toList).toArray⟩ w (by rw [z1]; omega) (fun j b hj => hsub b (List.mem_of_getElem? hj))
    exact this
  · intro w hT
    have := Tryd.strings_TrimSpace ⟨(Lib.toLowerA (beforeSemi m.data.toList)).toArray⟩ w (by rw [z2]; omega) (fun j b hj => hlow b (List.mem_of_getElem? hj)) hT
    refine this.mono ?_
    rintro e w' ⟨rfl, rfl⟩
    exact ⟨rfl, rfl, rfl, rfl, by rw [Lib.bytesWorld_size]; omega, fun k hk => Lib.bytesWorld_at_old _ _ _ _ hk⟩
/-- The table of white space lies as it is laid. -/
def Spaces (w : World) : Prop := Lib.TabIs Tryd.prog w "strings.asciiSpace" .u8 Lib.asciiSpaceTab
theorem Spaces.keep {w w' : World} (h : Spaces w) (hb : Below w.heap.size w w') : Spaces w' := by
  have hg : Tryd.prog.globalNamed "strings.asciiSpace" = some 1 := by kernel_rfl
  unfold Spaces Lib.TabIs World.var? at h ⊢
  rw [hg, Option.bind_some] at h ⊢
  have hlt : 1 < w.heap.size := by
    apply Classical.byContradiction
    intro hn
    rw [Array.getElem?_eq_none (by omega)] at h
    cases h
  rw [hb.block _ hlt]
  exact h

set_option maxRecDepth 100000 in
set_option maxHeartbeats 8000000 in
theorem isJSType_yes (m : ByteArray) (w : World) (hs : (m.size : Int) ≤ 17179869184) (ha : ∀ b ∈ m.data.toList, b.toNat < 128) (hT : Spaces w) (hy : jsTypeOf m.data.toList ∈ mimes) :
    Calls Tryd.prog 75 #[.string m] w fun e w' => e = .returned (.bool true) ∧ Below w.heap.size w w' := by
  obtain ⟨v1, v2, hP⟩ := jsPre m hs ha
  have HP := Lib.hid hP
  clear hP hs ha
  obtain ⟨x, hx⟩ : ∃ x, x = jsTypeOf m.data.toList := ⟨_, rfl⟩
  rw [← hx] at HP hy
  clear hx
  unfold mimes at hy
  simp only [List.mem_cons, List.not_mem_nil, or_false] at hy
  rcases hy with rfl | rfl | rfl | rfl | rfl | rfl | rfl | rfl | rfl | rfl | rfl | rfl | rfl | rfl | rfl | rfl
  all_goals
    go_enter Tryd.func75, Tryd.ntmps75
    go_wp2_with (first
      | (go_at_call 94; refine (HP.out.cut _).mono ?_; rintro e w1 ⟨⟨y, b, rfl⟩, hb1⟩; have hT1 := hT.keep hb1)
      | (go_at_call 95; refine (HP.out.low _).mono ?_; rintro e w2 ⟨rfl, hb2⟩; have hT2 := hT1.keep hb2)
      | (go_at_call 96; refine (HP.out.trim _ hT2).mono ?_; rintro e w3 ⟨rfl, hb3⟩))
    go_ret
    exact ⟨rfl, (hb1.trans (hb2.mono hb1.size)).trans (hb3.mono (Nat.le_trans hb1.size hb2.size))⟩

def textsL : List Bytes := [[116, 101, 120, 116, 47, 116, 101, 109, 112, 108, 97, 116, 101], [116, 101, 120, 116, 47, 104, 116, 109, 108], [116, 101, 120, 116, 47, 112, 108, 97, 105, 110]]
set_option maxRecDepth 100000 in
set_option maxHeartbeats 8000000 in
theorem isJSType_no (m : ByteArray) (w : World) (hs : (m.size : Int) ≤ 17179869184) (ha : ∀ b ∈ m.data.toList, b.toNat < 128) (hT : Spaces w) (hy : jsTypeOf m.data.toList ∈ textsL) :
    Calls Tryd.prog 75 #[.string m] w fun e w' => e = .returned (.bool false) ∧ Below w.heap.size w w' := by
  obtain ⟨v1, v2, hP⟩ := jsPre m hs ha
  have HP := Lib.hid hP
  clear hP hs ha
  obtain ⟨x, hx⟩ : ∃ x, x = jsTypeOf m.data.toList := ⟨_, rfl⟩
  rw [← hx] at HP hy
  clear hx
  unfold textsL at hy
  simp only [List.mem_cons, List.not_mem_nil, or_false] at hy
  rcases hy with rfl | rfl | rfl
  all_goals
    go_enter Tryd.func75, Tryd.ntmps75
    go_wp2_with (first
      | (go_at_call 94; refine (HP.out.cut _).mono ?_; rintro e w1 ⟨⟨y, b, rfl⟩, hb1⟩; have hT1 := hT.keep hb1)
      | (go_at_call 95; refine (HP.out.low _).mono ?_; rintro e w2 ⟨rfl, hb2⟩; have hT2 := hT1.keep hb2)
      | (go_at_call 96; refine (HP.out.trim _ hT2).mono ?_; rintro e w3 ⟨rfl, hb3⟩))
    go_ret
    exact ⟨rfl, (hb1.trans (hb2.mono hb1.size)).trans (hb3.mono (Nat.le_trans hb1.size hb2.size))⟩
set_option maxRecDepth 100000 in
theorem zzJSType_yes (m : ByteArray) (w : World) (hs : (m.size : Int) ≤ 17179869184) (ha : ∀ b ∈ m.data.toList, b.toNat < 128) (hT : Spaces w) (hy : jsTypeOf m.data.toList ∈ mimes) :
    Calls Tryd.prog 55 #[.string m] w fun e w' => e = .returned (.bool true) ∧ Below w.heap.size w w' := by
  have HC := Lib.hid (fun w hT => isJSType_yes m w hs ha hT hy)
  clear hs ha hy
  go_enter Tryd.func55, Tryd.ntmps55
  go_wp2_with (go_at_call 75; refine (HC.out _ hT).mono ?_; rintro e w1 ⟨rfl, hb1⟩)
  go_ret
  exact ⟨rfl, hb1⟩
set_option maxRecDepth 100000 in
theorem zzJSType_no (m : ByteArray) (w : World) (hs : (m.size : Int) ≤ 17179869184) (ha : ∀ b ∈ m.data.toList, b.toNat < 128) (hT : Spaces w) (hy : jsTypeOf m.data.toList ∈ textsL) :
    Calls Tryd.prog 55 #[.string m] w fun e w' => e = .returned (.bool false) ∧ Below w.heap.size w w' := by
  have HC := Lib.hid (fun w hT => isJSType_no m w hs ha hT hy)
  clear hs ha hy
  go_enter Tryd.func55, Tryd.ntmps55
  go_wp2_with (go_at_call 75; refine (HC.out _ hT).mono ?_; rintro e w1 ⟨rfl, hb1⟩)
  go_ret
  exact ⟨rfl, hb1⟩
set_option maxRecDepth 100000 in
theorem implJSType_yes (m : ByteArray) (w : World) (hs : (m.size : Int) ≤ 17179869184) (ha : ∀ b ∈ m.data.toList, b.toNat < 128) (hT : Spaces w) (hy : jsTypeOf m.data.toList ∈ mimes) :
    Calls Tryd.prog 35 #[.string m] w fun e w' => e = .returned (.bool true) ∧ Below w.heap.size w w' := by
  have HC := Lib.hid (fun w hT => zzJSType_yes m w hs ha hT hy)
  clear hs ha hy
  go_enter Tryd.func35, Tryd.ntmps35
  go_wp2_with (go_at_call 55; refine (HC.out _ hT).mono ?_; rintro e w1 ⟨rfl, hb1⟩)
  go_ret
  exact ⟨rfl, hb1⟩
set_option maxRecDepth 100000 in
theorem implJSType_no (m : ByteArray) (w : World) (hs : (m.size : Int) ≤ 17179869184) (ha : ∀ b ∈ m.data.toList, b.toNat < 128) (hT : Spaces w) (hy : jsTypeOf m.data.toList ∈ textsL) :
    Calls Tryd.prog 35 #[.string m] w fun e w' => e = .returned (.bool false) ∧ Below w.heap.size w w' := by
  have HC := Lib.hid (fun w hT => zzJSType_no m w hs ha hT hy)
  clear hs ha hy
  go_enter Tryd.func35, Tryd.ntmps35
  go_wp2_with (go_at_call 55; refine (HC.out _ hT).mono ?_; rintro e w1 ⟨rfl, hb1⟩)
  go_ret
  exact ⟨rfl, hb1⟩

set_option maxRecDepth 100000 in
set_option maxHeartbeats 4000000 in
theorem javaScript_any (s : ByteArray) (w : World) (hs : (s.size : Int) ≤ 17179869184) :
    Calls Tryd.prog 34 #[.string s] w fun e w' => e = .returned (.bool (isMime s.data.toList)) ∧ Below w.heap.size w w' := by
  have HL := Lib.hid (fun w => lower_any s w hs)
  have HI : Hid (∀ (v : ByteArray) (w W : World), v.data.toList = lowerL s.data.toList → W = w.alloc (.cells (mimes.map (fun l => Value.string ⟨l.toArray⟩)).toArray 9) → Calls Tryd.prog 52 #[.string v, .slice (some ⟨w.heap.size, 0, none⟩) 16 16] W fun e w' => e = .returned (.bool (isMime s.data.toList)) ∧ W = w') :=
    Lib.hid fun v w W hv hW => by
      have := is_any v mimes w.heap.size 16 16 rfl (by decide) W (hW ▸ strs_new w mimes 9)
      rw [hv] at this; exact this
  clear hs
  go_enter Tryd.func34, Tryd.ntmps34
  go_wp2_with (first
    | (go_at_call 54; refine (HL.out _).mono ?_; rintro e w1 ⟨⟨v, rfl, hv⟩, hb1⟩; have HV := Lib.hid hv; clear hv)
    | (go_at_call 52; refine (HI.out _ _ _ HV.out rfl).mono ?_; rintro e w' ⟨rfl, rfl⟩))
  go_ret
  exact ⟨rfl, hb1.alloc hb1.size _⟩

theorem mime_types (s : Bytes) (h : isMime s = true) : jsTypeOf s ∈ mimes ∧ jsTypeOf (s ++ charset) ∈ mimes ∧ jsTypeOf (32 :: s) ∈ mimes := by
  have hb := mime_bytes s h
  have hm := mime_of s h
  obtain ⟨_, h2, h3, h4⟩ := mimes_ok _ hm
  have e1 : Lib.toLowerA s = lowerL s := rfl
  refine ⟨?_, ?_, ?_⟩
  · unfold jsTypeOf
    rw [(semi_none s [] hb).2, e1, h2]; exact hm
  · unfold jsTypeOf
    rw [show charset = 59 :: charset.tail from rfl, (semi_none s _ hb).1, e1, h2]; exact hm
  · have : beforeSemi (32 :: s) = 32 :: s := (semi_none (32 :: s) [] (fun b hb' => by
        rcases List.mem_cons.1 hb' with rfl | hb'
        · decide
        · exact hb b hb')).2
    unfold jsTypeOf
    rw [this]
    show Lib.trimSpace (Lib.lowerB 32 :: lowerL s) ∈ mimes
    have e2 : Lib.lowerB 32 = 32 := by decide
    rw [e2, h3]; exact hm
theorem texts_types : jsTypeOf [116, 101, 120, 116, 47, 116, 101, 109, 112, 108, 97, 116, 101] ∈ textsL ∧ jsTypeOf [116, 101, 120, 116, 47, 104, 116, 109, 108] ∈ textsL ∧ jsTypeOf [116, 101, 120, 116, 47, 112, 108, 97, 105, 110] ∈ textsL := by decide +kernel
end Go.Proofs.YteheelcppgjeaaaDoor
