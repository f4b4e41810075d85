/- strings.EqualFold of any text and small letters. -/
import Derived.Test.YtolamblmfejhoaaDoorSim
import Derived.Test.YtolamblmfejhoaaDoorLawF2
import Derived.Test.YtolamblmfejhoaaDoorMem
import Derived.ScopeJumps
import Derived.WalkMore
import Derived.Laws.RangeAny
import Derived.Lib.DecodeN
import Derived.Laws.Strings3
import Derived.Lib.Walk
import Derived.Lib.Strings
namespace Go.Proofs.YtolamblmfejhoaaDoor
open Go.RowKit
set_option linter.unusedVariables false
set_option linter.unusedSimpArgs false

theorem scope_once {P : Program} {a : Act} {w : World} {Q : Exit → Act → World → Prop} {c rest : Code} (l : Nat) (hf : findLabel c l = some rest)
    (first : c.wp P (Exit.jump l (fun a w => rest.wp P (Exit.noGoto Q) a w) Q) a w) : (Code.scope c).wp P Q a w :=
  wp_scope_jumps l (fun a w => rest.wp P (Exit.noGoto Q) a w) (fun _ _ => 0) hf first fun a w h => Code.wp_mono (fun e a w he => by cases e <;> first | exact he | exact he.elim) h

set_option maxRecDepth 100000 in
theorem dec_head (t : ByteArray) (w : World) (h : 0 < t.size) (ha : t[0].toNat < 128) : Calls Tryd.prog 61 #[.string t] w fun e w' => e = .returned (.tuple #[.int .i32 t[0].toNat, .int .i64 1]) ∧ w = w' := by
  obtain ⟨e1, e2, -⟩ := list_ne t t[0] (t.data.toList.drop 1) (by have := drop_cons t 0 h; rwa [List.drop_zero] at this)
  obtain ⟨x, hx⟩ : ∃ x, t[0].toNat = x := ⟨_, rfl⟩
  rw [hx] at ha
  have hz : (x : Int) < 128 := by omega
  have hp : (0 : Int) < t.size := by omega
  go_enter Tryd.func61, Tryd.ntmps61
  go_wp2
  go_ret2
  exact ⟨by rw [hx]; rfl, rfl⟩

theorem fold_ascii_c (c : Nat) (h : 97 ≤ c ∧ c ≤ 122 ∧ c ≠ 107 ∧ c ≠ 115) (w : World) (hF : FoldTab w) : Calls Tryd.prog 62 #[.int .i32 c] w fun e w' => e = .returned (.int .i32 ((c - 32 : Nat) : Int)) ∧ w = w' := by
  have := fold_ascii_any c (by omega) w hF
  have e : asciiN c = c - 32 := by
    unfold asciiN
    rw [if_neg (by omega), if_neg (by omega), if_neg (by omega), if_pos (by omega)]
  rwa [e] at this
theorem fold_ascii_u (c : Nat) (h : 97 ≤ c ∧ c ≤ 122 ∧ c ≠ 107 ∧ c ≠ 115) (w : World) (hF : FoldTab w) : Calls Tryd.prog 62 #[.int .i32 ((c - 32 : Nat) : Int)] w fun e w' => e = .returned (.int .i32 c) ∧ w = w' := by
  have := fold_ascii_any (c - 32) (by omega) w hF
  have e : asciiN (c - 32) = c := by
    unfold asciiN
    rw [if_pos (by omega)]; omega
  rwa [e] at this
theorem fold_115 (w : World) (hF : FoldTab w) : Calls Tryd.prog 62 #[.int .i32 115] w fun e w' => e = .returned (.int .i32 383) ∧ w = w' := fold_ascii_any 115 (by omega) w hF
theorem fold_83 (w : World) (hF : FoldTab w) : Calls Tryd.prog 62 #[.int .i32 83] w fun e w' => e = .returned (.int .i32 115) ∧ w = w' := fold_ascii_any 83 (by omega) w hF

/-- Small letters that fold as ASCII says, or s. -/
def Small (t : Bytes) : Prop := ∀ b ∈ t, 97 ≤ b.toNat ∧ b.toNat ≤ 122 ∧ b.toNat ≠ 107
theorem foldR_iff (r c : Nat) : foldR r c = true ↔ r = c ∨ (65 ≤ r ∧ r ≤ 90 ∧ r + 32 = c) ∨ (r = 383 ∧ c = 115) := by
  unfold foldR
  simp only [Bool.or_eq_true, Bool.and_eq_true, beq_iff_eq, decide_eq_true_eq]
  omega
theorem foldL_cons (x y : UInt8) (s t : Bytes) (hx : x.toNat < 128) : foldL (x :: s) (y :: t) = (foldR x.toNat y.toNat && foldL s t) := by
  rw [foldL, dec_1 x s hx]
  simp
theorem foldL_yes (x y : UInt8) (s t : Bytes) (hx : x.toNat < 128) (h : foldR x.toNat y.toNat = true) : foldL (x :: s) (y :: t) = foldL s t := by rw [foldL_cons x y s t hx, h]; rfl
theorem foldL_no (x y : UInt8) (s t : Bytes) (hx : x.toNat < 128) (h : ¬ foldR x.toNat y.toNat = true) : foldL (x :: s) (y :: t) = false := by rw [foldL_cons x y s t hx, Bool.eq_false_iff.2 h]; rfl

theorem foldL_end (p t : ByteArray) (i : Nat) (h1 : i ≤ p.size) (h2 : i ≤ t.size) (h3 : i = p.size ∨ i = t.size) : foldL (p.data.toList.drop i) (t.data.toList.drop i) = decide (p.size = t.size) := by
  have e1 : p.data.toList.length = p.size := by simp
  have e2 : t.data.toList.length = t.size := by simp
  by_cases ht : i = t.size
  · rw [List.drop_eq_nil_of_le (by omega : t.data.toList.length ≤ i)]
    unfold foldL
    by_cases hp : i = p.size
    · rw [List.drop_eq_nil_of_le (by omega : p.data.toList.length ≤ i), ← hp, ht]; simp
    · rw [drop_cons p i (by omega)]
      have : ¬ p.size = t.size := by omega
      simp [this]
  · obtain rfl : i = p.size := by omega
    rw [List.drop_eq_nil_of_le (by omega : p.data.toList.length ≤ p.size), drop_cons t _ (by omega)]
    have : ¬ p.size = t.size := by omega
    simp [foldL, this]

theorem foldL_at (P : ByteArray) (pos r d : Nat) (c : UInt8) (t : Bytes) (hpos : pos < P.size) (hdec : Utf8.decode P pos = (r, d)) : foldL (P.data.toList.drop pos) (c :: t) = (foldR r c.toNat && foldL (P.data.toList.drop (pos + d)) t) := by
  rw [decode_at0 P pos (by omega)] at hdec
  rw [foldL, hdec, List.drop_drop, drop_cons P pos hpos]
  rfl
theorem foldL_none (P : ByteArray) (pos : Nat) (hpos : pos < P.size) : foldL (P.data.toList.drop pos) [] = false := by
  unfold foldL
  rw [drop_cons P pos hpos]; rfl
theorem decode_pos (P : ByteArray) (pos r d : Nat) (hpos : pos < P.size) (hdec : Utf8.decode P pos = (r, d)) : 1 ≤ d ∧ pos + d ≤ P.size ∧ r < 1114112 := by
  rw [decode_at0 P pos (by omega)] at hdec
  have h1 := decL_pos (P.data.toList.drop pos)
  have h2 := decL_lt (P.data.toList.drop pos)
  have h3 := decL_le (P.data.toList.drop pos) (by rw [drop_cons P pos hpos]; simp)
  rw [hdec] at h1 h2 h3
  have e : P.data.toList.length = P.size := by simp
  rw [List.length_drop, e] at h3
  exact ⟨h1, by omega, h2⟩

set_option maxRecDepth 1000000 in
set_option maxHeartbeats 1000000 in
theorem eqFold_any (p t : ByteArray) (hp : (p.size : Int) ≤ 17179869184) (ht : t.size ≤ 100) (hl : Small t.data.toList) (w : World) (hF : FoldTab w) :
    Calls Tryd.prog 46 #[.string p, .string t] w fun e w' => e = .returned (.bool (foldL p.data.toList t.data.toList)) ∧ Below w.heap.size w w' := by
  obtain ⟨M, hM⟩ : ∃ M : Nat, min (p.size : Int) (t.size : Int) = (M : Int) := ⟨min p.size t.size, by omega⟩
  have hMs : M ≤ p.size := by omega
  have hMt : M ≤ t.size := by omega
  have hMe : M = p.size ∨ M = t.size := by omega
  have HL := Lib.hid hl
  have HF := Lib.hid hF
  clear hl hF
  go_enter Tryd.func46, Tryd.ntmps46
  go_wp2
  refine scope_once 0 rfl ?_
  go_wp2
  go_loopg [5] M (fun g s5 wx => w = wx ∧ ∃ i : Nat, i + g = M ∧ s5 = .int .i64 i ∧ foldL (p.data.toList.drop i) (t.data.toList.drop i) = foldL p.data.toList t.data.toList)
  case atStart => exact ⟨rfl, 0, by omega, rfl, rfl⟩
  case round =>
    obtain ⟨rfl, i, hig, rfl, hinv⟩ := hrel
    have HI := Lib.hid hinv
    clear hinv hM
    cases gk with
    | zero =>
      have hiM : ¬ ((i : Int) < (M : Int)) := by omega
      obtain rfl : i = M := by omega
      have hE : foldL p.data.toList t.data.toList = decide (p.size = t.size) := by
        rw [← HI.out]
        exact foldL_end p t i hMs hMt hMe
      by_cases hst : p.size = t.size
      · have hb : ((p.size : Int) == (t.size : Int)) = true := beq_iff_eq.2 (by omega)
        go_wp2
        simp only [Exit.jump]
        go_ret
        exact ⟨by rw [hE]; simp [hst], Below.refl _ _⟩
      · have hb : ((p.size : Int) == (t.size : Int)) = false := beq_eq_false_iff_ne.2 (by omega)
        go_wp2
        simp only [Exit.jump]
        go_ret
        exact ⟨by rw [hE]; simp [hst], Below.refl _ _⟩
    | succ g =>
      have hiM : (i : Int) < (M : Int) := by omega
      have hisz : (i : Int) < (p.size : Int) := by omega
      have hitz : (i : Int) < (t.size : Int) := by omega
      obtain ⟨x, hx⟩ : ∃ x : UInt8, p[i]'(by omega) = x := ⟨_, rfl⟩
      obtain ⟨y, hy⟩ : ∃ y : UInt8, t[i]'(by omega) = y := ⟨_, rfl⟩
      have hxl : p.data.toList.drop i = x :: p.data.toList.drop (i + 1) := by rw [← hx]; exact drop_cons p i (by omega)
      have hyl : t.data.toList.drop i = y :: t.data.toList.drop (i + 1) := by rw [← hy]; exact drop_cons t i (by omega)
      have hy2 : 97 ≤ y.toNat ∧ y.toNat ≤ 122 ∧ y.toNat ≠ 107 := HL.out y (by rw [← List.take_append_drop i t.data.toList, hyl]; simp)
      have hyt : y.toNat ≤ 255 := by omega
      have hxt := x.toNat_lt
      have hor : bits .or .u8 (x.toNat : Int) (y.toNat : Int) = ((x.toNat ||| y.toNat : Nat) : Int) := u8_or_nat _ _ (by omega) (by omega)
      obtain ⟨xn, hxn⟩ : ∃ n, x.toNat = n := ⟨_, rfl⟩
      obtain ⟨yn, hyn⟩ : ∃ n, y.toNat = n := ⟨_, rfl⟩
      have Hx := Lib.hid (And.intro hxl hyl)
      have Hn := Lib.hid (And.intro hxn hyn)
      by_cases hx128 : x.toNat < 128
      · have hor128 : ¬ ((128 : Int) ≤ ((x.toNat ||| y.toNat : Nat) : Int)) := by have := Nat.or_lt_two_pow (n := 7) hx128 (by omega : y.toNat < 2 ^ 7); omega
        rw [hxn, hyn] at hor hor128
        rw [hxn] at hx128 hxt
        rw [hyn] at hy2 hyt
        clear hxl hyl
        go_wp2
        all_goals (try simp only [beq_iff_eq, beq_eq_false_iff_ne, ne_eq] at *)
        all_goals first
          | (go_roundg g
             case measure => omega
             case rel => exact ⟨rfl, i + 1, by omega, by first | rfl | simp, by rw [← HI.out, Hx.out.1, Hx.out.2, foldL_yes _ _ _ _ (by rw [Hn.out.1]; omega) (by rw [Hn.out.1, Hn.out.2, foldR_iff]; omega)]⟩)
          | (simp only [Exit.jump]
             go_ret
             refine ⟨?_, Below.refl _ _⟩
             rw [← HI.out, Hx.out.1, Hx.out.2, foldL_no _ _ _ _ (by rw [Hn.out.1]; omega) (by rw [Hn.out.1, Hn.out.2, foldR_iff]; omega)]
             rfl)
      · have hor128 : (128 : Int) ≤ ((x.toNat ||| y.toNat : Nat) : Int) := by have : x.toNat ≤ x.toNat ||| y.toNat := Nat.left_le_or; omega
        rw [hxn, hyn] at hor hor128
        rw [hxn] at hx128 hxt
        rw [hyn] at hy2 hyt
        clear hxl hyl
        go_wp2
        go_step3
        refine (And.intro rfl ?_ : (0 = 0) ∧ _)
        clear hx128 hor hor128 hy2 hyt hxt hiM hMe
        go_wp2
        have HINV : Hid (foldL (p.extract i p.size).data.toList (t.extract i t.size).data.toList = foldL p.data.toList t.data.toList ∧ Small (t.extract i t.size).data.toList) := Lib.hid (by
          rw [extract_end, extract_end]
          exact ⟨HI.out, fun b hb => HL.out b (List.mem_of_mem_drop hb)⟩)
        have hPs : (p.extract i p.size).size ≤ 17179869184 := by simp; omega
        have hTs : (t.extract i t.size).size ≤ 100 := by simp; omega
        obtain ⟨P, hP⟩ : ∃ P, p.extract i p.size = P := ⟨_, rfl⟩
        obtain ⟨T, hT⟩ : ∃ T, t.extract i t.size = T := ⟨_, rfl⟩
        rw [hP] at HINV hPs ⊢
        rw [hT] at HINV hTs ⊢
        obtain ⟨ANS, hANS⟩ : ∃ A, foldL p.data.toList t.data.toList = A := ⟨_, rfl⟩
        rw [hANS] at HINV
        clear hP hT HI HL Hx Hn hx hy hisz hitz
        go_loopw [1] (fun s1 wx => ∃ (pos : Nat) (T : ByteArray), s1 = .string T ∧ wx = w.iter P pos ∧ Hid (pos ≤ P.size ∧ T.size ≤ 100 ∧ foldL (P.data.toList.drop pos) T.data.toList = ANS ∧ Small T.data.toList)) (fun s1 wx => P.size - wx.iterPos w.heap.size)
        case atStart => exact ⟨0, T, rfl, rfl, Lib.hid ⟨Nat.zero_le _, hTs, HINV.out.1, HINV.out.2⟩⟩
        case round =>
          obtain ⟨pos, T, rfl, rfl, hI⟩ := hrel
          by_cases hpos : pos < P.size
          · obtain ⟨r, d, hdec⟩ : ∃ r d, Utf8.decode P pos = (r, d) := ⟨_, _, rfl⟩
            have hnx : ∀ ty, (Instr.next (.pointer (some ⟨w.heap.size, 0, none⟩)) true ty).run Tryd.prog (w.iter P pos) = .ok (.tuple #[.bool true, .int .i64 pos, .int .i32 r]) (w.iter P (pos + d)) := fun ty => by
              have := run_next_any (P := Tryd.prog) w P pos ty hpos
              rwa [hdec] at this
            obtain ⟨d1, d2, d3⟩ := decode_pos P pos r d hpos hdec
            have hF1 : FoldTab (w.iter P (pos + d)) := HF.out.keep ((Below.refl _ w).alloc (Nat.le_refl _) _) (Nat.le_refl _)
            have HF1 := Lib.hid hF1
            clear hF1
            by_cases hT0 : T.size = 0
            · have hz : ((T.size : Int) == 0) = true := by rw [hT0]; rfl
              have hA : ANS = false := by
                rw [← hI.out.2.2.1]
                have : T.data.toList = [] := List.eq_nil_of_length_eq_zero (by simpa using hT0)
                rw [this, foldL_none P pos hpos]
              clear hI
              go_wp2
              simp only [Exit.noGoto]
              go_ret
              rw [hANS, hA]
              exact ⟨rfl, (Below.refl _ w).alloc (Nat.le_refl _) _⟩
            · have hz : ((T.size : Int) == 0) = false := beq_eq_false_iff_ne.2 (by omega)
              have hT1 : 0 < T.size := by omega
              have hT1' : (1 : Int) ≤ T.size := by omega
              obtain ⟨i1, i2, i3, i4⟩ := hI.out
              have hTl := drop_cons T 0 hT1
              rw [List.drop_zero] at hTl
              rw [hTl, foldL_at P pos r d _ _ hpos hdec] at i3
              have hc := i4 T[0] (by rw [hTl]; simp)
              have HD := Lib.hid (dec_head T (w.iter P (pos + d)) hT1 (by omega))
              obtain ⟨c, hcc⟩ : ∃ c, T[0].toNat = c := ⟨_, rfl⟩
              rw [hcc] at HD i3 hc
              have HN : Hid (foldR r c = true → pos + d ≤ P.size ∧ (T.extract 1 T.size).size ≤ 100 ∧ foldL (P.data.toList.drop (pos + d)) (T.extract 1 T.size).data.toList = ANS ∧ Small (T.extract 1 T.size).data.toList) := Lib.hid fun h => by
                rw [h] at i3
                refine ⟨d2, by simp; omega, ?_, fun b hb => i4 b ?_⟩
                · rw [extract_end]; exact i3
                · rw [extract_end] at hb; exact List.mem_of_mem_drop hb
              have HX : Hid (foldR r c = false → ANS = false) := Lib.hid fun h => by rw [h] at i3; exact i3.symm
              have HM : Hid (P.size - (w.iter P (pos + d)).iterPos w.heap.size < P.size - (w.iter P pos).iterPos w.heap.size) := Lib.hid (by rw [World.iterPos_iter, World.iterPos_iter]; omega)
              clear i1 i2 i3 i4 hTl hI hdec hcc hpos d1 d2
              by_cases h128 : r < 128
              · have hr1 : (r : Int) < 128 := by omega
                have hc1 : (c : Int) < 128 := by omega
                go_wp2_with (go_at_call 61; refine HD.out.mono ?_; rintro e w1 ⟨rfl, rfl⟩)
                all_goals (try simp only [beq_iff_eq, beq_eq_false_iff_ne, ne_eq] at *)
                all_goals first
                  | (go_roundw
                     case rel => exact ⟨pos + d, _, rfl, rfl, Lib.hid (HN.out (by rw [foldR_iff]; omega))⟩
                     case measure => exact HM.out)
                  | ((try simp only [Exit.noGoto])
                     go_ret
                     rw [hANS, HX.out (by rw [Bool.eq_false_iff, Ne, foldR_iff]; omega)]
                     exact ⟨rfl, (Below.refl _ w).alloc (Nat.le_refl _) _⟩)
              · have hr1 : ¬ ((r : Int) < 128) := by omega
                have hcr : (c : Int) < (r : Int) := by omega
                have hne : ((c : Int) == (r : Int)) = false := beq_eq_false_iff_ne.2 (by omega)
                by_cases h115 : c = 115
                · subst h115
                  have HC1 := Lib.hid (fold_115 _ HF1.out)
                  have HC2 := Lib.hid (fold_383 _ HF1.out)
                  have HC3 := Lib.hid (fold_83 _ HF1.out)
                  clear HF1
                  rcases (by omega : r = 383 ∨ r < 383 ∨ 383 < r) with rfl | hr3 | hr3
                  · clear HC2 HC3
                    go_wp2_with (first | (go_at_call 61; refine HD.out.mono ?_; rintro e w1 ⟨rfl, rfl⟩) | (go_at_call 62; refine HC1.out.mono ?_; rintro e w1 ⟨rfl, rfl⟩))
                    go_loopg [13] 0 (fun g s13 wx => wx = w.iter P (pos + d) ∧ s13 = .int .i32 383)
                    case atStart => exact ⟨rfl, rfl⟩
                    case round =>
                      obtain ⟨rfl, rfl⟩ := hrel
                      go_wp2
                      go_roundw
                      case rel => exact ⟨pos + d, _, rfl, rfl, Lib.hid (HN.out (by rw [foldR_iff]; omega))⟩
                      case measure => exact HM.out
                  · clear HC2 HC3
                    have hq : ¬ ((383 : Int) < (r : Int)) := by omega
                    have hq2 : ((383 : Int) == (r : Int)) = false := beq_eq_false_iff_ne.2 (by omega)
                    go_wp2_with (first | (go_at_call 61; refine HD.out.mono ?_; rintro e w1 ⟨rfl, rfl⟩) | (go_at_call 62; refine HC1.out.mono ?_; rintro e w1 ⟨rfl, rfl⟩))
                    go_loopg [13] 0 (fun g s13 wx => wx = w.iter P (pos + d) ∧ s13 = .int .i32 383)
                    case atStart => exact ⟨rfl, rfl⟩
                    case round =>
                      obtain ⟨rfl, rfl⟩ := hrel
                      go_wp2
                      (try simp only [Exit.noGoto])
                      go_ret
                      rw [hANS, HX.out (by rw [Bool.eq_false_iff, Ne, foldR_iff]; omega)]
                      exact ⟨rfl, (Below.refl _ w).alloc (Nat.le_refl _) _⟩
                  · have hq : (383 : Int) < (r : Int) := by omega
                    have hq1 : (83 : Int) < (r : Int) := by omega
                    have hq2 : ((115 : Int) == (r : Int)) = false := beq_eq_false_iff_ne.2 (by omega)
                    go_wp2_with (first | (go_at_call 61; refine HD.out.mono ?_; rintro e w1 ⟨rfl, rfl⟩) | (go_at_call 62; refine HC1.out.mono ?_; rintro e w1 ⟨rfl, rfl⟩))
                    go_loopg [13] 2 (fun g s13 wx => wx = w.iter P (pos + d) ∧ ((g = 2 ∧ s13 = .int .i32 383) ∨ (g = 1 ∧ s13 = .int .i32 83) ∨ (g = 0 ∧ s13 = .int .i32 115)))
                    case atStart => exact ⟨rfl, .inl ⟨rfl, rfl⟩⟩
                    case round =>
                      obtain ⟨rfl, ⟨rfl, rfl⟩ | ⟨rfl, rfl⟩ | ⟨rfl, rfl⟩⟩ := hrel
                      · go_wp2_with (go_at_call 62; refine HC2.out.mono ?_; rintro e w1 ⟨rfl, rfl⟩)
                        go_roundg 1
                        case measure => omega
                        case rel => exact ⟨rfl, .inr (.inl ⟨rfl, rfl⟩)⟩
                      · go_wp2_with (go_at_call 62; refine HC3.out.mono ?_; rintro e w1 ⟨rfl, rfl⟩)
                        go_roundg 0
                        case measure => omega
                        case rel => exact ⟨rfl, .inr (.inr ⟨rfl, rfl⟩)⟩
                      · go_wp2
                        (try simp only [Exit.noGoto])
                        go_ret
                        rw [hANS, HX.out (by rw [Bool.eq_false_iff, Ne, foldR_iff]; omega)]
                        exact ⟨rfl, (Below.refl _ w).alloc (Nat.le_refl _) _⟩
                · have HC1 := Lib.hid (fold_ascii_c c (by omega) _ HF1.out)
                  have HC2 := Lib.hid (fold_ascii_u c (by omega) _ HF1.out)
                  clear HF1
                  obtain ⟨u, hu⟩ : ∃ u, c - 32 = u := ⟨_, rfl⟩
                  rw [hu] at HC1 HC2
                  have hu1 : ((u : Int) == (c : Int)) = false := beq_eq_false_iff_ne.2 (by omega)
                  have hu2 : (u : Int) < (r : Int) := by omega
                  have hu3 : ¬ ((u : Int) = (c : Int)) := by omega
                  have hu4 : ((u : Int) != (c : Int)) = true := by simpa using hu3
                  clear hu
                  go_wp2_with (first | (go_at_call 61; refine HD.out.mono ?_; rintro e w1 ⟨rfl, rfl⟩) | (go_at_call 62; refine HC1.out.mono ?_; rintro e w1 ⟨rfl, rfl⟩))
                  go_loopg [13] 1 (fun g s13 wx => wx = w.iter P (pos + d) ∧ ((g = 1 ∧ s13 = .int .i32 u) ∨ (g = 0 ∧ s13 = .int .i32 c)))
                  case atStart => exact ⟨rfl, .inl ⟨rfl, rfl⟩⟩
                  case round =>
                    obtain ⟨rfl, ⟨rfl, rfl⟩ | ⟨rfl, rfl⟩⟩ := hrel
                    · go_wp2_with (go_at_call 62; refine HC2.out.mono ?_; rintro e w1 ⟨rfl, rfl⟩)
                      go_roundg 0
                      case measure => omega
                      case rel => exact ⟨rfl, .inr ⟨rfl, rfl⟩⟩
                    · go_wp2
                      (try simp only [Exit.noGoto])
                      go_ret
                      rw [hANS, HX.out (by rw [Bool.eq_false_iff, Ne, foldR_iff]; omega)]
                      exact ⟨rfl, (Below.refl _ w).alloc (Nat.le_refl _) _⟩
          · have hnx : ∀ ty, (Instr.next (.pointer (some ⟨w.heap.size, 0, none⟩)) true ty).run Tryd.prog (w.iter P pos) = _ := fun ty => run_next_end w P pos ty hpos
            have hA : ANS = decide ((T.size : Int) = 0) := by
              rw [← hI.out.2.2.1]
              have e1 : P.data.toList.length = P.size := by simp
              rw [List.drop_eq_nil_of_le (by omega : P.data.toList.length ≤ pos)]
              by_cases hT0 : T.size = 0
              · have : T.data.toList = [] := List.eq_nil_of_length_eq_zero (by simpa using hT0)
                rw [this, hT0]; rfl
              · have h1 := drop_cons T 0 (by omega)
                rw [List.drop_zero] at h1
                rw [h1, decide_eq_false (by omega)]
                rfl
            clear hI
            by_cases hT0 : (T.size : Int) = 0
            · have hz : ((T.size : Int) == 0) = true := beq_iff_eq.2 hT0
              go_wp2
              simp only [Exit.noGoto]
              go_ret
              rw [hANS, hA, decide_eq_true hT0]
              exact ⟨rfl, (Below.refl _ w).alloc (Nat.le_refl _) _⟩
            · have hz : ((T.size : Int) == 0) = false := beq_eq_false_iff_ne.2 hT0
              go_wp2
              simp only [Exit.noGoto]
              go_ret
              rw [hANS, hA, decide_eq_false hT0]
              exact ⟨rfl, (Below.refl _ w).alloc (Nat.le_refl _) _⟩
end Go.Proofs.YtolamblmfejhoaaDoor
