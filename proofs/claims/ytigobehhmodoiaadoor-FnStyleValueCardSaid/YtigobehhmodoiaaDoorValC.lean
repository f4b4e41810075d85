/- CSS: cssValueFilter: what it answers to a text without a backslash. -/
import Derived.Test.YtigobehhmodoiaaDoorValB
import Derived.Test.YtigobehhmodoiaaDoorNmc
import Derived.Test.YtigobehhmodoiaaDoorDecD
import Derived.Deep.Cut
import Derived.RegionTactic
namespace Go.Proofs.YtigobehhmodoiaaDoor
open Go.RowKit
set_option linter.unusedVariables false
set_option linter.unusedSimpArgs false

def exprW : Bytes := [101, 120, 112, 114, 101, 115, 115, 105, 111, 110]
def mozW : Bytes := [109, 111, 122, 98, 105, 110, 100, 105, 110, 103]
def failW : ByteArray := ⟨#[90, 103, 111, 116, 109, 112, 108, 90]⟩
def badB (c : Nat) : Bool := [0, 34, 39, 40, 41, 47, 59, 64, 91, 92, 93, 96, 123, 125, 60, 62].contains c
def nmA (b : UInt8) : Bool := !decide (b.toNat = 45) && (decide (b.toNat < 128) && nmR b.toNat)
def allN (l : Bytes) : Prop := ∀ b ∈ l, isAlnumB b.toNat = true
def badLow (l : Bytes) : Bool := (idxL exprW (Lib.toLowerA l)).isSome || (idxL mozW (Lib.toLowerA l)).isSome
/-- The text, which then has none of the marks; or the failsafe, which a word gets only for the two bad words in it. -/
def RetV (s : ByteArray) (e : Ending) : Prop := (e = .returned (.string s) ∧ ∀ b ∈ s.data.toList, badB b.toNat = false) ∨ (e = .returned (.string failW) ∧ (allN s.data.toList → badLow s.data.toList = true))

theorem ConvAt.src {b : Nat} {S : ByteArray} {w : World} (h : ConvAt b S w) : SrcAt b S.data.toList w := by
  intro i hi
  have hi2 : i < S.size := by simpa using hi
  rw [h.cell i hi2, at0_get S i hi2]
theorem ConvAt.at_ {b : Nat} {W : World} (S : ByteArray) (h : b = W.heap.size) : ConvAt b S (Lib.bytesWorld W 5 S) := h ▸ ConvAt.new W S
theorem bad_not (c : Nat) (h : badB c = true) : isAlnumB c = false := by
  unfold badB at h
  simp only [List.contains_cons, List.contains_nil, Bool.or_eq_true, Bool.or_false, beq_iff_eq] at h
  rcases h with e | e | e | e | e | e | e | e | e | e | e | e | e | e | e | e <;> subst e <;> rfl
theorem next_nm (l acc : Bytes) (k : Nat) (x : UInt8) (n : Bool) (h1 : acc = (l.take k).filter nmA) (h2 : ∀ y ∈ l.take k, badB y.toNat = false) (hx : l[k]? = some x) (hb : badB x.toNat = false) (hn : nmA x = n) :
    (if n then acc ++ [x] else acc) = (l.take (k + 1)).filter nmA ∧ ∀ y ∈ l.take (k + 1), badB y.toNat = false := by
  have hk : k < l.length := (List.getElem?_eq_some_iff.1 hx).1
  have e : l.take (k + 1) = l.take k ++ [x] := by
    rw [List.take_add_one, hx]; rfl
  rw [e]
  constructor
  · rw [List.filter_append, ← h1]
    subst hn
    cases hx2 : nmA x <;> simp [hx2]
  · intro y hy
    rcases List.mem_append.1 hy with h | h
    · exact h2 y h
    · rw [List.mem_singleton.1 h]; exact hb
theorem nm_alnum (b : UInt8) (h : isAlnumB b.toNat = true) : nmA b = true := by
  unfold nmA nmR
  rw [h]
  unfold isAlnumB isAlphaB at h
  simp at h ⊢
  omega
theorem low_has (acc m : Bytes) (hm : m.length = 10) (hm0 : 0 < m.length) (ha : acc.length ≤ 2147483647) (g cap b2 c2 : Nat) (W : World) (h1 : Lib.Bytes W g 0 ⟨(Lib.toLowerA acc).toArray⟩) (h2 : Lib.Bytes W b2 0 ⟨m.toArray⟩) (h3 : acc.length ≤ cap) (h4 : cap ≤ maxLen) :
    Calls Tryd.prog 96 #[.slice (some ⟨g, 0, none⟩) acc.length cap, .slice (some ⟨b2, 0, none⟩) 10 c2] W fun e w' => e = .returned (.bool (idxL m (Lib.toLowerA acc)).isSome) ∧ ∃ n, w' = W.drewN n := by
  have e1 : (⟨(Lib.toLowerA acc).toArray⟩ : ByteArray).size = acc.length := by simp [ByteArray.size, Lib.toLowerA]
  have e2 : (⟨m.toArray⟩ : ByteArray).size = 10 := by simpa [ByteArray.size] using hm
  have h := bytesContains_any g 0 cap b2 0 c2 ⟨(Lib.toLowerA acc).toArray⟩ ⟨m.toArray⟩ W h1 h2 (by omega) (by omega) (by omega) (by omega) (by unfold maxLen at h4; omega)
  rw [e1, e2] at h
  exact h
theorem conv_lit (W : World) (g : Nat) (C : Array Value) (n : Nat) (hn : C.size = n) (hg : W.heap.size = g) :
    (convert 34 34 (.slice (some ⟨g, 0, none⟩) n n)).run Tryd.prog (W.alloc (.cells C 5)) = .ok (.slice (some ⟨g, 0, none⟩) n n) (W.alloc (.cells C 5 (n, n + 1))) := by
  subst hn hg
  exact Lib.run_convert_bytes_const W 34 5 C _ _ Tryd.underlying34 Tryd.underlying5
theorem lit_bytes (W : World) (g : Nat) (m : Bytes) (fz : Nat × Nat) {C : Array Value} (hg : W.heap.size = g) (hC : C = (m.map fun b => Value.int .u8 (b.toNat : Int)).toArray) : Lib.Bytes (W.alloc (.cells C 5 fz)) g 0 ⟨m.toArray⟩ := by
  subst hg hC
  intro j hj
  have hj' : j < m.length := by simpa [ByteArray.size] using hj
  rw [Nat.zero_add, World.cell?_alloc_mark]
  simp [hj']
  rfl
theorem _root_.Go.Lib.Bytes.old {w : World} {b o : Nat} {s : ByteArray} (h : Lib.Bytes w b o s) (hb : b < w.heap.size) (x : Obj) : Lib.Bytes (w.alloc x) b o s := fun j hj => by
  rw [← h j hj]
  exact World.cell?_of_block (heap_alloc_old w x hb)
theorem conv_after {b c : Nat} {s : ByteArray} {w1 : World} (h : ConvAt b s w1) (hc : s.size ≤ c) (o1 : Obj) (n1 : Nat) (o2 : Obj) (n2 : Nat) :
    (convert 34 9 (.slice (some ⟨b, 0, none⟩) s.size c)).run Tryd.prog ((((w1.alloc o1).drewN n1).alloc o2).drewN n2) = .ok (.string s) ((((w1.alloc o1).drewN n1).alloc o2).drewN n2) := by
  have h1 := ((((h.alloc o1).drewN n1).alloc o2).drewN n2).src.conv (c := c)
  rw [h1, show (⟨s.data.toList.toArray⟩ : ByteArray) = s from ba_ext (by simp)]
theorem below_end1 {w w1 : World} (h : Below w.heap.size w w1) (o1 : Obj) (n1 : Nat) : Below w.heap.size w ((w1.alloc o1).drewN n1) :=
  have h1 := h.alloc h.size o1
  h1.trans ((below_drew _ _).mono h1.size)
theorem below_end2 {w w1 : World} (h : Below w.heap.size w w1) (o1 : Obj) (n1 : Nat) (o2 : Obj) (n2 : Nat) : Below w.heap.size w ((((w1.alloc o1).drewN n1).alloc o2).drewN n2) :=
  below_end1 (below_end1 h o1 n1) o2 n2
theorem made_size : (madeCells #[Value.int .u8 0] 64).size = 64 := by simp [madeCells]
/-- What the first statement leaves: the text's bytes in a block of their own, and an empty row with room. -/
def Started (w : World) (s : ByteArray) (s5 s6 : Value) (wx : World) : Prop := ∃ b c, s5 = .slice (some ⟨b, 0, none⟩) s.size c ∧ Own w.heap.size s6 [] wx ∧ ConvAt b s wx ∧ Below w.heap.size w wx ∧ s.size ≤ c ∧ c ≤ maxLen
theorem relA (w W : World) (s : ByteArray) (hb : Below w.heap.size w W) (hs : (s.size : Int) ≤ 2147483647) (p : Nat) (hp : p = W.heap.size) (q : Nat) (hq : q = (Lib.bytesWorld W 5 s).heap.size) :
    Started w s (.slice (some ⟨p, 0, none⟩) s.size (grownCap W s.size 0 5)) (.slice (some ⟨q, 0, none⟩) 0 64) ((Lib.bytesWorld W 5 s).alloc (.cells (madeCells #[.int .u8 0] 64) 5)) := by
  subst hp hq
  have h1 : Below w.heap.size w (Lib.bytesWorld W 5 s) := hb.trans ((bytes_below W s).mono hb.size)
  refine ⟨_, _, rfl, Own.made _ _ 64 h1.size (by unfold maxLen; omega) made_size, (ConvAt.new W s).alloc _, h1.alloc h1.size _, grownCap_ge _ _ _ _, grownCap_le_maxLen _ _ _ _ (by unfold maxLen; omega)⟩
theorem relB (w W : World) (s : ByteArray) (hb : Below w.heap.size w W) (hs : (s.size : Int) ≤ 2147483647) (q : Nat) (hq : q = W.heap.size) (p : Nat) (hp : p = (W.alloc (.cells (madeCells #[.int .u8 0] 64) 5)).drew.heap.size) :
    Started w s (.slice (some ⟨p, 0, none⟩) s.size (grownCap (W.alloc (.cells (madeCells #[.int .u8 0] 64) 5)).drew s.size 0 5)) (.slice (some ⟨q, 0, none⟩) 0 64) (Lib.bytesWorld (W.alloc (.cells (madeCells #[.int .u8 0] 64) 5)).drew 5 s) := by
  subst hp hq
  have h0 : Below w.heap.size w (W.alloc (.cells (madeCells #[.int .u8 0] 64) 5)) := hb.alloc hb.size _
  have h2 : Below w.heap.size w (W.alloc (.cells (madeCells #[.int .u8 0] 64) 5)).drew := h0.trans ((below_drew _ 1).mono h0.size)
  have h1 := h2.trans ((bytes_below _ s).mono h2.size)
  have ho : Own w.heap.size (.slice (some ⟨W.heap.size, 0, none⟩) 0 64) [] (W.alloc (.cells (madeCells #[.int .u8 0] 64) 5)) := Own.made _ _ 64 hb.size (by unfold maxLen; omega) made_size
  refine ⟨_, _, rfl, (Own.same (w' := (W.alloc (.cells (madeCells #[.int .u8 0] 64) 5)).drew) ho (fun i hi => rfl)).same (fun i hi => Lib.bytesWorld_at_old _ _ _ _ hi), ConvAt.new _ s, h1, grownCap_ge _ _ _ _, grownCap_le_maxLen _ _ _ _ (by unfold maxLen; omega)⟩
set_option maxRecDepth 100000 in
set_option maxHeartbeats 4000000 in
theorem valFilter_any (s : ByteArray) (w : World) (hs : (s.size : Int) ≤ 2147483647) (hno : ∀ x ∈ s.data.toList, x ≠ 92) :
    Calls Tryd.prog 72 #[.string s, .int .u8 0] w fun e w' => RetV s e ∧ Below w.heap.size w w' := by
  obtain ⟨i0, hi, hz0, hz1, hz2⟩ := info_parts byteInfo
  have HS := Lib.hid hs
  have HL : Hid (s.data.toList.length = s.size) := Lib.hid (by simp)
  have hcv : ∀ (W : World) (S : ByteArray), (convert 9 34 (.string S)).run Tryd.prog W = .ok (.slice (some ⟨W.heap.size, 0, none⟩) S.size (grownCap W S.size 0 5)) (Lib.bytesWorld W 5 S) := fun W S => Lib.run_convert_string_bytes W 9 34 5 S Tryd.underlying9 Tryd.underlying34 Tryd.underlying5
  have hmk : ∀ (W : World), (Instr.makeSlice 34 (.int .i64 0) (.int .i64 64)).run Tryd.prog W = .ok (.slice (some ⟨W.heap.size, 0, none⟩) 0 64) (W.alloc (.cells (madeCells #[.int .u8 0] 64) 5)) := fun W => make_bytes 64 (by decide) W
  have HD := Lib.hid (fun b c (W : World) (h : ConvAt b s W) => decode_none b c s W h.src hno)
  go_enter Tryd.func72, Tryd.ntmps72
  go_upto_region 3 with fail
  go_cut [5, 6] from 12 (fun s5 s6 wx => Started w s s5 s6 wx)
  case first =>
    go_region_with (go_at_call 71; refine (HD.out _ _ _ (by first | exact ConvAt.new _ _ | exact (ConvAt.new _ _).alloc _ | exact ConvAt.at_ _ (by simp))).mono ?_; rintro e w' ⟨rfl, rfl⟩)
    all_goals
      go_wp2_with fail
      go_meet
      first
        | exact relA w _ s (below_drew _ _) hs _ rfl _ rfl
        | exact relB w _ s (below_drew _ _) hs _ rfl _ (by simp)
        | exact relB w w s (Below.refl _ _) hs _ rfl _ (by simp)
        | (trace_state; sorry)
  case rest =>
    obtain ⟨b, c, rfl, ho, hcA, hbel, hc1, hc2⟩ := hcut
    clear hcv hmk HD hno
    go_wp2_with fail
    go_loopw [18, 6] (fun s18 s6 wr => ∃ (k : Nat) (acc : Bytes), k ≤ s.size ∧ s18 = .int .i64 k ∧ Own w.heap.size s6 acc wr ∧ ConvAt b s wr ∧ Below w.heap.size w wr ∧ Hid (acc = (s.data.toList.take k).filter nmA ∧ ∀ x ∈ s.data.toList.take k, badB x.toNat = false)) (fun s18 _ _ => s.size - (intOf s18).toNat)
    case atStart => exact ⟨0, [], Nat.zero_le _, rfl, ho, hcA, hbel, Lib.hid ⟨rfl, by simp⟩⟩
    case round =>
      clear ho hcA hbel
      obtain ⟨k, acc, hk, rfl, ho, hcA, hbel, H⟩ := hrel
      by_cases hlt : k < s.size
      · have hck := hcA.cell k hlt
        obtain ⟨x, hx⟩ : ∃ x, x = s[k] := ⟨_, rfl⟩
        have HX : Hid (s.data.toList[k]? = some x) := Lib.hid (by rw [List.getElem?_eq_getElem (by simpa using hlt), hx]; rfl)
        have HMEM : Hid (x ∈ s.data.toList) := Lib.hid (List.mem_of_getElem? HX.out)
        rw [← hx] at hck
        have hck1 : 0 < k → ∃ y : UInt8, wr.cell? ⟨b, k - 1, none⟩ = some (.int .u8 (y.toNat : Int)) := fun h0 => ⟨_, hcA.cell (k - 1) (by omega)⟩
        clear hx
        by_cases hbad : badB x.toNat = true
        · have HNW : Hid (allN s.data.toList → badLow s.data.toList = true) := Lib.hid fun h => by
            have h1 := h x HMEM.out
            rw [bad_not _ hbad] at h1; cases h1
          unfold badB at hbad
          simp only [List.contains_cons, List.contains_nil, Bool.or_eq_true, Bool.or_false, beq_iff_eq] at hbad
          clear hck1
          rcases hbad with e | e | e | e | e | e | e | e | e | e | e | e | e | e | e | e
          all_goals
            rw [e] at hck
            clear e
            go_wp2_with fail
            go_ret
            exact ⟨.inr ⟨rfl, HNW.out⟩, hbel⟩
        · have hbad2 : badB x.toNat = false := by simpa using hbad
          have HNX : Hid (∀ n : Bool, nmA x = n → Hid ((if n then acc ++ [x] else acc) = (s.data.toList.take (k + 1)).filter nmA ∧ ∀ y ∈ s.data.toList.take (k + 1), badB y.toNat = false)) := Lib.hid fun n hn => Lib.hid (next_nm _ _ _ _ _ H.out.1 H.out.2 HX.out hbad2 hn)
          have HB1 : Hid (acc.length + 1 ≤ maxLen ∧ (acc.length + 1) * 1 ≤ 140737488355328) := Lib.hid <| by
            have h1 := congrArg List.length H.out.1
            have h2 := List.length_filter_le nmA (s.data.toList.take k)
            rw [List.length_take] at h2
            have := HS.out
            unfold maxLen
            omega
          have hxl := x.toNat_lt
          have HNM : Hid (∀ w, Calls Tryd.prog 94 #[.int .i32 (x.toNat : Int)] w fun e w' => e = .returned (.bool (nmR x.toNat)) ∧ w = w') := Lib.hid fun w => nmchar_any x.toNat (by omega) w
          unfold badB at hbad2
          simp only [List.contains_cons, List.contains_nil, Bool.or_eq_false_iff, Bool.or_false, beq_eq_false_iff_ne, ne_eq] at hbad2
          obtain ⟨b1, b2, b3, b4, b5, b6, b7, b8, b9, b10, b11, b12, b13, b14, b15, b16⟩ := hbad2
          have m1 : ((x.toNat : Int) == 0) = false := by rw [beq_eq_false_iff_ne]; omega
          have m2 : ((x.toNat : Int) == 34) = false := by rw [beq_eq_false_iff_ne]; omega
          have m3 : ((x.toNat : Int) == 39) = false := by rw [beq_eq_false_iff_ne]; omega
          have m4 : ((x.toNat : Int) == 40) = false := by rw [beq_eq_false_iff_ne]; omega
          have m5 : ((x.toNat : Int) == 41) = false := by rw [beq_eq_false_iff_ne]; omega
          have m6 : ((x.toNat : Int) == 47) = false := by rw [beq_eq_false_iff_ne]; omega
          have m7 : ((x.toNat : Int) == 59) = false := by rw [beq_eq_false_iff_ne]; omega
          have m8 : ((x.toNat : Int) == 64) = false := by rw [beq_eq_false_iff_ne]; omega
          have m9 : ((x.toNat : Int) == 91) = false := by rw [beq_eq_false_iff_ne]; omega
          have m10 : ((x.toNat : Int) == 92) = false := by rw [beq_eq_false_iff_ne]; omega
          have m11 : ((x.toNat : Int) == 93) = false := by rw [beq_eq_false_iff_ne]; omega
          have m12 : ((x.toNat : Int) == 96) = false := by rw [beq_eq_false_iff_ne]; omega
          have m13 : ((x.toNat : Int) == 123) = false := by rw [beq_eq_false_iff_ne]; omega
          have m14 : ((x.toNat : Int) == 125) = false := by rw [beq_eq_false_iff_ne]; omega
          have m15 : ((x.toNat : Int) == 60) = false := by rw [beq_eq_false_iff_ne]; omega
          have m16 : ((x.toNat : Int) == 62) = false := by rw [beq_eq_false_iff_ne]; omega
          clear hbad b1 b2 b3 b4 b5 b6 b7 b8 b9 b10 b11 b12 b13 b14 b15 b16
          have jx : IntKind.i32.wrap (x.toNat : Int) = (x.toNat : Int) := IntWalk.i32_in _ (by omega)
          by_cases hd : (x.toNat : Int) = 45
          · have HNA : Hid (nmA x = false) := Lib.hid (by unfold nmA; rw [show x.toNat = 45 by omega]; rfl)
            by_cases h0 : k = 0
            · subst h0
              have hde : ((x.toNat : Int) == 45) = true := by rw [beq_iff_eq]; exact hd
              clear hck1 hd
              go_wp2_with fail
              refine ⟨⟨1, acc, by omega, by simp, ho, hcA, hbel, HNX.out _ HNA.out⟩, ?_⟩
              simp [intOf]; omega
            · have h0i : ((k : Int) != 0) = true := by simp; omega
              have h0j : ((k : Int) == 0) = false := by simp; omega
              have hde : ((x.toNat : Int) == 45) = true := by rw [beq_iff_eq]; exact hd
              obtain ⟨y, hy⟩ := hck1 (by omega)
              have j1 : IntKind.i64.wrap ((k : Int) - 1) = (k : Int) - 1 := IntWalk.i64_in _ (by omega)
              have j2 : (0 : Int) ≤ (k : Int) - 1 := by omega
              have j3 : ((k : Int) - 1).toNat = k - 1 := by omega
              have j4 : (k : Int) - 1 < s.size := by omega
              clear hck1
              by_cases hyd : (y.toNat : Int) = 45
              · have HNW : Hid (allN s.data.toList → badLow s.data.toList = true) := Lib.hid fun h => by
                  have h1 := h x HMEM.out
                  rw [show x.toNat = 45 by omega] at h1; cases h1
                have hyd2 : ((y.toNat : Int) == 45) = true := by rw [beq_iff_eq]; exact hyd
                clear hyd hd
                go_wp2_with fail
                go_ret
                exact ⟨.inr ⟨rfl, HNW.out⟩, hbel⟩
              · have hyd2 : ((y.toNat : Int) == 45) = false := by rw [beq_eq_false_iff_ne]; exact hyd
                clear hyd hd
                go_wp2_with fail
                refine ⟨⟨k + 1, acc, by omega, by simp, ho, hcA, hbel, HNX.out _ HNA.out⟩, ?_⟩
                simp [intOf]; omega
          · have hd2 : ((x.toNat : Int) == 45) = false := by rw [beq_eq_false_iff_ne]; exact hd
            have HN45 : Hid (decide (x.toNat = 45) = false) := Lib.hid (decide_eq_false (by omega))
            clear hck1 hd
            by_cases h128 : (x.toNat : Int) < 128
            · cases hnm : nmR x.toNat
              · have HNA : Hid (nmA x = false) := Lib.hid (by unfold nmA; rw [hnm, Bool.and_false, Bool.and_false])
                rw [hnm] at HNM
                clear hnm
                go_wp2_with (go_at_call 94; refine (HNM.out _).mono ?_; rintro e w' ⟨rfl, rfl⟩)
                refine ⟨⟨k + 1, acc, by omega, by simp, ho, hcA, hbel, HNX.out _ HNA.out⟩, ?_⟩
                simp [intOf]; omega
              · have HNA : Hid (nmA x = true) := Lib.hid (by unfold nmA; rw [hnm, Bool.and_true, HN45.out, Bool.not_false, Bool.true_and]; exact decide_eq_true (by omega))
                rw [hnm] at HNM
                clear hnm
                go_wp2_with (first
                  | (go_at_call 94; refine (HNM.out _).mono ?_; rintro e w' ⟨rfl, rfl⟩)
                  | (at_builtin; refine wpList_append_own _ rfl _ _ 34 rfl (w.heap.size) 5 i0 (.int .u8 0) 1 1 Tryd.underlying34 hi hz0 hz1 hz2 rfl (by decide) _ _ _ rfl (ho.alloc _) ⟨_, 0, none⟩ 1 1 [.int .u8 x.toNat] rfl rfl ?c1 ?c2 ?c3 ?c4 ?c5 ?_))
                case c1 => intro j u hj
                           match j, hj with
                           | 0, hj => simp at hj; subst hj; simp [Addr.add]
                case c2 => intro u hu; simp at hu; subst hu; rfl
                case c3 => exact HB1.out.1
                case c4 => exact HB1.out.2
                case c5 => have := hbel.size; simp; omega
                intro v' w2 hown' hgrow _
                have hown := Own.put (x := [x]) (n := acc.length + 1) (by simp) hown'
                have hb2 : Below w.heap.size w w2 := Below.appended hbel hbel.size hgrow (Own.lt ho)
                have hcA2 := hcA.grown ho _ hgrow
                clear hown' hgrow
                go_wp2
                refine ⟨⟨k + 1, acc ++ [x], by omega, by simp, hown, hcA2, hb2, HNX.out _ HNA.out⟩, ?_⟩
                simp [intOf]; omega
            · have HNA : Hid (nmA x = false) := Lib.hid (by unfold nmA; rw [show decide (x.toNat < 128) = false from decide_eq_false (by omega), Bool.false_and, Bool.and_false])
              go_wp2_with (go_at_call 94; refine (HNM.out _).mono ?_; rintro e w' ⟨rfl, rfl⟩)
              refine ⟨⟨k + 1, acc, by omega, by simp, ho, hcA, hbel, HNX.out _ HNA.out⟩, ?_⟩
              simp [intOf]; omega
      · obtain rfl : k = s.size := by omega
        have hall : s.data.toList.take s.size = s.data.toList := List.take_of_length_le (by rw [HL.out]; omega)
        have HAC : Hid (acc = s.data.toList.filter nmA ∧ ∀ x ∈ s.data.toList, badB x.toNat = false) := Lib.hid (by have := H.out; rw [hall] at this; exact this)
        have HAN : Hid (acc.length ≤ 2147483647 ∧ ∀ x ∈ acc, x.toNat < 128) := Lib.hid <| by
          rw [HAC.out.1]
          constructor
          · have h2 := List.length_filter_le nmA s.data.toList
            have := HS.out
            have := HL.out
            omega
          · intro x hx
            have h3 := (List.mem_filter.1 hx).2
            unfold nmA at h3
            simp at h3
            exact h3.2.1
        have HTL := Lib.hid (toLower_own ho (by have := HAN.out.1; omega) HAN.out.2)
        obtain ⟨eb, heb⟩ : ∃ eb, eb = (idxL exprW (Lib.toLowerA acc)).isSome := ⟨_, rfl⟩
        obtain ⟨mb, hmb⟩ : ∃ mb, mb = (idxL mozW (Lib.toLowerA acc)).isSome := ⟨_, rfl⟩
        have HE : Hid (∀ g cap b2 c2 W, Lib.Bytes W g 0 ⟨(Lib.toLowerA acc).toArray⟩ → Lib.Bytes W b2 0 ⟨exprW.toArray⟩ → acc.length ≤ cap → cap ≤ maxLen → Calls Tryd.prog 96 #[.slice (some ⟨g, 0, none⟩) acc.length cap, .slice (some ⟨b2, 0, none⟩) 10 c2] W fun e w' => e = .returned (.bool eb) ∧ ∃ n, w' = W.drewN n) := Lib.hid (fun g cap b2 c2 W h1 h2 h3 h4 => heb ▸ low_has acc exprW rfl (by decide) HAN.out.1 g cap b2 c2 W h1 h2 h3 h4)
        have HM : Hid (∀ g cap b2 c2 W, Lib.Bytes W g 0 ⟨(Lib.toLowerA acc).toArray⟩ → Lib.Bytes W b2 0 ⟨mozW.toArray⟩ → acc.length ≤ cap → cap ≤ maxLen → Calls Tryd.prog 96 #[.slice (some ⟨g, 0, none⟩) acc.length cap, .slice (some ⟨b2, 0, none⟩) 10 c2] W fun e w' => e = .returned (.bool mb) ∧ ∃ n, w' = W.drewN n) := Lib.hid (fun g cap b2 c2 W h1 h2 h3 h4 => hmb ▸ low_has acc mozW rfl (by decide) HAN.out.1 g cap b2 c2 W h1 h2 h3 h4)
        have HBAD : Hid ((eb || mb) = true → allN s.data.toList → badLow s.data.toList = true) := Lib.hid <| by
          intro h1 h2
          have h3 : acc = s.data.toList := by
            rw [HAC.out.1]
            exact List.filter_eq_self.2 fun b hb => nm_alnum b (h2 b hb)
          unfold badLow
          rw [← h3, ← heb, ← hmb]
          exact h1
        have HCA := Lib.hid hcA
        have HBEL := Lib.hid hbel
        clear heb hmb hall H hcA ho hbel
        have hce : ∀ (W : World) (g : Nat), W.heap.size = g → (convert 34 34 (.slice (some ⟨g, 0, none⟩) 10 10)).run Tryd.prog (W.alloc (.cells #[.int .u8 101, .int .u8 120, .int .u8 112, .int .u8 114, .int .u8 101, .int .u8 115, .int .u8 115, .int .u8 105, .int .u8 111, .int .u8 110] 5)) = .ok (.slice (some ⟨g, 0, none⟩) 10 10) (W.alloc (.cells #[.int .u8 101, .int .u8 120, .int .u8 112, .int .u8 114, .int .u8 101, .int .u8 115, .int .u8 115, .int .u8 105, .int .u8 111, .int .u8 110] 5 (10, 11))) := fun W g hg => conv_lit W g _ 10 rfl hg
        have hcm : ∀ (W : World) (g : Nat), W.heap.size = g → (convert 34 34 (.slice (some ⟨g, 0, none⟩) 10 10)).run Tryd.prog (W.alloc (.cells #[.int .u8 109, .int .u8 111, .int .u8 122, .int .u8 98, .int .u8 105, .int .u8 110, .int .u8 100, .int .u8 105, .int .u8 110, .int .u8 103] 5)) = .ok (.slice (some ⟨g, 0, none⟩) 10 10) (W.alloc (.cells #[.int .u8 109, .int .u8 111, .int .u8 122, .int .u8 98, .int .u8 105, .int .u8 110, .int .u8 100, .int .u8 105, .int .u8 110, .int .u8 103] 5 (10, 11))) := fun W g hg => conv_lit W g _ 10 rfl hg
        have hb64 : (c : Int) ≤ 9223372036854775807 := by unfold maxLen at hc2; omega
        cases eb
        · cases mb
          · clear HBAD
            go_wp2_with (first
              | (go_at_call 95; refine HTL.out.mono ?_; rintro e w1 ⟨⟨g, cap, rfl, hbs, hcl, hcm, hgl⟩, hb1⟩; have HW1 := Lib.hid (And.intro hbs (And.intro hcl (And.intro hcm (And.intro hgl hb1)))); have hcv3 := conv_after (HCA.out.below hb1) hc1; clear hbs hcl hcm hgl hb1)
              | (go_at_call 96; refine (HE.out _ _ _ _ _ (HW1.out.1.old HW1.out.2.2.2.1 _) (lit_bytes _ _ _ _ (by simp) rfl) HW1.out.2.1 HW1.out.2.2.1).mono ?_; rintro e w2 ⟨rfl, n1, rfl⟩; clear HE)
              | (go_at_call 96; refine (HM.out _ _ _ _ _ (((HW1.out.1.old HW1.out.2.2.2.1 _).drewN _).old (by simp; have := HW1.out.2.2.2.1; omega) _) (lit_bytes _ _ _ _ (by simp) rfl) HW1.out.2.1 HW1.out.2.2.1).mono ?_; rintro e w3 ⟨rfl, n2, rfl⟩; clear HM))
            go_ret
            exact ⟨.inl ⟨rfl, HAC.out.2⟩, below_end2 (HBEL.out.trans (HW1.out.2.2.2.2.mono HBEL.out.size)) _ _ _ _⟩
          · go_wp2_with (first
              | (go_at_call 95; refine HTL.out.mono ?_; rintro e w1 ⟨⟨g, cap, rfl, hbs, hcl, hcm, hgl⟩, hb1⟩; have HW1 := Lib.hid (And.intro hbs (And.intro hcl (And.intro hcm (And.intro hgl hb1)))); have hcv3 := conv_after (HCA.out.below hb1) hc1; clear hbs hcl hcm hgl hb1)
              | (go_at_call 96; refine (HE.out _ _ _ _ _ (HW1.out.1.old HW1.out.2.2.2.1 _) (lit_bytes _ _ _ _ (by simp) rfl) HW1.out.2.1 HW1.out.2.2.1).mono ?_; rintro e w2 ⟨rfl, n1, rfl⟩; clear HE)
              | (go_at_call 96; refine (HM.out _ _ _ _ _ (((HW1.out.1.old HW1.out.2.2.2.1 _).drewN _).old (by simp; have := HW1.out.2.2.2.1; omega) _) (lit_bytes _ _ _ _ (by simp) rfl) HW1.out.2.1 HW1.out.2.2.1).mono ?_; rintro e w3 ⟨rfl, n2, rfl⟩; clear HM))
            go_ret
            exact ⟨.inr ⟨rfl, HBAD.out rfl⟩, below_end2 (HBEL.out.trans (HW1.out.2.2.2.2.mono HBEL.out.size)) _ _ _ _⟩
        · have HBAD2 := Lib.hid (HBAD.out (by simp))
          clear HBAD
          go_wp2_with (first
              | (go_at_call 95; refine HTL.out.mono ?_; rintro e w1 ⟨⟨g, cap, rfl, hbs, hcl, hcm, hgl⟩, hb1⟩; have HW1 := Lib.hid (And.intro hbs (And.intro hcl (And.intro hcm (And.intro hgl hb1)))); have hcv3 := conv_after (HCA.out.below hb1) hc1; clear hbs hcl hcm hgl hb1)
              | (go_at_call 96; refine (HE.out _ _ _ _ _ (HW1.out.1.old HW1.out.2.2.2.1 _) (lit_bytes _ _ _ _ (by simp) rfl) HW1.out.2.1 HW1.out.2.2.1).mono ?_; rintro e w2 ⟨rfl, n1, rfl⟩; clear HE))
          go_ret
          exact ⟨.inr ⟨rfl, HBAD2.out⟩, below_end1 (HBEL.out.trans (HW1.out.2.2.2.2.mono HBEL.out.size)) _ _⟩
set_option maxRecDepth 100000 in
theorem cssValue_any (s : ByteArray) (w : World) (hs : (s.size : Int) ≤ 2147483647) (hno : ∀ x ∈ s.data.toList, x ≠ 92) :
    Calls Tryd.prog 24 #[.string s] w fun e w' => RetV s e ∧ Below w.heap.size w w' := by
  have HC := Lib.hid (fun w => valFilter_any s w hs hno)
  have HZ : Hid (∀ w, Calls Tryd.prog 49 #[.string s] w fun e w' => RetV s e ∧ Below w.heap.size w w') := Lib.hid <| by
    intro w
    clear hs hno
    go_enter Tryd.func49, Tryd.ntmps49
    go_wp2_with fail
    refine (HC.out _).mono ?_
    rintro e w' ⟨⟨rfl, h⟩ | ⟨rfl, h⟩, hb⟩
    · go_wp2_with fail
      go_ret
      exact ⟨.inl ⟨rfl, h⟩, hb⟩
    · go_wp2_with fail
      go_ret
      exact ⟨.inr ⟨rfl, h⟩, hb⟩
  clear hs hno HC
  go_enter Tryd.func24, Tryd.ntmps24
  go_wp2_with fail
  refine (HZ.out _).mono ?_
  rintro e w' ⟨⟨rfl, h⟩ | ⟨rfl, h⟩, hb⟩
  · go_wp2_with fail
    go_ret
    exact ⟨.inl ⟨rfl, h⟩, hb⟩
  · go_wp2_with fail
    go_ret
    exact ⟨.inr ⟨rfl, h⟩, hb⟩
end Go.Proofs.YtigobehhmodoiaaDoor
