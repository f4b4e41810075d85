/- CSS: the package's decodeCSS. -/
import Derived.Test.YtigobehhmodoiaaDoorDecB
import Derived.Test.YtigobehhmodoiaaDoorSev
import Derived.Test.YtigobehhmodoiaaDoorMem
import Derived.Deep.RegionLaw
import Derived.Deep.QuietTactic
import Derived.BigQuiet
import Derived.IntWalk
import Derived.Laws.MakeOwn
import Derived.Test.YtigobehhmodoiaaDoorOwn
import Derived.LoopTactic
namespace Go.Proofs.YtigobehhmodoiaaDoor
open Go.Shelf Go.RowKit
set_option linter.unusedVariables false
set_option linter.unusedSimpArgs false

/-- Block B has N cells of the call's own; the first ones hold acc. -/
structure Dst (w : World) (B N : Nat) (acc : Bytes) (wr : World) : Prop where
  below : Below B w wr
  size : B < wr.heap.size
  there : ∀ j, j < N → (wr.cell? ⟨B, j, none⟩).isSome = true
  free : ∀ j, j < N → wr.frozen? ⟨B, j, none⟩ = false
  holds : ∀ j x, acc[j]? = some x → wr.cell? ⟨B, j, none⟩ = some (.int .u8 (x.toNat : Int))
theorem Dst.drew {w : World} {B N : Nat} {acc : Bytes} {wr : World} (h : Dst w B N acc wr) (n : Nat) : Dst w B N acc (wr.drewN n) :=
  ⟨h.below.trans ((below_drew wr n).mono (Nat.le_of_lt h.size)), h.size, h.there, h.free, h.holds⟩
theorem Dst.keep {w : World} {B N : Nat} {acc : Bytes} {wr w2 : World} (h : Dst w B N acc wr) (hb : Below wr.heap.size wr w2) : Dst w B N acc w2 := by
  have e : ∀ j, w2.cell? ⟨B, j, none⟩ = wr.cell? ⟨B, j, none⟩ := fun j => hb.cell (p := ⟨B, j, none⟩) h.size
  refine ⟨h.below.trans (hb.mono (Nat.le_of_lt h.size)), Nat.lt_of_lt_of_le h.size hb.size, fun j hj => ?_, fun j hj => ?_, fun j x hx => ?_⟩
  · rw [e]; exact h.there j hj
  · rw [hb.frozen (p := ⟨B, j, none⟩) h.size]; exact h.free j hj
  · rw [e]; exact h.holds j x hx
theorem byteCells_at (x : Bytes) (j : Nat) (b : UInt8) (h : x[j]? = some b) : (Lib.byteCells x)[j]? = some (.int .u8 (b.toNat : Int)) := by
  unfold Lib.byteCells; rw [List.getElem?_map, h]; rfl
theorem cells_one (x : Bytes) : ∀ u ∈ Lib.byteCells x, u.oneCell' = true := by
  intro u hu
  obtain ⟨y, _, rfl⟩ := List.mem_map.1 hu
  rfl
theorem Dst.put {w : World} {B N : Nat} {acc x : Bytes} {wr : World} (h : Dst w B N acc wr) (hf : acc.length + x.length ≤ N) : Dst w B N (acc ++ x) (wr.setCells B acc.length (Lib.byteCells x)) := by
  have hl : (Lib.byteCells x).length = x.length := Lib.byteCells_length x
  have hk := World.keptBut_setCells B (may := fun _ => True) (Lib.byteCells x) acc.length wr (fun _ _ => trivial)
  refine ⟨?_, ?_, fun j hj => ?_, fun j hj => ?_, fun j b hj => ?_⟩
  · have h2 : ∀ (vs : List Value) (o : Nat) (v : World), Below B w v → Below B w (v.setCells B o vs) := by
      intro vs
      induction vs with
      | nil => intro o v hv; exact hv
      | cons a r ih => intro o v hv; exact ih (o + 1) _ (hv.setCell (p := ⟨B, o, none⟩) (Nat.le_refl _) a)
    exact h2 _ _ _ h.below
  · have h2 : ∀ (vs : List Value) (o : Nat) (v : World), (v.setCells B o vs).heap.size = v.heap.size := by
      intro vs
      induction vs with
      | nil => intro o v; rfl
      | cons a r ih => intro o v; show ((v.setCell ⟨B, o, none⟩ a).setCells B (o + 1) r).heap.size = _; rw [ih]; simp [World.setCell]
    rw [h2]; exact h.size
  · by_cases hin : acc.length ≤ j ∧ j < acc.length + x.length
    · have := World.cell?_setCells_in B (Lib.byteCells x) acc.length wr (fun i hi => h.there _ (by omega)) (j - acc.length) (by omega)
      rw [show acc.length + (j - acc.length) = j by omega] at this
      rw [this]; rfl
    · rw [World.cell?_setCells_out B (Lib.byteCells x) acc.length wr ⟨B, j, none⟩ (fun _ _ => by rw [hl]; show j < _ ∨ _ ≤ j; omega)]
      exact h.there j hj
  · rw [World.frozen?_setCells]; exact h.free j hj
  · rcases Nat.lt_or_ge j acc.length with hlt | hge
    · rw [List.getElem?_append_left hlt] at hj
      rw [World.cell?_setCells_out B (Lib.byteCells x) acc.length wr ⟨B, j, none⟩ (fun _ _ => by left; show j < _; omega)]
      exact h.holds j b hj
    · rw [List.getElem?_append_right hge] at hj
      have hjx : j - acc.length < x.length := (List.getElem?_eq_some_iff.1 hj).1
      have := World.cell?_setCells_in B (Lib.byteCells x) acc.length wr (fun i hi => h.there _ (by omega)) (j - acc.length) (by omega)
      rw [show acc.length + (j - acc.length) = j by omega] at this
      rw [this]
      have h3 := byteCells_at x _ b hj
      rw [List.getElem?_eq_getElem (by omega)] at h3
      exact h3
theorem dst_start (w : World) (N : Nat) (z : Value) (T : TypeId) : Dst w w.heap.size N [] (w.alloc (.cells (madeCells #[z] N) T)) := by
  refine ⟨(Below.refl _ _).alloc (Nat.le_refl _) _, by simp, fun j hj => ?_, fun j hj => ?_, fun j x hx => by simp at hx⟩
  · rw [World.cell?_alloc_new]; simp [madeCells, hj]
  · exact Lib.frozen_of_heap (heap_alloc_new w _) j
theorem make_bytes (N : Nat) (hN : (N : Int) ≤ 17179869184) (W : World) : (Instr.makeSlice 34 (.int .i64 0) (.int .i64 (N : Int))).run Tryd.prog W = .ok (.slice (some ⟨W.heap.size, 0, none⟩) 0 N) (W.alloc (.cells (madeCells #[.int .u8 0] N) 5)) := by
  obtain ⟨i0, hi, hz0, hz1, hz2⟩ := info_parts byteInfo
  have := run_make (P := Tryd.prog) W 34 5 i0 (.int .u8 0) Tryd.underlying34 hi hz0 .i64 .i64 0 (N : Int) (by omega) (by omega) (by rw [hz2]; omega) (by omega)
  rw [hz1] at this
  simpa [show (Value.int IntKind.u8 0).cells = #[.int .u8 0] from rfl] using this

/-- The bytes of the source, in any world that a round meets. -/
def SrcAt (b : Nat) (S : Bytes) (w : World) : Prop := ∀ i, i < S.length → w.cell? ⟨b, i, none⟩ = some (.int .u8 (at0 S i : Nat))
theorem SrcAt.below {b B : Nat} {S : Bytes} {w wr : World} (h : SrcAt b S w) (hb : Below B w wr) (hB : b < B) : SrcAt b S wr := fun i hi => by
  rw [hb.cell (p := ⟨b, i, none⟩) hB]; exact h i hi
theorem SrcAt.bytes {b : Nat} {S : ByteArray} {w : World} (h : SrcAt b S.data.toList w) (p e : Nat) (hp : p ≤ e) (he : e ≤ S.size) : Lib.Bytes w b p (S.extract p e) := by
  intro i hi
  have hz : (S.extract p e).size = e - p := by rw [ByteArray.size_extract]; omega
  rw [h (p + i) (by simp; have e2 : S.data.size = S.size := rfl; omega)]
  have h1 := get_list (S.extract p e) i hi
  rw [h1]
  congr 2
  rw [Lib.extract_data, at0_take _ _ _ (by omega), at0_drop]

set_option maxRecDepth 100000 in
set_option maxHeartbeats 8000000 in
theorem decode_none (b c : Nat) (S : ByteArray) (w : World) (hS : SrcAt b S.data.toList w) (h : ∀ x ∈ S.data.toList, x ≠ 92) :
    Calls Tryd.prog 71 #[.slice (some ⟨b, 0, none⟩) S.size c] w fun e w' => e = .returned (.slice (some ⟨b, 0, none⟩) S.size c) ∧ w = w' := by
  have hi : Lib.indexByte S.data.toList 92 = -1 := by
    rw [idx92, if_pos]
    have : plainRun S.data.toList = S.data.toList := by
      unfold plainRun
      have := List.takeWhile_append_of_pos (p := fun b => b != 92) (l₁ := S.data.toList) (l₂ := []) (fun x hx => by simpa using h x hx)
      simpa using this
    rw [this]
  have HC : Hid (Calls Tryd.prog 89 #[.slice (some ⟨b, 0, none⟩) S.size c, .int .u8 92] w fun e w' => e = .returned (.int .i64 (-1)) ∧ w = w') := Lib.hid <| by
    have hB : Lib.Bytes w b 0 S := by
      have := hS.bytes 0 S.size (by omega) (Nat.le_refl _)
      rwa [show S.extract 0 S.size = S from ba_ext (by rw [Lib.extract_data]; simp [List.take_of_length_le])] at this
    have := Tryd.bytes_IndexByte_bytes b 0 c S 92 w hB
    rw [show ((92 : Int).toNat.toUInt8) = 92 from rfl, hi] at this
    exact this.mono fun _ _ h => ⟨h.1, h.2.symm⟩
  clear hi hS h
  go_enter Tryd.func71, Tryd.ntmps71
  go_wp2_with (go_at_call 89; refine HC.out.mono ?_; rintro e w' ⟨rfl, rfl⟩)
  go_ret
  exact ⟨rfl, rfl⟩

/-- What a call of bytes.IndexByte answers at a place of the source. -/
theorem index_at (b c p : Nat) (S : ByteArray) (hp : p ≤ S.size) (wr : World) (hS : SrcAt b S.data.toList wr) (k m : Nat) (hk : k = (plainRun (S.data.toList.drop p)).length) (hm : m = S.size - p) (C : Nat) :
    Calls Tryd.prog 89 #[.slice (some ⟨b, p, none⟩) m C, .int .u8 92] wr fun e w' => e = .returned (.int .i64 (if k = m then -1 else (k : Int))) ∧ wr = w' := by
  have hz : (S.extract p S.size).size = m := by rw [ByteArray.size_extract]; omega
  have := Tryd.bytes_IndexByte_bytes b p C (S.extract p S.size) 92 wr (hS.bytes p S.size hp (Nat.le_refl _))
  rw [show ((92 : Int).toNat.toUInt8) = 92 from rfl, hz, extract_end, idx92, ← hk, List.length_drop] at this
  have e : S.data.toList.length - p = m := by rw [hm]; simp
  rw [e] at this
  exact this.mono fun _ _ h => ⟨h.1, h.2.symm⟩

set_option maxRecDepth 100000 in
set_option maxHeartbeats 8000000 in
theorem decode_some (b c : Nat) (S : ByteArray) (W : Bytes) (w : World) (hbw : b < w.heap.size) (hS : SrcAt b S.data.toList w) (hT : Tabs w) (hsz : (S.size : Int) ≤ 17179869184) (hcN : S.size ≤ c) (hc : (c : Int) ≤ 9223372036854775807)
    (h92 : (plainRun S.data.toList).length < S.size) (hW : styleL S.data.toList = some W) :
    Calls Tryd.prog 71 #[.slice (some ⟨b, 0, none⟩) S.size c] w fun e w' => e = .returned (.slice (some ⟨w.heap.size, 0, none⟩) W.length S.size) ∧ Dst w w.heap.size S.size W w' := by
  obtain ⟨N, hN⟩ : ∃ N, N = S.size := ⟨_, rfl⟩
  obtain ⟨k0, hk0⟩ : ∃ k, k = (plainRun S.data.toList).length := ⟨_, rfl⟩
  have HIX : Hid (∀ (p : Nat), p ≤ N → ∀ (wr : World), Below w.heap.size w wr → ∀ (k m C : Nat), k = (plainRun (S.data.toList.drop p)).length → m = N - p →
      Calls Tryd.prog 89 #[.slice (some ⟨b, p, none⟩) m C, .int .u8 92] wr fun e w' => e = .returned (.int .i64 (if k = m then -1 else (k : Int))) ∧ wr = w') :=
    Lib.hid fun p hp wr hb k m C hk hm => index_at b c p S (by omega) wr (hS.below hb hbw) k m hk (by omega) C
  have HI0 : Hid (Calls Tryd.prog 89 #[.slice (some ⟨b, 0, none⟩) N c, .int .u8 92] w fun e w' => e = .returned (.int .i64 (k0 : Int)) ∧ w = w') := Lib.hid <| by
    have := HIX.out 0 (by omega) w (Below.refl _ _) k0 N c (by rw [List.drop_zero]; exact hk0) (by omega)
    rwa [if_neg (by omega)] at this
  have q1 : ((k0 : Int) == -1) = false := by rw [beq_eq_false_iff_ne]; omega
  rw [← hN]
  have hmk := make_bytes N (by omega)
  have HN := Lib.hid hN
  clear hk0 hN
  go_enter Tryd.func71, Tryd.ntmps71
  go_wp2_with (go_at_call 89; refine HI0.out.mono ?_; rintro e w' ⟨rfl, rfl⟩)
  have HB := Lib.hid (dst_start w N (.int .u8 0) 5)
  have hB : b < w.heap.size := hbw
  go_loopw [0, 4] (fun s0 s4 wr => ∃ (p : Nat) (acc rest : Bytes), SrcV b N c p s0 ∧ s4 = .slice (some ⟨w.heap.size, 0, none⟩) acc.length N ∧ p ≤ N ∧ Dst w w.heap.size N acc wr ∧ Hid (acc.length ≤ p ∧ styleL (S.data.toList.drop p) = some rest ∧ acc ++ rest = W)) (fun s0 _ _ => match s0 with | .slice _ n _ => n | _ => 0)
  case atStart =>
    exact ⟨0, [], W, SrcV.mk rfl (fun _ => ⟨rfl, rfl⟩), rfl, Nat.zero_le _, HB.out, Lib.hid ⟨Nat.le_refl _, by rw [List.drop_zero]; exact hW, rfl⟩⟩
  case round =>
    obtain ⟨p, acc, rest, hsv, rfl, hpN, HD0, HR⟩ := hrel
    have HD := Lib.hid HD0; clear HD0
    rcases Nat.lt_or_ge p N with hp | hp
    · obtain rfl := hsv.at hp
      clear hsv
      obtain ⟨m, hm⟩ : ∃ m, N - p = m := ⟨_, rfl⟩
      obtain ⟨C, hC⟩ : ∃ C, c - p = C := ⟨_, rfl⟩
      obtain ⟨k, hk⟩ : ∃ k, k = (plainRun (S.data.toList.drop p)).length := ⟨_, rfl⟩
      obtain ⟨l, hl⟩ : ∃ l, l = S.data.toList.drop p := ⟨_, rfl⟩
      have hlm : l.length = m := by rw [hl, List.length_drop, ← hm, HN.out]; simp
      obtain ⟨sp1, sp2, sp3⟩ := plainRun_split l
      obtain ⟨w2, hw2, hrw⟩ := dec_plain l rest (by rw [hl]; exact HR.out.2.1)
      rw [← hl] at hk
      have hkm : k ≤ m := by
        rw [hk, ← hlm]
        have := congrArg List.length sp1
        rw [List.length_append] at this
        omega
      have HI := Lib.hid (HIX.out p hpN wr HD.out.below k m C (by rw [← hl]; exact hk) hm.symm)
      have hm0 : 0 < m := by omega
      have hmC : m ≤ C := by have := HN.out; omega
      have hCb : (C : Int) ≤ 9223372036854775807 := by omega
      have HP : Hid (p + m = N ∧ p < N ∧ c - p = C) := Lib.hid ⟨by omega, hp, hC⟩
      have HL : Hid (l = S.data.toList.drop p ∧ l.length = m ∧ k = (plainRun l).length) := Lib.hid ⟨hl, hlm, hk⟩
      have hap := HR.out.1
      have hSr := hS.below HD.out.below hB
      have hSb : ∀ j, j < m → wr.cell? ⟨b, p + j, none⟩ = some (.int .u8 (at0 l j : Nat)) := fun j hj => by
        rw [hl, at0_drop]
        exact hSr (p + j) (by have := HN.out; simp; have e2 : S.data.size = S.size := rfl; omega)
      have HSB := Lib.hid hSb
      obtain ⟨i0, hi, hz0, hz1, hz2⟩ := info_parts byteInfo
      rw [hm, hC]
      have d1 : ((m : Int) != 0) = true := by rw [bne_iff_ne]; omega
      have s1 : ∀ x : Bytes, (Lib.byteCells x).length = x.length * 1 := fun x => by rw [Lib.byteCells_length]; omega
      have HS1 := Lib.hid s1
      have HNW : Hid (∀ (x : Bytes), (∃ y, l = x ++ y) → ∀ j u, (Lib.byteCells x)[j]? = some u → wr.drew.cell? ((⟨b, p, none⟩ : Addr).add j) = some u) := Lib.hid <| by
        rintro x ⟨y, hy⟩ j u hu
        have hj : j < x.length := by
          have := (List.getElem?_eq_some_iff.1 hu).1
          rwa [Lib.byteCells_length] at this
        rw [Addr.add_lit]
        show wr.cell? _ = _
        rw [HSB.out j (by rw [← HL.out.2.1, hy, List.length_append]; omega)]
        unfold Lib.byteCells at hu
        rw [List.getElem?_map, List.getElem?_eq_getElem hj] at hu
        rw [← Option.some.inj hu]
        congr 3
        rw [hy]; unfold at0
        rw [List.getD_eq_getElem?_getD, List.getElem?_append_left hj, List.getElem?_eq_getElem hj]
        rfl
      have HS3 : Hid (∀ j, acc.length + j < N → (wr.drew.cell? ⟨w.heap.size, 0 + acc.length * 1 + j, none⟩).isSome = true ∧ wr.drew.frozen? ⟨w.heap.size, 0 + acc.length * 1 + j, none⟩ = false) := Lib.hid <| by
        intro j hj
        rw [Nat.mul_one, Nat.zero_add]
        exact ⟨HD.out.there _ hj, HD.out.free _ hj⟩
      have haN : acc.length + m ≤ N := by omega
      clear hk hl hlm sp2 hSr hSb hC s1 hm
      by_cases hkm2 : k = m
      · have HF : Hid (acc ++ l = W ∧ acc.length + m = W.length) := Lib.hid <| by
          have e1 : l.drop (plainRun l).length = [] := List.drop_of_length_le (by rw [← HL.out.2.2, HL.out.2.1]; omega)
          rw [e1] at hw2 sp1
          rw [styleL_nil] at hw2
          have e2 : w2 = [] := (Option.some.inj hw2).symm
          rw [List.append_nil] at sp1
          have e3 : rest = l := by rw [hrw, e2, List.append_nil, ← sp1]
          have e4 := HR.out.2.2
          rw [e3] at e4
          exact ⟨e4, by rw [← e4, List.length_append, HL.out.2.1]⟩
        rw [if_pos hkm2] at HI
        obtain ⟨A, hA, hA2⟩ := slice_to b p m C m hmC
        have HPUT := Lib.hid ((HD.out.drew 1).put (x := l) (by rw [HL.out.2.1]; exact haN))
        clear hA2 hkm2 hkm hw2 hrw sp1 sp3 hap hp hpN HIX
        go_wp2_with (go_at_call 89; refine HI.out.mono ?_; rintro e w' ⟨rfl, rfl⟩)
        go_region_law (refine step_append_room rfl (.tmp 28) (.tmp 31) 34 rfl 5 i0 1 Tryd.underlying34 hi hz1 w.heap.size 0 acc.length N (by simp [Act.eval, Act.put]) ⟨b, p, none⟩ m C (Lib.byteCells l) (by simp [Act.eval, Act.put]) (by rw [HS1.out, HL.out.2.1]) (HNW.out l ⟨[], by simp⟩) (cells_one l) (by omega) (fun j hj => HS3.out j (by rw [HS1.out, HL.out.2.1] at hj; omega)) ?_)
        go_wp2
        go_ret
        have e9 : Value.slice (some ⟨w.heap.size, 0, none⟩) (acc.length + m) N = .slice (some ⟨w.heap.size, 0, none⟩) W.length N := by rw [HF.out.2]
        refine ⟨congrArg Ending.returned e9, ?_⟩
        have h9 := HPUT.out
        rw [HF.out.1] at h9
        exact h9
      · rw [if_neg hkm2] at HI
        have hkm3 : k < m := by omega
        obtain ⟨t, ht⟩ : ∃ t, l.drop k = 92 :: t := by
          rcases sp3 with h | h
          · exfalso
            have := congrArg List.length h
            rw [List.length_drop, ← HL.out.2.2, HL.out.2.1] at this
            simp at this
            omega
          · rw [← HL.out.2.2] at h; exact h
        rw [← HL.out.2.2] at hw2 sp1
        rw [ht] at hw2
        obtain ⟨m2, hm2⟩ : ∃ m2, m - k = m2 := ⟨_, rfl⟩
        obtain ⟨C2, hC2⟩ : ∃ C2, C - k = C2 := ⟨_, rfl⟩
        have htl : t.length + 1 = m2 := by
          have := congrArg List.length ht
          rw [List.length_drop, HL.out.2.1] at this
          simp at this
          omega
        have HM2 : Hid (m - k = m2 ∧ C - k = C2) := Lib.hid ⟨hm2, hC2⟩
        obtain ⟨x, hx⟩ : ∃ x, x = plainRun l := ⟨_, rfl⟩
        rw [← hx] at hrw sp1
        have hxk : x.length = k := by rw [hx]; exact HL.out.2.2.symm
        have hesc := dec_esc t w2 hw2
        have ht0 : t ≠ [] := by
          rcases hesc with ⟨n, v, w3, h1, h2, h3, _⟩ | ⟨h1, _⟩
          · intro e; rw [e] at h3; simp at h3; omega
          · exact h1
        have HESC := Lib.hid hesc
        clear hesc
        have htl0 : 0 < t.length := List.length_pos_iff.2 ht0
        have HPUT := Lib.hid ((HD.out.drew 1).put (x := x) (by rw [hxk]; omega))
        have HX : Hid (x.length = k ∧ l = x ++ 92 :: t ∧ rest = x ++ w2 ∧ t.length + 1 = m2) := Lib.hid ⟨hxk, by rw [← ht]; exact sp1, hrw, htl⟩
        have q2 : ((k : Int) == -1) = false := by rw [beq_eq_false_iff_ne]; omega
        have q3 : (C = k) = False := eq_false (by omega)
        have hkC : k ≤ C := by omega
        have Q5 : Hid (decide ((m2 : Int) < 2) = false ∧ (1 : Int) < m2 ∧ 1 < m2 ∧ m2 ≤ C2) := Lib.hid ⟨by simp; omega, by omega, by omega, by omega⟩
        have hak : acc.length + k ≤ N := by omega
        obtain ⟨hq1, hq2, hq3⟩ := HP.out
        have hr1 : p + (k + m2) = N := by omega
        have hr2 : c - p = k + C2 := by omega
        have HAP : Hid (acc.length ≤ p ∧ p + (k + m2) = N ∧ c - p = k + C2) := Lib.hid ⟨hap, hr1, hr2⟩
        clear hq1 hq2 hq3 hr1 hr2
        clear ht0 htl0 hw2 hrw sp1 sp3 ht hx hxk htl hap hp hpN hkm2 hkm3 hm2 hC2
        go_wp2_with (go_at_call 89; refine HI.out.mono ?_; rintro e w' ⟨rfl, rfl⟩)
        go_region_law (refine step_append_room rfl (.tmp 28) (.tmp 31) 34 rfl 5 i0 1 Tryd.underlying34 hi hz1 w.heap.size 0 acc.length N (by simp [Act.eval, Act.put]) ⟨b, p, none⟩ k C (Lib.byteCells x) (by simp [Act.eval, Act.put]) (by rw [HS1.out, HX.out.1]) (HNW.out x ⟨_, HX.out.2.1⟩) (cells_one x) (by omega) (fun j hj => HS3.out j (by rw [HS1.out, HX.out.1] at hj; omega)) ?_)
        generalize hw1 : World.setCells _ _ _ _ = w1
        have hD1 : Dst w w.heap.size N (acc ++ x) w1 := by
          have h9 := HPUT.out
          have e9 : wr.drewN 1 = wr.drew := rfl
          rw [e9] at h9
          first
            | (rw [← hw1]; exact h9)
            | (rw [← hw1, Nat.mul_one, Nat.zero_add]; exact h9)
        have HD1 := Lib.hid hD1
        clear hw1 HPUT HSB HNW HS3 HD
        have hSr1 := hS.below hD1.below hB
        have hLs : l = S.data.toList.drop p := HL.out.1
        have hSz : S.data.toList.length = N := by rw [HN.out]; simp
        obtain ⟨hap, hpm, hcp⟩ := HAP.out
        obtain ⟨hxk, hlx, hrx, htm⟩ := HX.out
        have HAT : Hid (∀ j, j < m2 → w1.cell? ⟨b, p + k + j, none⟩ = some (.int .u8 (at0 (92 :: t) j : Nat))) := Lib.hid <| by
          intro j hj
          have e9 : at0 (92 :: t) j = at0 S.data.toList (p + k + j) := by
            rw [show p + k + j = p + (k + j) by omega, ← at0_drop, ← hLs, hlx, ← hxk]
            unfold at0
            rw [List.getD_eq_getElem?_getD, List.getD_eq_getElem?_getD, List.getElem?_append_right (by omega)]
            congr 3
            omega
          rw [e9]
          exact hSr1 _ (by rw [hSz]; omega)
        have HTD : Hid (∀ i, t.drop i = S.data.toList.drop (p + k + 1 + i)) := Lib.hid <| by
          intro i
          rw [show p + k + 1 + i = p + (k + 1 + i) by omega, ← List.drop_drop, ← hLs, hlx, ← hxk, ← List.drop_drop, ← List.drop_drop]
          rw [List.drop_left]
          rfl
        rw [HM2.out.1, HM2.out.2]
        obtain ⟨hm2C2, hm22, q6, q7⟩ := Q5.out
        obtain ⟨q, hq⟩ : ∃ q, p + k = q := ⟨_, rfl⟩
        obtain ⟨a1, ha1⟩ : ∃ a1, acc.length + k = a1 := ⟨_, rfl⟩
        have hdq : a1 ≤ q ∧ q + m2 = N ∧ c - q = C2 := ⟨by omega, by omega, by omega⟩
        have hW1 : (acc ++ x) ++ w2 = W := by rw [List.append_assoc, ← hrx]; exact HR.out.2.2
        have hal : (acc ++ x).length = a1 := by rw [List.length_append, hxk, ha1]
        rw [hq] at HAT HTD ⊢
        rw [ha1]
        obtain ⟨acc1, hacc1⟩ : ∃ z, acc ++ x = z := ⟨_, rfl⟩
        rw [hacc1] at hD1 HD1 hW1 hal
        have HG : Hid (a1 ≤ q ∧ q + m2 = N ∧ c - q = C2 ∧ acc1 ++ w2 = W ∧ acc1.length = a1 ∧ t.length + 1 = m2 ∧ m2 < N - p + 1) := Lib.hid ⟨hdq.1, hdq.2.1, hdq.2.2, hW1, hal, htm, by omega⟩
        have HMS : Hid (m2 ≤ m) := Lib.hid (by have := HM2.out.1; omega)
        have hc1 := HAT.out 1 q6
        have hc1' : at0 (92 :: t) 1 = at0 t 0 := by simp [at0]
        rw [hc1'] at hc1
        have hT1 := hT.keep hD1.below (Nat.le_refl _)
        clear hD1 hSr1 hLs hSz hap hpm hcp hxk hlx hrx htm HX HAP HM2 HL HP HR Q5 hq ha1 hacc1 hW1 hal hdq hak hkC q3 haN hkm hmC hc1' HI d1
        rcases HESC.out with ⟨n, v, w3, e1, e2, e3, e4, e5, e6, e7, e8, e9, e10⟩ | ⟨e1, e2, e3, w3, e4, e5⟩
        · have hx0 : hexB (at0 t 0) = true := by unfold hexB; simp; exact e6 0 e1
          have HH0 : Hid (∀ w, Calls Tryd.prog 83 #[.int .u8 (at0 t 0 : Nat)] w fun e w' => e = .returned (.bool true) ∧ w = w') := Lib.hid fun w => by
            have := isHex_any (at0 t 0) w
            rw [hx0] at this; exact this
          obtain ⟨c0, hc0⟩ : ∃ c0, at0 t 0 = c0 := ⟨_, rfl⟩
          have HE := Lib.hid (show 0 < n ∧ n ≤ 6 ∧ n ≤ t.length ∧ v = hexFold (t.take n) ∧ v ≤ 1114111 ∧ (∀ i, i < n → digitV (at0 t i) < 16) ∧ (n < 6 → n < t.length → 16 ≤ digitV (at0 t n)) ∧ styleL (t.drop (n + blankSkip (t.drop n))) = some w3 ∧ w2 = codedL (cssChar v) ++ w3 ∧ (codedL (cssChar v)).length ≤ n + 1 from ⟨e1, e2, e3, e4, e5, e6, e7, e8, e9, e10⟩)
          rw [hc0] at hc1 HH0
          have hcs : ∀ j, at0 (92 :: t) (j + 1) = at0 t j := fun j => by simp [at0]
          have HIT : Hid (∀ (j : Nat) (w : World), 2 ≤ j → j ≤ n → Calls Tryd.prog 83 #[.int .u8 (at0 (92 :: t) j : Nat)] w fun e w' => e = .returned (.bool true) ∧ w = w') := Lib.hid <| by
            intro j w h1 h2
            obtain ⟨i, rfl⟩ : ∃ i, j = i + 1 := ⟨j - 1, by omega⟩
            rw [hcs]
            have := isHex_any (at0 t i) w
            rw [show hexB (at0 t i) = true by unfold hexB; simp; exact e6 i (by omega)] at this
            exact this
          have HIF : Hid (n < 6 → n < t.length → ∀ w, Calls Tryd.prog 83 #[.int .u8 (at0 (92 :: t) (n + 1) : Nat)] w fun e w' => e = .returned (.bool false) ∧ w = w') := Lib.hid <| by
            intro h1 h2 w
            rw [hcs]
            have := isHex_any (at0 t n) w
            rw [show hexB (at0 t n) = false by unfold hexB; simp; exact e7 h1 h2] at this
            exact this
          obtain ⟨y, hy⟩ : ∃ y, codedL (cssChar v) = y := ⟨_, rfl⟩
          obtain ⟨yl, hyl⟩ : ∃ yl, y.length = yl := ⟨_, rfl⟩
          rw [hy] at e9 e10
          have hSS : S.data.toList.length = N := by rw [HN.out]; simp
          have htm2 : t.length + 1 = m2 := HG.out.2.2.2.2.2.1
          have hqm : q + m2 = N := HG.out.2.1
          have haq : a1 ≤ q := HG.out.1
          have hSzz : S.size = N := HN.out.symm
          have HHD : Hid (∀ cap, Calls Tryd.prog 90 #[.slice (some ⟨b, q + 1, none⟩) n cap] w1 fun e w' => e = .returned (.int .i32 (v : Int)) ∧ w1 = w') := Lib.hid fun cap => by
            have hTz : (S.extract (q + 1) (q + 1 + n)).size = n := by rw [ByteArray.size_extract]; omega
            have hTl : (S.extract (q + 1) (q + 1 + n)).data.toList = t.take n := by
              have h8 := HTD.out 0
              rw [List.drop_zero, Nat.add_zero] at h8
              rw [Lib.extract_data, ← h8, show q + 1 + n - (q + 1) = n by omega]
            have := hexDecode_any (S.extract (q + 1) (q + 1 + n)) b (q + 1) cap w1 (by rw [hTz]; exact e2) ((hS.below HD1.out.below hB).bytes (q + 1) (q + 1 + n) (by omega) (by omega)) (by
              intro i hi
              rw [hTz] at hi
              rw [get_list _ i, hTl, at0_take _ _ _ hi]
              exact e6 i hi)
            rw [hTz, hTl, ← e4] at this
            exact this
          have hcells : Lib.runeCells (v : Int) = Lib.byteCells y := by rw [runeCells_coded v e5, hy]
          have hclen : (Lib.byteCells y).length = yl := by rw [Lib.byteCells_length, hyl]
          have HENC : Hid (Calls Tryd.prog 91 #[.slice (some ⟨w.heap.size, a1, none⟩) (N - a1) (N - a1), .int .i32 (v : Int)] w1 fun e w' => e = .returned (.int .i64 (yl : Int)) ∧ w' = w1.setCells w.heap.size a1 (Lib.byteCells y)) := Lib.hid <| by
            have := Any7.utf8_EncodeRune Tryd.sev30 w.heap.size a1 (N - a1) (N - a1) (v : Int) (by omega) (by omega) w1 (by rw [hcells, hclen]; omega) (fun j hj => HD1.out.there _ (by rw [hcells, hclen] at hj; omega)) (fun j hj => HD1.out.free _ (by rw [hcells, hclen] at hj; omega))
            rw [hcells, hclen] at this
            exact this
          have HPUT2 : Hid (Dst w w.heap.size N (acc1 ++ y) (w1.setCells w.heap.size a1 (Lib.byteCells y))) := Lib.hid <| by
            have h8 := HD1.out.put (x := y) (by rw [HG.out.2.2.2.2.1, hyl]; omega)
            rwa [HG.out.2.2.2.2.1] at h8
          obtain ⟨A5, hA5, hA52⟩ := slice_to b q m2 C2 (n + 1) (by omega)
          have hsv5 : SrcV b N c (q + (n + 1)) (.slice (some A5) (m2 - (n + 1)) (C2 - (n + 1))) := SrcV.mk (by omega) (fun h => ⟨hA52 (by omega), by have := HG.out.2.2.1; omega⟩)
          obtain ⟨v6, hsv6, hskip⟩ := skip_any b N c (q + (n + 1)) _ (t.drop n) hsv5 (by rw [List.length_drop]; omega) (by omega) (by omega) hc
          obtain ⟨a6, C6, rfl, hv6⟩ := hsv6
          have HSK : Hid (∀ wz : World, Below w.heap.size w wz → Calls Tryd.prog 92 #[.slice (some A5) (m2 - (n + 1)) (C2 - (n + 1))] wz fun e w' => e = .returned (.slice (some a6) (N - (q + (n + 1) + blankSkip (t.drop n))) C6) ∧ w' = wz) := Lib.hid fun wz hz => hskip wz (fun i hi => by
            have h8 := HTD.out n
            rw [h8, at0_drop]
            rw [show q + 1 + n = q + (n + 1) by omega]
            exact (hS.below hz hB) _ (by rw [List.length_drop] at hi; omega))
          have hbs := blankSkip_le (t.drop n)
          rw [List.length_drop] at hbs
          obtain ⟨bs, hbse⟩ : ∃ bs, blankSkip (t.drop n) = bs := ⟨_, rfl⟩
          rw [hbse] at HSK hbs hv6 e8
          have HFIN : Hid (styleL (S.data.toList.drop (q + (n + 1) + bs)) = some w3 ∧ (acc1 ++ y) ++ w3 = W ∧ (acc1 ++ y).length = a1 + yl ∧ a1 + yl ≤ q + (n + 1) + bs ∧ q + (n + 1) + bs ≤ N ∧ N - (q + (n + 1) + bs) < m) := Lib.hid <| by
            refine ⟨?_, ?_, ?_, by omega, by omega, ?_⟩
            · rw [HTD.out, show q + 1 + (n + bs) = q + (n + 1) + bs by omega] at e8
              exact e8
            · rw [List.append_assoc, ← e9]; exact HG.out.2.2.2.1
            · rw [List.length_append, HG.out.2.2.2.2.1, hyl]
            · have h8 := HMS.out
              omega
          have HV6 := Lib.hid hv6
          have HN3 : Hid (n + 1 = m2 ∨ (n + 1 < m2 ∧ n = 6) ∨ (n + 1 < m2 ∧ n < 6)) := Lib.hid (by omega)
          have hn1 : 1 ≤ n := e1
          have hn6 : n ≤ 6 := e2
          have hnm : n + 1 ≤ m2 := by omega
          have j1 : IntKind.i64.wrap ((a1 : Int) + yl) = (a1 : Int) + yl := IntWalk.i64_in _ (by omega)
          have j2 : (0 : Int) ≤ (a1 : Int) + yl := by omega
          have j3 : ((a1 : Int) + yl).toNat = a1 + yl := by omega
          have j4 : (a1 : Int) + yl ≤ N := by omega
          have j5 : decide ((1114111 : Int) < v) = false := by simp; omega
          have j6 : (N = a1) = False := eq_false (by omega)
          have j7 : a1 ≤ N := by omega
          have j8 : (n : Int) + 1 ≤ m2 := by omega
          have J := Lib.hid (And.intro j1 (And.intro j2 (And.intro j3 (And.intro j4 (And.intro j5 (And.intro j6 (And.intro j7 j8)))))))
          clear j1 j2 j3 j4 j5 j6 j7 j8 hbs hv6 hskip hsv5 hA52 hcells hclen hy hyl hSS htm2 hqm haq hSzz hcs hbse
          clear e1 e2 e3 e4 e5 e6 e7 e8 e9 e10 hx0 hc0 HESC
          go_wp2_with (go_at_call 83; refine (HH0.out _).mono ?_; rintro e w' ⟨rfl, rfl⟩)
          go_loop [6] (fun s6 => ∃ j : Nat, s6 = .int .i64 j ∧ 2 ≤ j ∧ j ≤ n + 1) (fun s6 => n + 2 - (intOf s6).toNat)
          case atStart => exact ⟨2, rfl, by omega, by omega⟩
          case round =>
            obtain ⟨j, rfl, hj2, hjn⟩ := hrel
            rcases Nat.lt_or_ge n j with hjx | hjx
            · obtain rfl : j = n + 1 := by omega
              rcases HN3.out with h3 | ⟨h3, h4⟩ | ⟨h3, h4⟩
              · have g1 : decide ((n : Int) + 1 < m2) = false := by simp; omega
                clear h3 hn1 hn6 hj2 hjn hjx
                obtain ⟨j1, j2, j3, j4, j5, j6, j7, j8⟩ := J.out
                go_wp2_with (first
                  | (go_at_call 90; refine (HHD.out _).mono ?_; rintro e w' ⟨rfl, rfl⟩)
                  | (go_at_call 91; refine HENC.out.mono ?_; rintro e w3' ⟨rfl, hwe⟩; have HD2 : Dst w w.heap.size N (acc1 ++ y) w3' := hwe ▸ HPUT2.out; have HD3 := Lib.hid HD2; clear hwe HD2))
                go_quiet ((go_at_call 92; exact Calls.quiet_of_same (HSK.out _ (by first | exact HD3.out.below | exact (HD3.out.drew 1).below | exact (HD3.out.drew _).below))))
                go_wp2_with fail
                go_roundw
                case rel =>
                  obtain ⟨r1, r2, r3, r4, r5, r6⟩ := HFIN.out
                  exact ⟨_, acc1 ++ y, w3, ⟨a6, C6, rfl, HV6.out⟩, by rw [r3], r5, HD3.out.drew _, Lib.hid ⟨by rw [r3]; exact r4, r1, r2⟩⟩
                case measure =>
                  obtain ⟨r1, r2, r3, r4, r5, r6⟩ := HFIN.out
                  exact r6
              · have g1 : decide ((n : Int) + 1 < m2) = true := by simp; omega
                have g2 : decide ((n : Int) + 1 < 7) = false := by simp; omega
                clear h3 h4 hn1 hn6 hj2 hjn hjx
                obtain ⟨j1, j2, j3, j4, j5, j6, j7, j8⟩ := J.out
                go_wp2_with (first
                  | (go_at_call 90; refine (HHD.out _).mono ?_; rintro e w' ⟨rfl, rfl⟩)
                  | (go_at_call 91; refine HENC.out.mono ?_; rintro e w3' ⟨rfl, hwe⟩; have HD2 : Dst w w.heap.size N (acc1 ++ y) w3' := hwe ▸ HPUT2.out; have HD3 := Lib.hid HD2; clear hwe HD2))
                go_quiet ((go_at_call 92; exact Calls.quiet_of_same (HSK.out _ (by first | exact HD3.out.below | exact (HD3.out.drew 1).below | exact (HD3.out.drew _).below))))
                go_wp2_with fail
                go_roundw
                case rel =>
                  obtain ⟨r1, r2, r3, r4, r5, r6⟩ := HFIN.out
                  exact ⟨_, acc1 ++ y, w3, ⟨a6, C6, rfl, HV6.out⟩, by rw [r3], r5, HD3.out.drew _, Lib.hid ⟨by rw [r3]; exact r4, r1, r2⟩⟩
                case measure =>
                  obtain ⟨r1, r2, r3, r4, r5, r6⟩ := HFIN.out
                  exact r6
              · have g1 : (n : Int) + 1 < m2 := by omega
                have g2 : decide ((n : Int) + 1 < 7) = true := by simp; omega
                have hcj := HAT.out (n + 1) h3
                have HIFn := Lib.hid (HIF.out h4 (by have := HG.out.2.2.2.2.2.1; omega))
                obtain ⟨cj, hcje⟩ : ∃ cj, at0 (92 :: t) (n + 1) = cj := ⟨_, rfl⟩
                rw [hcje] at hcj HIFn
                clear h3 h4 hn1 hn6 hj2 hjn hjx hcje
                obtain ⟨j1, j2, j3, j4, j5, j6, j7, j8⟩ := J.out
                go_wp2_with (first
                  | (go_at_call 83; refine (HIFn.out _).mono ?_; rintro e w' ⟨rfl, rfl⟩)
                  | (go_at_call 90; refine (HHD.out _).mono ?_; rintro e w' ⟨rfl, rfl⟩)
                  | (go_at_call 91; refine HENC.out.mono ?_; rintro e w3' ⟨rfl, hwe⟩; have HD2 : Dst w w.heap.size N (acc1 ++ y) w3' := hwe ▸ HPUT2.out; have HD3 := Lib.hid HD2; clear hwe HD2))
                go_quiet ((go_at_call 92; exact Calls.quiet_of_same (HSK.out _ (by first | exact HD3.out.below | exact (HD3.out.drew 1).below | exact (HD3.out.drew _).below))))
                go_wp2_with fail
                go_roundw
                case rel =>
                  obtain ⟨r1, r2, r3, r4, r5, r6⟩ := HFIN.out
                  exact ⟨_, acc1 ++ y, w3, ⟨a6, C6, rfl, HV6.out⟩, by rw [r3], r5, HD3.out.drew _, Lib.hid ⟨by rw [r3]; exact r4, r1, r2⟩⟩
                case measure =>
                  obtain ⟨r1, r2, r3, r4, r5, r6⟩ := HFIN.out
                  exact r6
            · have hcj := HAT.out j (by omega)
              have HITj := Lib.hid (fun w => HIT.out j w hj2 hjx)
              obtain ⟨cj, hcje⟩ : ∃ cj, at0 (92 :: t) j = cj := ⟨_, rfl⟩
              rw [hcje] at hcj HITj
              have f1 : (j : Int) < m2 := by omega
              have f2 : decide ((j : Int) < 7) = true := by simp; omega
              have f3 : (j : Int) ≤ 6 := by omega
              have HJ := Lib.hid (show 2 ≤ j ∧ j ≤ n from ⟨hj2, hjx⟩)
              clear hcje hj2 hjn hjx hn1 hn6 hnm
              go_wp2_with (go_at_call 83; refine (HITj.out _).mono ?_; rintro e w' ⟨rfl, rfl⟩)
              go_round
              case rel =>
                obtain ⟨g1, g2⟩ := HJ.out
                exact ⟨j + 1, by go_num, by omega, by omega⟩
              case measure =>
                obtain ⟨g1, g2⟩ := HJ.out
                simp [intOf]; omega
        · have hx0 : hexB (at0 t 0) = false := by unfold hexB; simp; exact e2
          have HH0 : Hid (∀ w, Calls Tryd.prog 83 #[.int .u8 (at0 t 0 : Nat)] w fun e w' => e = .returned (.bool false) ∧ w = w') := Lib.hid fun w => by
            have := isHex_any (at0 t 0) w
            rw [hx0] at this; exact this
          obtain ⟨c0, hc0⟩ : ∃ c0, at0 t 0 = c0 := ⟨_, rfl⟩
          rw [hc0] at hc1 HH0
          obtain ⟨z, hz⟩ : ∃ z, sizeL t = z := ⟨_, rfl⟩
          have hzt : z ≤ t.length := by rw [← hz]; exact sizeL_le t e1
          have hdec : (decL t).2 = z := by rw [size_dec t (by omega), hz]
          rw [hz] at e3 e4 e5
          obtain ⟨y, hy⟩ : ∃ y, t.take z = y := ⟨_, rfl⟩
          have hyl : y.length = z := by rw [← hy, List.length_take]; omega
          rw [hy] at e5
          have hSS : S.data.toList.length = N := by rw [HN.out]; simp
          have htm2 : t.length + 1 = m2 := HG.out.2.2.2.2.2.1
          have hqm : q + m2 = N := HG.out.2.1
          have haq : a1 ≤ q := HG.out.1
          have hSzz : S.size = N := HN.out.symm
          have ht1 : t = S.data.toList.drop (q + 1) := by
            have h8 := HTD.out 0
            rwa [List.drop_zero, Nat.add_zero] at h8
          obtain ⟨r, hr⟩ : ∃ r, (decL t).1 = r := ⟨_, rfl⟩
          have HDEC : Hid (Calls Tryd.prog 93 #[.slice (some ⟨b, q + 1, none⟩) (m2 - 1) (C2 - 1)] w1 fun e w' => e = .returned (.tuple #[.int .i32 (r : Int), .int .i64 (z : Int)]) ∧ Below w1.heap.size w1 w') := Lib.hid <| by
            have hTz : (S.extract (q + 1) S.size).size = m2 - 1 := by rw [ByteArray.size_extract]; omega
            have := Any7.utf8_DecodeRune Tryd.sev32 (S.extract (q + 1) S.size) b (q + 1) (C2 - 1) w1 hT1 (fun j hj => by
              rw [hTz] at hj
              have h7 := get!_at0 (S.extract (q + 1) S.size) 0 j (by omega)
              rw [Nat.zero_add, List.drop_zero, extract_end, at0_drop] at h7
              rw [h7]
              exact (hS.below HD1.out.below hB) _ (by omega))
            rw [decodeGo_at S (q + 1) (by omega), ← ht1, hTz, hdec, hr] at this
            exact this
          have HNWF : Hid (∀ wz : World, Below w.heap.size w wz → ∀ j u, (Lib.byteCells y)[j]? = some u → wz.cell? ((⟨b, q + 1, none⟩ : Addr).add j) = some u) := Lib.hid <| by
            intro wz hbz j u hu
            have hj : j < z := by
              have := (List.getElem?_eq_some_iff.1 hu).1
              rwa [Lib.byteCells_length, hyl] at this
            rw [Addr.add_lit]
            have hjt : j < t.length := by omega
            rw [(hS.below hbz hB) _ (by omega)]
            unfold Lib.byteCells at hu
            rw [List.getElem?_map, List.getElem?_eq_getElem (by omega)] at hu
            rw [← Option.some.inj hu, ← at0_drop, ← ht1]
            congr 3
            unfold at0
            rw [List.getD_eq_getElem?_getD, List.getElem?_eq_getElem hjt]
            simp [← hy]
          have HSP : Hid (∀ wz : World, Dst w w.heap.size N acc1 wz → ∀ j, j < (Lib.byteCells y).length → (wz.drew.cell? ⟨w.heap.size, 0 + a1 * 1 + j, none⟩).isSome = true ∧ wz.drew.frozen? ⟨w.heap.size, 0 + a1 * 1 + j, none⟩ = false) := Lib.hid <| by
            intro wz hd j hj
            rw [Lib.byteCells_length, hyl] at hj
            rw [Nat.mul_one, Nat.zero_add]
            exact ⟨hd.there _ (by omega), hd.free _ (by omega)⟩
          have HPUTF : Hid (∀ wz : World, Dst w w.heap.size N acc1 wz → Dst w w.heap.size N (acc1 ++ y) (wz.drew.setCells w.heap.size (0 + a1 * 1) (Lib.byteCells y))) := Lib.hid <| by
            intro wz hd
            have h8 := (hd.drew 1).put (x := y) (by rw [HG.out.2.2.2.2.1, hyl]; omega)
            rw [HG.out.2.2.2.2.1] at h8
            rw [Nat.mul_one, Nat.zero_add]
            exact h8
          obtain ⟨A7, hA7, hA72⟩ := slice_to b q m2 C2 (1 + z) (by omega)
          have HFIN : Hid (SrcV b N c (q + (1 + z)) (.slice (some A7) (m2 - (1 + z)) (C2 - (1 + z))) ∧ styleL (S.data.toList.drop (q + (1 + z))) = some w3 ∧ (acc1 ++ y) ++ w3 = W ∧ (acc1 ++ y).length = a1 + z ∧ a1 + z ≤ q + (1 + z) ∧ q + (1 + z) ≤ N ∧ m2 - (1 + z) < m) := Lib.hid <| by
            refine ⟨SrcV.mk (by omega) (fun h => ⟨hA72 (by omega), by have := HG.out.2.2.1; omega⟩), ?_, ?_, ?_, by omega, by omega, ?_⟩
            · rw [HTD.out, show q + 1 + z = q + (1 + z) by omega] at e4
              exact e4
            · rw [List.append_assoc, ← e5]; exact HG.out.2.2.2.1
            · rw [List.length_append, HG.out.2.2.2.2.1, hyl]
            · have h8 := HMS.out
              omega
          have HYL := Lib.hid (show (Lib.byteCells y).length = z * 1 by rw [Lib.byteCells_length, hyl, Nat.mul_one])
          have j1 : IntKind.i64.wrap (1 + (z : Int)) = 1 + (z : Int) := IntWalk.i64_in _ (by omega)
          have j2 : (0 : Int) ≤ 1 + (z : Int) := by omega
          have j3 : (1 + (z : Int)).toNat = 1 + z := by omega
          have j4 : 1 + (z : Int) ≤ m2 := by omega
          have j5 : 1 + z ≤ C2 := by omega
          have j6 : 1 + (z : Int) ≤ C2 := by omega
          have hroom : a1 + z ≤ N := by omega
          have HRM := Lib.hid hroom
          have k1 : (1 : Int) ≤ 1 + (z : Int) := by omega
          have k2 : (C2 = 1) = False := eq_false (by omega)
          clear e1 e2 e3 e4 e5 hx0 hc0 hz hzt hdec hy hyl hSS htm2 hqm haq hSzz ht1 hr hA72 hroom HESC
          go_wp2_with (first
            | (go_at_call 83; refine (HH0.out _).mono ?_; rintro e w' ⟨rfl, rfl⟩)
            | (go_at_call 93; refine HDEC.out.mono ?_; rintro e w3' ⟨rfl, hb3⟩; have HD3 := Lib.hid (HD1.out.keep hb3); clear hb3))
          go_region_law (refine step_append_room rfl (.tmp 94) (.tmp 98) 34 rfl 5 i0 1 Tryd.underlying34 hi hz1 w.heap.size 0 a1 N (by simp [Act.eval, Act.put]) ⟨b, q + 1, none⟩ z (C2 - 1) (Lib.byteCells y) (by simp [Act.eval, Act.put]) HYL.out (HNWF.out w3' HD3.out.below) (cells_one y) HRM.out (HSP.out w3' HD3.out) ?_)
          generalize hw2 : World.setCells _ _ _ _ = w4
          have hD4 : Dst w w.heap.size N (acc1 ++ y) w4 := by
            have h9 := HPUTF.out w3' HD3.out
            first
              | (rw [← hw2]; exact h9)
              | (rw [Nat.mul_one, Nat.zero_add] at h9; rw [← hw2]; exact h9)
          have HD4 := Lib.hid hD4
          clear hw2 hD4
          simp only [List.getElem_toArray, List.getElem_cons_succ, List.getElem_cons_zero]
          go_frame
          go_wp2
          go_roundw
          case rel =>
            obtain ⟨r1, r2, r3, r4, r5, r6, r7⟩ := HFIN.out
            exact ⟨_, acc1 ++ y, w3, r1, by rw [r4], r6, HD4.out, Lib.hid ⟨by rw [r4]; exact r5, r2, r3⟩⟩
          case measure =>
            obtain ⟨r1, r2, r3, r4, r5, r6, r7⟩ := HFIN.out
            exact r7
    · obtain ⟨a, C', rfl, _⟩ := hsv
      have HF : Hid (acc = W) := Lib.hid <| by
        have h1 := HR.out.2.1
        rw [List.drop_of_length_le (by have := HN.out; simp; have e2 : S.data.size = S.size := rfl; omega), styleL_nil] at h1
        have h2 := HR.out.2.2
        rw [← Option.some.inj h1, List.append_nil] at h2
        exact h2
      have e0 : N - p = 0 := by omega
      rw [e0]
      go_wp2
      go_ret
      have e9 : Value.slice (some ⟨w.heap.size, 0, none⟩) acc.length N = .slice (some ⟨w.heap.size, 0, none⟩) W.length N := by rw [HF.out]
      exact ⟨congrArg Ending.returned e9, HF.out ▸ HD.out⟩
end Go.Proofs.YtigobehhmodoiaaDoor
