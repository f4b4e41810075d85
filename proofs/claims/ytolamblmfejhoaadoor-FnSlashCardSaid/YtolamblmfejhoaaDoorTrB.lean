/- bytes.containsRune of the blanks of ECMAScript, at ASCII characters. -/
import Derived.Test.YtolamblmfejhoaaDoorMem
import Derived.Test.YtolamblmfejhoaaDoorLawT
import Derived.LoopTactic
import Derived.Laws.RangeAny
import Derived.Laws.RangeString
namespace Go.Proofs.YtolamblmfejhoaaDoor
open Go.RowKit
set_option linter.unusedVariables false
set_option linter.unusedSimpArgs false

/-- The blanks of ECMAScript, as the package spells them. -/
def wsL : Bytes := [12, 10, 13, 9, 11, 32, 194, 160, 225, 154, 128, 226, 128, 128, 226, 128, 129, 226, 128, 130, 226, 128, 131, 226, 128, 132, 226, 128, 133, 226, 128, 134, 226, 128, 135, 226, 128, 136, 226, 128, 137, 226, 128, 138, 226, 128, 168, 226, 128, 169, 226, 128, 175, 226, 129, 159, 227, 128, 128, 239, 187, 191]
def wsC : ByteArray := ⟨#[12, 10, 13, 9, 11, 32, 194, 160, 225, 154, 128, 226, 128, 128, 226, 128, 129, 226, 128, 130, 226, 128, 131, 226, 128, 132, 226, 128, 133, 226, 128, 134, 226, 128, 135, 226, 128, 136, 226, 128, 137, 226, 128, 138, 226, 128, 168, 226, 128, 169, 226, 128, 175, 226, 129, 159, 227, 128, 128, 239, 187, 191]⟩
/-- Where its characters begin. -/
def wsP : List Nat := [0, 1, 2, 3, 4, 5, 6, 8, 11, 14, 17, 20, 23, 26, 29, 32, 35, 38, 41, 44, 47, 50, 53, 56, 59, 62]
/-- At each of these places: the character and its width, and that its bytes are this character alone, or none of ASCII. -/
def wsOk (p : Nat) : Bool := p == wsL.length || (wsP.contains (p + (decL (wsL.drop p)).2) && (decide (p + (decL (wsL.drop p)).2 ≤ wsL.length)) && decide (1 ≤ (decL (wsL.drop p)).2) &&
  ((decide ((decL (wsL.drop p)).1 < 128) && ((wsL.drop p).take (decL (wsL.drop p)).2).all fun b => b.toNat == (decL (wsL.drop p)).1) || (decide (128 ≤ (decL (wsL.drop p)).1) && ((wsL.drop p).take (decL (wsL.drop p)).2).all fun b => decide (128 ≤ b.toNat))))
theorem ws_all : wsP.all wsOk = true := by decide +kernel
theorem ws_blank : (List.range 128).all (fun r => hasB wsL r == blankJ r) = true := by decide +kernel
theorem ws_step (p r d : Nat) (hp : p ∈ wsP) (hlt : p < wsC.size) (hd : Utf8.decode wsC p = (r, d)) (c : Nat) (hc : c < 128) (hn : c ≠ r) (hz : hasB (wsL.take p) c = false) : p + d ∈ wsP ∧ p + d ≤ wsC.size ∧ 1 ≤ d ∧ hasB (wsL.take (p + d)) c = false := by
  have hsz : wsC.size = wsL.length := rfl
  rw [decode_at0 wsC p (by omega)] at hd
  have hd' : decL (wsL.drop p) = (r, d) := hd
  have h := List.all_eq_true.1 ws_all p hp
  unfold wsOk at h
  rw [hd'] at h
  have hne : (p == wsL.length) = false := by rw [beq_eq_false_iff_ne]; omega
  rw [hne, Bool.false_or] at h
  simp only [Bool.and_eq_true, Bool.or_eq_true, decide_eq_true_eq, List.contains_iff_mem, List.all_eq_true, beq_iff_eq] at h
  obtain ⟨⟨⟨h1, h2⟩, h3⟩, h4⟩ := h
  refine ⟨h1, by omega, h3, ?_⟩
  rw [List.take_add]
  unfold hasB at hz ⊢
  rw [List.any_append, hz, Bool.false_or]
  rw [List.any_eq_false]
  intro x hx
  rw [beq_iff_eq]
  rcases h4 with ⟨_, h5⟩ | ⟨_, h5⟩
  · have := h5 x hx; omega
  · have := h5 x hx; omega
theorem ws_end (c : Nat) (hc : c < 128) (p : Nat) (hp : ¬ p < wsC.size) (hz : hasB (wsL.take p) c = false) : blankJ c = false := by
  have hsz : wsC.size = wsL.length := rfl
  rw [List.take_of_length_le (by omega)] at hz
  have := List.all_eq_true.1 ws_blank c (List.mem_range.2 hc)
  rw [beq_iff_eq, hz] at this
  exact this.symm
theorem ws_hit (p d c : Nat) (hp : p ∈ wsP) (hlt : p < wsC.size) (hd : Utf8.decode wsC p = (c, d)) (hc : c < 128) : blankJ c = true := by
  have hsz : wsC.size = wsL.length := rfl
  rw [decode_at0 wsC p (by omega)] at hd
  have hd' : decL (wsL.drop p) = (c, d) := hd
  have h := List.all_eq_true.1 ws_all p hp
  unfold wsOk at h
  rw [hd'] at h
  have hne : (p == wsL.length) = false := by rw [beq_eq_false_iff_ne]; omega
  rw [hne, Bool.false_or] at h
  simp only [Bool.and_eq_true, Bool.or_eq_true, decide_eq_true_eq, List.contains_iff_mem, List.all_eq_true, beq_iff_eq] at h
  obtain ⟨⟨⟨h1, h2⟩, h3⟩, h4⟩ := h
  have h6 := List.all_eq_true.1 ws_blank c (List.mem_range.2 hc)
  rw [beq_iff_eq] at h6
  rw [← h6]
  unfold hasB
  rw [List.any_eq_true]
  rcases h4 with ⟨_, h5⟩ | ⟨h7, _⟩
  · have hl : p < wsL.length := by omega
    refine ⟨wsL[p], List.getElem_mem hl, ?_⟩
    rw [beq_iff_eq]
    refine h5 _ ?_
    rw [List.drop_eq_getElem_cons hl]
    obtain ⟨d', rfl⟩ : ∃ d', d = d' + 1 := ⟨d - 1, by omega⟩
    rw [List.take_succ_cons]
    exact List.mem_cons_self ..
  · omega

set_option maxRecDepth 100000 in
set_option maxHeartbeats 1000000 in
theorem containsRune_ws (c : Nat) (hc : c < 128) (w : World) : Calls Tryd.prog 68 #[.string wsC, .int .i32 c] w fun e w' => e = .returned (.bool (blankJ c)) ∧ Below w.heap.size w w' := by
  obtain ⟨C, hC⟩ : ∃ C, wsC = C := ⟨_, rfl⟩
  have HS := Lib.hid (fun p r d hp hlt hd => ws_step p r d hp hlt hd c hc)
  have HE := Lib.hid (ws_end c hc)
  have HH := Lib.hid (fun p d hp hlt hd => ws_hit p d c hp hlt hd hc)
  rw [hC] at HS HE HH ⊢
  clear hC
  go_enter Tryd.func68, Tryd.ntmps68
  go_wp2
  go_loopw [] (fun wx => ∃ p : Nat, wx = w.iter C p ∧ Hid (p ∈ wsP ∧ hasB (wsL.take p) c = false)) (fun wx => C.size - wx.iterPos w.heap.size)
  case atStart => exact ⟨0, rfl, Lib.hid ⟨by decide, rfl⟩⟩
  case round =>
    obtain ⟨p, rfl, hI⟩ := hrel
    by_cases hlt : p < C.size
    · obtain ⟨r, d, hdec⟩ : ∃ r d, Utf8.decode C p = (r, d) := ⟨_, _, rfl⟩
      have hnx : ∀ ty, (Instr.next (.pointer (some ⟨w.heap.size, 0, none⟩)) true ty).run Tryd.prog (w.iter C p) = .ok (.tuple #[.bool true, .int .i64 p, .int .i32 r]) (w.iter C (p + d)) := fun ty => by
        have := run_next_any (P := Tryd.prog) w C p ty hlt
        rwa [hdec] at this
      by_cases hr : r = c
      · subst hr
        have hb := HH.out p d hI.out.1 hlt hdec
        clear HS HE hdec
        go_wp2
        go_ret
        exact ⟨ret_bool hb.symm, (Below.refl _ w).alloc (Nat.le_refl _) _⟩
      · have hn : ((r : Int) == (c : Int)) = false := beq_eq_false_iff_ne.2 (by omega)
        obtain ⟨s1, s2, s3, s4⟩ := HS.out p r d hI.out.1 hlt hdec (Ne.symm hr) hI.out.2
        have HI2 := Lib.hid (And.intro s1 s4)
        have HM : Hid (C.size - (w.iter C (p + d)).iterPos w.heap.size < C.size - (w.iter C p).iterPos w.heap.size) := Lib.hid (by rw [World.iterPos_iter, World.iterPos_iter]; omega)
        clear hdec s1 s2 s3 s4 hI
        go_wp2
        go_roundw
        case rel => exact ⟨p + d, rfl, HI2⟩
        case measure => exact HM.out
    · have hnx : ∀ ty, (Instr.next (.pointer (some ⟨w.heap.size, 0, none⟩)) true ty).run Tryd.prog (w.iter C p) = _ := fun ty => run_next_end w C p ty hlt
      have hb := HE.out p hlt hI.out.2
      go_wp2
      go_ret
      exact ⟨ret_bool hb.symm, (Below.refl _ w).alloc (Nat.le_refl _) _⟩
end Go.Proofs.YtolamblmfejhoaaDoor
