/- bytes.TrimRight of the blanks of ECMAScript, at ASCII bytes. -/
import Derived.Test.YtolamblmfejhoaaDoorTrA
import Derived.Test.YtolamblmfejhoaaDoorTrB
import Derived.Lib.SlBytesRow
namespace Go.Proofs.YtolamblmfejhoaaDoor
open Go.RowKit
set_option linter.unusedVariables false
set_option linter.unusedSimpArgs false

def Ascii (S : ByteArray) : Prop := ∀ i (h : i < S.size), S[i].toNat < 128
/-- The bytes of S lie in block b. -/
def By (b : Nat) (S : ByteArray) (w : World) : Prop := b < w.heap.size ∧ ∀ i (h : i < S.size), w.cell? ⟨b, i, none⟩ = some (.int .u8 (S[i].toNat : Int))
theorem By.keep {b B : Nat} {S : ByteArray} {w w' : World} (h : By b S w) (k : Below B w w') (hB : b < B) : By b S w' :=
  ⟨Nat.lt_of_lt_of_le h.1 k.size, fun i hi => (k.cell (p := ⟨b, i, none⟩) hB).trans (h.2 i hi)⟩
theorem By.below {b : Nat} {S : ByteArray} {w w' : World} (h : By b S w) (k : Below w.heap.size w w') : By b S w' := h.keep k h.1

set_option maxRecDepth 100000 in
set_option maxHeartbeats 1000000 in
theorem trimUni_any (b n cap : Nat) (S : ByteArray) (w : World) (hB : By b S w) (hA : Ascii S) (hn : n ≤ S.size) (hz : (S.size : Int) ≤ 17179869184) (hcap : n ≤ cap) :
    Calls Tryd.prog 59 #[.slice (some ⟨b, 0, none⟩) n cap, .string wsC] w fun e w' => e = .returned (.slice (some ⟨b, 0, none⟩) (back blankJ S.data.toList n) cap) ∧ Below w.heap.size w w' := by
  obtain ⟨C, hC⟩ : ∃ C, wsC = C := ⟨_, rfl⟩
  have HC : Hid (∀ (c : Nat) (hc : c < 128) (w : World), Calls Tryd.prog 68 #[.string C, .int .i32 c] w fun e w' => e = .returned (.bool (blankJ c)) ∧ Below w.heap.size w w') := Lib.hid (by rw [← hC]; exact containsRune_ws)
  rw [hC]
  clear hC
  have HB := Lib.hid hB
  have HA := Lib.hid hA
  clear hB hA
  go_enter Tryd.func59, Tryd.ntmps59
  go_wp2
  go_loopg [0] n (fun g s0 wx => Below w.heap.size w wx ∧ g ≤ n ∧ s0 = .slice (some ⟨b, 0, none⟩) g cap ∧ Hid (back blankJ S.data.toList g = back blankJ S.data.toList n))
  case atStart => exact ⟨Below.refl _ _, Nat.le_refl _, rfl, Lib.hid rfl⟩
  case round =>
    obtain ⟨hb, hg, rfl, hI⟩ := hrel
    cases gk with
    | zero =>
      go_wp2
      go_ret
      have h0 : back blankJ S.data.toList n = 0 := hI.out.symm
      exact ⟨by rw [h0]; rfl, hb⟩
    | succ g =>
      have hgs : g < S.size := by omega
      have hcl := (HB.out.keep hb HB.out.1).2 g hgs
      obtain ⟨c, hc⟩ : ∃ c, S[g].toNat = c := ⟨_, rfl⟩
      have hc1 := HA.out g hgs
      rw [hc] at hcl hc1
      have hc2 : ¬ ((128 : Int) ≤ (c : Int)) := by omega
      have HCC := Lib.hid (HC.out c hc1 wr)
      have e1 : ((g + 1 : Nat) : Int) - 1 = (g : Int) := by omega
      have hat : at0 S.data.toList g = c := by rw [at0_get S g hgs, hc]
      have HI := hI.out
      obtain ⟨bl, hbl⟩ : ∃ bl, blankJ c = bl := ⟨_, rfl⟩
      rw [hbl] at HCC
      cases bl with
      | true =>
        rw [back_step blankJ _ g (by rw [hat]; exact hbl)] at HI
        have HJ := Lib.hid HI
        clear HI hat hbl hI hc
        go_wp2_with (go_at_call 68; refine HCC.out.mono ?_; rintro e w1 ⟨rfl, hb1⟩)
        go_roundg g
        case measure => omega
        case rel => exact ⟨hb.trans (hb1.mono hb.size), by omega, by first | rfl | simp, HJ⟩
      | false =>
        rw [back_here blankJ _ (g + 1) (fun _ => by rw [Nat.add_sub_cancel, hat]; exact hbl)] at HI
        have HJ := Lib.hid HI
        clear HI hat hbl hI hc
        go_wp2_with (go_at_call 68; refine HCC.out.mono ?_; rintro e w1 ⟨rfl, hb1⟩)
        go_ret
        exact ⟨by rw [← HJ.out]; rfl, hb.trans (hb1.mono hb.size)⟩

theorem ws_set (w : World) : ∃ A : Array Value, A.size = 256 ∧ A.all (·.oneCell') = true ∧ Calls Tryd.prog 57 #[.string wsC] w fun e w' => e = .returned (.tuple #[.agg A, .bool false]) ∧ w' = w.alloc (.cells A 68) := by
  refine ⟨_, Lib.setCells_size _, Lib.setCells_one _, asciiSet_no wsC 6 (by decide) (by decide) ?_ (by decide) w⟩
  intro j hj
  have h : ∀ j, j < 6 → at0 wsL j < 128 := by decide
  have h2 := at0_get wsC j (Nat.lt_trans hj (by decide))
  rw [← h2]
  exact h j hj

set_option maxRecDepth 100000 in
set_option maxHeartbeats 1000000 in
theorem trimRight_any (b n cap : Nat) (S : ByteArray) (w : World) (hB : By b S w) (hA : Ascii S) (hn : n ≤ S.size) (hz : (S.size : Int) ≤ 17179869184) (hcap : n ≤ cap) :
    Calls Tryd.prog 40 #[.slice (some ⟨b, 0, none⟩) n cap, .string wsC] w fun e w' => e = .returned (.slice (some ⟨b, 0, none⟩) (back blankJ S.data.toList n) cap) ∧ Below w.heap.size w w' := by
  have HB := Lib.hid hB
  have HA := Lib.hid hA
  clear hB hA
  by_cases h0 : n = 0
  · subst h0
    obtain ⟨C, hC⟩ : ∃ C, wsC = C := ⟨_, rfl⟩
    rw [hC]
    clear hC
    go_enter Tryd.func40, Tryd.ntmps40
    go_wp2
    go_ret
    exact ⟨rfl, Below.refl _ _⟩
  · obtain ⟨A, a1, a2, a3⟩ := ws_set w
    have HSET := Lib.hid a3
    have hsc := run_storeCells_new (P := Tryd.prog) (w.alloc (.cells A 68)) 68 Tryd.zeroCells68 A (by rw [a1]; kernel_rfl) (by rw [a1]; kernel_rfl) a2
    rw [show (w.alloc (.cells A 68)).heap.size = w.heap.size + 1 from Array.size_push ..] at hsc
    have HSC := Lib.hid hsc
    clear hsc
    have hb2 : Below w.heap.size w ((w.alloc (.cells A 68)).alloc (.cells A 68)) := ((Below.refl _ w).alloc (Nat.le_refl _) _).alloc ((Below.refl _ w).alloc (Nat.le_refl _) (.cells A 68)).size _
    have HT : Hid (∀ w2, Below w.heap.size w w2 → Calls Tryd.prog 59 #[.slice (some ⟨b, 0, none⟩) n cap, .string wsC] w2 fun e w' => e = .returned (.slice (some ⟨b, 0, none⟩) (back blankJ S.data.toList n) cap) ∧ Below w2.heap.size w2 w') := Lib.hid fun w2 h => trimUni_any b n cap S w2 (HB.out.below h) HA.out hn hz hcap
    obtain ⟨C, hC⟩ : ∃ C, wsC = C := ⟨_, rfl⟩
    have hcz : C.size = 62 := by rw [← hC]; rfl
    obtain ⟨c1, c2, c3⟩ := list_ne C 12 (wsL.drop 1) (by rw [← hC]; rfl)
    rw [hC] at HSET HT
    rw [hC]
    clear hC a2 a3 c3
    go_enter Tryd.func40, Tryd.ntmps40
    go_wp2_with (go_at_call 57; refine HSET.out.mono ?_; rintro e w1 ⟨rfl, rfl⟩)
    rw [HSC.out]
    simp only [Result.andThen]
    rw [Oper.upon_skip]
    go_wp2_with (go_at_call 59; refine (HT.out _ hb2).mono ?_; rintro e w2 ⟨rfl, hb3⟩)
    go_ret
    exact ⟨rfl, hb2.trans (hb3.mono hb2.size)⟩
end Go.Proofs.YtolamblmfejhoaaDoor
