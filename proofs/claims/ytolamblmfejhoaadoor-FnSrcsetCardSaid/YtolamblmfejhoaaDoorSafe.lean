/- isSafeURL, urlFilter, Filtered: over what strings.EqualFold answers (FoldOk). -/
import Derived.Test.YtolamblmfejhoaaDoorLawF2
import Derived.Test.YtolamblmfejhoaaDoorCut
import Derived.Test.YtolamblmfejhoaaDoorCont
namespace Go.Proofs.YtolamblmfejhoaaDoor
open Go.RowKit
set_option linter.unusedVariables false
set_option linter.unusedSimpArgs false

def OneFold (w : World) (p : ByteArray) (t : Bytes) : Prop := ∀ w', Below w.heap.size w w' → Calls Tryd.prog 46 #[.string p, .string ⟨t.toArray⟩] w' fun e w'' => e = .returned (.bool (foldL p.data.toList t)) ∧ Below w'.heap.size w' w''
/-- strings.EqualFold answers as foldL says, of the three names of schemes. -/
def FoldOk (w : World) : Prop := ∀ p : ByteArray, (p.size : Int) ≤ 17179869184 → OneFold w p httpW ∧ OneFold w p httpsW ∧ OneFold w p mailtoW

set_option maxRecDepth 100000 in
set_option maxHeartbeats 2000000 in
theorem isSafe_any (s : ByteArray) (w : World) (hs : (s.size : Int) ≤ 17179869184) (hF : FoldOk w) :
    Calls Tryd.prog 32 #[.string s] w fun e w' => e = .returned (.bool (safeL s.data.toList)) ∧ Below w.heap.size w w' := by
  have HC := Lib.hid (zzCut_any s ⟨#[58]⟩ w hs (by decide) (by decide))
  have hL : s.data.toList.length = s.size := by simp
  obtain ⟨o, ho⟩ : ∃ o, idxL (⟨#[58]⟩ : ByteArray).data.toList s.data.toList = o := ⟨_, rfl⟩
  have ho2 : idxL [58] s.data.toList = o := ho
  rw [ho] at HC
  cases o with
  | none =>
    have HR : Hid (safeL s.data.toList = true) := Lib.hid (by unfold safeL; rw [ho2])
    clear hs hF ho ho2 hL
    go_enter Tryd.func32, Tryd.ntmps32
    go_wp2_with (go_at_call 44; refine HC.out.mono ?_; rintro e w1 ⟨⟨v1, v2, rfl, hv⟩, hb1⟩; clear hv)
    go_ret
    exact ⟨ret_bool HR.out.symm, hb1⟩
  | some i =>
    have HR : Hid (safeL s.data.toList = ((idxL [47] (s.data.toList.take i)).isSome || schemeOk (s.data.toList.take i))) := Lib.hid (by unfold safeL; rw [ho2])
    have HP : Hid (∀ v : ByteArray, v.data.toList = s.data.toList.take i → (v.size : Int) ≤ 17179869184) := Lib.hid fun v hv => by
      have h1 : v.data.toList.length = v.size := by simp
      rw [hv, List.length_take] at h1
      omega
    have HF := Lib.hid hF
    obtain ⟨b0, h0⟩ : ∃ b, (idxL [47] (s.data.toList.take i)).isSome = b := ⟨_, rfl⟩
    obtain ⟨b1, h1⟩ : ∃ b, foldL (s.data.toList.take i) httpW = b := ⟨_, rfl⟩
    obtain ⟨b2, h2⟩ : ∃ b, foldL (s.data.toList.take i) httpsW = b := ⟨_, rfl⟩
    obtain ⟨b3, h3⟩ : ∃ b, foldL (s.data.toList.take i) mailtoW = b := ⟨_, rfl⟩
    have HR2 : Hid (safeL s.data.toList = (b0 || (b1 || b2 || b3))) := Lib.hid (by rw [HR.out, h0]; unfold schemeOk; rw [h1, h2, h3])
    have HCT : Hid (∀ v w, v.data.toList = s.data.toList.take i → Calls Tryd.prog 45 #[.string v, .string ⟨#[47]⟩] w fun e w' => e = .returned (.bool b0) ∧ w = w') := Lib.hid fun v w hv => by
      have := zzContains_any v ⟨#[47]⟩ w (HP.out v hv) (by decide) (by decide)
      rw [hv] at this
      rw [← h0]; exact this
    have HF1 : Hid (∀ v w', v.data.toList = s.data.toList.take i → Below w.heap.size w w' → Calls Tryd.prog 46 #[.string v, .string ⟨#[104, 116, 116, 112]⟩] w' fun e w'' => e = .returned (.bool b1) ∧ Below w'.heap.size w' w'') := Lib.hid fun v w' hv hw => by
      have := (HF.out v (HP.out v hv)).1 w' hw
      rw [hv, h1] at this; exact this
    have HF2 : Hid (∀ v w', v.data.toList = s.data.toList.take i → Below w.heap.size w w' → Calls Tryd.prog 46 #[.string v, .string ⟨#[104, 116, 116, 112, 115]⟩] w' fun e w'' => e = .returned (.bool b2) ∧ Below w'.heap.size w' w'') := Lib.hid fun v w' hv hw => by
      have := (HF.out v (HP.out v hv)).2.1 w' hw
      rw [hv, h2] at this; exact this
    have HF3 : Hid (∀ v w', v.data.toList = s.data.toList.take i → Below w.heap.size w w' → Calls Tryd.prog 46 #[.string v, .string ⟨#[109, 97, 105, 108, 116, 111]⟩] w' fun e w'' => e = .returned (.bool b3) ∧ Below w'.heap.size w' w'') := Lib.hid fun v w' hv hw => by
      have := (HF.out v (HP.out v hv)).2.2 w' hw
      rw [hv, h3] at this; exact this
    clear hs hF ho ho2 hL h0 h1 h2 h3 HR HP HF
    cases b0 <;> cases b1 <;> cases b2 <;> cases b3
    all_goals
      go_enter Tryd.func32, Tryd.ntmps32
      go_wp2_with (first
        | (go_at_call 44; refine HC.out.mono ?_; rintro e w1 ⟨⟨v1, v2, rfl, hv, _⟩, hb1⟩; have HV := Lib.hid hv; clear hv)
        | (go_at_call 45; refine (HCT.out _ _ HV.out).mono ?_; rintro e w2 ⟨rfl, rfl⟩)
        | (go_at_call 46; refine (HF1.out _ _ HV.out hb1).mono ?_; rintro e w3 ⟨rfl, hb3⟩; have hb1 := hb1.trans (hb3.mono hb1.size); clear hb3 HF1)
        | (go_at_call 46; refine (HF2.out _ _ HV.out hb1).mono ?_; rintro e w3 ⟨rfl, hb3⟩; have hb1 := hb1.trans (hb3.mono hb1.size); clear hb3 HF2)
        | (go_at_call 46; refine (HF3.out _ _ HV.out hb1).mono ?_; rintro e w3 ⟨rfl, hb3⟩; have hb1 := hb1.trans (hb3.mono hb1.size); clear hb3 HF3))
      go_ret
      exact ⟨ret_bool HR2.out.symm, hb1⟩
end Go.Proofs.YtolamblmfejhoaaDoor
