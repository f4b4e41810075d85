/- The package's zzCut. -/
import Derived.Test.YtolamblmfejhoaaDoorNam
import Derived.Deep.QuietTactic
import Derived.BigQuiet
import Derived.IntWalk
namespace Go.Proofs.YtolamblmfejhoaaDoor
open Go.RowKit
set_option linter.unusedVariables false
set_option linter.unusedSimpArgs false

/-- zzCut's results. -/
def RetCut (o : Option Nat) (m s : Bytes) (e : Ending) : Prop := ∃ v1 v2 : ByteArray, e = .returned (.tuple #[.string v1, .string v2, .bool o.isSome]) ∧
  match o with
  | some i => v1.data.toList = s.take i ∧ v2.data.toList = s.drop (i + m.length)
  | none => v1.data.toList = s ∧ v2.data.toList = []
theorem retCut_some (i : Nat) (m s : Bytes) (v1 v2 : ByteArray) (h1 : v1.data.toList = s.take i) (h2 : v2.data.toList = s.drop (i + m.length)) : RetCut (some i) m s (.returned (.tuple #[.string v1, .string v2, .bool true])) := ⟨v1, v2, rfl, h1, h2⟩
theorem retCut_none (m s : Bytes) (v1 v2 : ByteArray) (h1 : v1.data.toList = s) (h2 : v2.data.toList = []) : RetCut none m s (.returned (.tuple #[.string v1, .string v2, .bool false])) := ⟨v1, v2, rfl, h1, h2⟩

set_option maxRecDepth 100000 in
theorem zzCut_any (s m : ByteArray) (w : World) (hs : (s.size : Int) ≤ 17179869184) (hm : (m.size : Int) ≤ 17179869184) (hm0 : 0 < m.size) :
    Calls Tryd.prog 44 #[.string s, .string m] w fun e w' => RetCut (idxL m.data.toList s.data.toList) m.data.toList s.data.toList e ∧ Below w.heap.size w w' := by
  have HC := Lib.hid (fun w => zzIndex_any s m w hs hm hm0)
  have hlt := idxL_lt m.data.toList s.data.toList
  obtain ⟨o, ho⟩ : ∃ o, o = idxL m.data.toList s.data.toList := ⟨_, rfl⟩
  rw [← ho] at HC hlt ⊢
  clear ho
  cases o with
  | none =>
    clear hlt
    go_enter Tryd.func44, Tryd.ntmps44
    go_wp2_with (go_at_call 52; refine (HC.out _).mono ?_; rintro e w' ⟨rfl, rfl⟩)
    go_ret3
    exact ⟨retCut_none _ _ _ _ rfl rfl, Below.refl _ _⟩
  | some i =>
    have hi := hlt i rfl
    clear hlt
    have hi2 : (i : Int) + m.size ≤ s.size := by
      simp at hi
      have e1 : m.data.size = m.size := rfl
      have e2 : s.data.size = s.size := rfl
      omega
    have e1 : idxI (some i) = (i : Int) := rfl
    rw [e1] at HC
    clear hi
    have j1 : IntKind.i64.wrap ((i : Int) + m.size) = (i : Int) + m.size := IntWalk.i64_in _ (by omega)
    have j2 : (0 : Int) ≤ (i : Int) + m.size := by omega
    have j3 : ((i : Int) + m.size).toNat = i + m.size := by omega
    have j4 : (i : Int) ≤ s.size := by omega
    go_enter Tryd.func44, Tryd.ntmps44
    go_wp2_with (go_at_call 52; refine (HC.out _).mono ?_; rintro e w' ⟨rfl, rfl⟩)
    go_quiet (fail)
    go_wp2_with fail
    go_ret3
    refine ⟨retCut_some _ _ _ _ _ (extract_zero s i) ?_, below_drew _ _⟩
    rw [extract_end]
    simp
end Go.Proofs.YtolamblmfejhoaaDoor
