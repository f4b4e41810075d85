/- bytes.makeASCIISet at a text that has a byte from 128 on. -/
import Derived.Test.YtolamblmfejhoaaDoorCom
import Derived.Shelf.Strings.AsciiSet
import Derived.Deep.LoopGhost
import Derived.Deep.WholeRow
import Derived.Laws.ResultCell
import Derived.Lib.AsciiSet
namespace Go.Proofs.YtolamblmfejhoaaDoor
open Go.RowKit
set_option linter.unusedVariables false
set_option linter.unusedSimpArgs false

set_option maxHeartbeats 1000000 in
set_option maxRecDepth 100000 in
theorem asciiSet_no (chars : ByteArray) (m : Nat) (hm : m < chars.size) (hz : chars.size < 4294967281) (h1 : ∀ j, (h : j < m) → (chars[j]'(by omega)).toNat < 128) (h2 : 128 ≤ chars[m].toNat) (w : World) :
    Calls Tryd.prog 57 #[.string chars] w fun e w' => e = .returned (.tuple #[.agg (Lib.setCells (chars.data.toList.take m)), .bool false]) ∧ w' = w.alloc (.cells (Lib.setCells (chars.data.toList.take m)) 68) := by
  have HA := Lib.hid h1
  clear h1
  go_enter Tryd.func57, Tryd.ntmps57
  go_wp2
  rw [(by kernel_rfl : Tryd.zeroCells68 = Lib.setCells [])]
  go_loopg [4] m (fun g s4 wx => ∃ i : Nat, i + g = m ∧ s4 = .int .i64 i ∧ wx = w.alloc (.cells (Lib.setCells (chars.data.toList.take i)) 68))
  case atStart => exact ⟨0, by omega, rfl, rfl⟩
  case round =>
    obtain ⟨i, hig, rfl, rfl⟩ := hrel
    have hi : i < chars.size := by omega
    have hiz : (i : Int) < (chars.size : Int) := by omega
    obtain ⟨x, hx⟩ : ∃ x : UInt8, chars[i]'hi = x := ⟨_, rfl⟩
    have Hx : Hid (chars.data.toList.drop i = x :: chars.data.toList.drop (i + 1)) := Lib.hid (by rw [← hx]; exact drop_cons chars i hi)
    cases gk with
    | zero =>
      obtain rfl : i = m := by omega
      have hx128 : (128 : Int) ≤ (x.toNat : Int) := by rw [← hx]; omega
      have hld := run_loadVar_new (P := Tryd.prog) w 68 (Lib.setCells (chars.data.toList.take i)) 256 4 (by kernel_rfl) (by rw [Lib.setCells_size]; kernel_rfl)
      have hsz := Lib.setCells_size (chars.data.toList.take i)
      have hla := run_loadAt_new (P := Tryd.prog) w 68 (Lib.setCells (chars.data.toList.take i)) 256 4 (by kernel_rfl) (by rw [Lib.setCells_size]; kernel_rfl)
      have HSC := Lib.hid <| run_storeCells_new (P := Tryd.prog) w 68 (Lib.setCells (chars.data.toList.take i)) (Lib.setCells (chars.data.toList.take i)) (by rw [hsz]; kernel_rfl) rfl (Lib.setCells_one _)
      have HLA := Lib.hid hla
      clear hla
      go_wp2
      unfold Oper.wp
      dsimp only [execOp]
      rw [Sem.run_bind]
      erw [HLA.out]
      simp only [Result.andThen, Sem.run_pure]
      rw [Oper.upon_value]
      go_wp2
      rw [HSC.out]
      simp only [Result.andThen]
      rw [Oper.upon_skip]
      go_wp2
      (try simp only [Exit.inBlock, Exit.then])
      refine bodyPost_ret (v := .tuple #[.agg (Lib.setCells (chars.data.toList.take i)), .bool false]) ?_ rfl ⟨rfl, rfl⟩
      rw [results_cell_tmp rfl]
      simp [asAddr, Result.andThen, hld]
    | succ g =>
      have hx128 : ¬ ((128 : Int) ≤ (x.toNat : Int)) := by rw [← hx]; have := HA.out i (by omega); omega
      have hx256 : (x.toNat : Int) < 256 := by omega
      have hcell := Lib.setCells_at (chars.data.toList.take i) x
      go_wp2
      go_roundg g
      case measure => omega
      case rel => exact ⟨i + 1, by omega, by first | rfl | simp, by rw [List.take_add_one, ← List.head?_drop, Hx.out]; simp only [List.head?_cons, Option.toList]; rw [Lib.setCells_snoc]⟩
end Go.Proofs.YtolamblmfejhoaaDoor
