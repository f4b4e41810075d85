/- The reference's reader of hexadecimal digits. -/
import Derived.Test.YtolamblmfejhoaaDoorCom
namespace Go.Proofs.YtolamblmfejhoaaDoor
open Go.RowKit
set_option linter.unusedVariables false
set_option linter.unusedSimpArgs false

/-- The number that digits stand for. -/
def hexFold (l : Bytes) : Nat := l.foldl (fun v b => v * 16 + digitV b.toNat) 0
theorem hexFold_snoc (l : Bytes) (b : UInt8) : hexFold (l ++ [b]) = hexFold l * 16 + digitV b.toNat := by simp [hexFold]
theorem or4 (a b : Nat) (ha : a < 134217728) (hb : b < 16) : bits .or .i64 ((a : Int) * 16) (b : Int) = (a : Int) * 16 + (b : Int) := by
  have h := i64_or_nat (a * 16) b (by omega) (by omega)
  rw [nat_join 4 (a * 16) b (by omega) hb] at h
  exact_mod_cast h

end Go.Proofs.YtolamblmfejhoaaDoor
