/- The Builder's methods at this program, by the shelf's contracts. -/
import Derived.Test.YtigobehhmodoiaaDoorShelf
namespace Go.Proofs.YtigobehhmodoiaaDoor
open Go.Shelf Go.RowKit
set_option linter.unusedVariables false

theorem lays240 : Lays.n240 Tryd.prog Tryd.lays159_ren := { Tryd.lays159 with }
theorem lays166 : Lays.n166 Tryd.prog Tryd.lays159_ren := { Tryd.lays159 with }
theorem lays167 : Lays.n167 Tryd.prog Tryd.lays159_ren := { Tryd.lays159 with }

theorem writeString_k (B b : Nat) (bs : List Value) (s : ByteArray) (w : World) (h : Lib.IsBuilderF 52 5 B b bs w) (hlen : bs.length + s.size ≤ 140737488355328) (hBw : B ≤ w.heap.size) :
    Calls Tryd.prog 82 #[.pointer (some ⟨b, 0, none⟩), .string s] w fun e w' => e = .returned (.tuple #[.int .i64 s.size, .nilIface]) ∧ (Lib.BuilderAtF 52 5 B b (.pointer (some ⟨b, 0, none⟩)) (bs ++ Lib.strCells s) w' ∧ Below B w w' ∧ Lib.OthersKept 5 (some b) w w') :=
  Any.Builder_WriteString_k lays166 Tryd.Builder_Extra_159 B b bs s w h hlen hBw

theorem writeByte_k (B b : Nat) (bs : List Value) (c : Int) (w : World) (h : Lib.IsBuilderF 52 5 B b bs w) (hlen : bs.length + 1 ≤ 140737488355328) (hBw : B ≤ w.heap.size) :
    Calls Tryd.prog 85 #[.pointer (some ⟨b, 0, none⟩), .int .u8 c] w fun e w' => e = .returned .nilIface ∧ (Lib.BuilderAtF 52 5 B b (.pointer (some ⟨b, 0, none⟩)) (bs ++ [.int .u8 c]) w' ∧ Below B w w' ∧ Lib.OthersKept 5 (some b) w w') :=
  Any.Builder_WriteByte_k lays167 Tryd.Builder_Extra_159 B b bs c w h hlen hBw
end Go.Proofs.YtigobehhmodoiaaDoor
