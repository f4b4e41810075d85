/- The library's contracts at this translation, laid by the kit's own tool (its plain mode). -/
import Derived.Shelf.Strings.Builder1
import Derived.Shelf.Strings.Builder2
import Derived.Shelf.Strings.OnBuilder
import Derived.Shelf.Small.Utf8
import Derived.Shelf.Strings.BuilderF
import Derived.Shelf.Strings.BuilderK
import Derived.Shelf.Strings.BuilderRune
import Derived.Shelf.Utf8.AppendRune
import Derived.Shelf.Utf8.AppendRunePlain
import Derived.Shelf.Strings.Builder2Cap
import Derived.Shelf.Strconv.Itoa0
import Derived.Shelf.Strconv.Itoa1
import Derived.Shelf.LaysM
import Derived.Shelf.Strconv.Itoa2
import Derived.Shelf.Strconv.Itoa3
import Derived.Shelf.Strconv.Itoa4
import Derived.Shelf.Strings.Prefix
import Derived.Shelf.Strings.Fold
import Derived.Shelf.Unicode.Latin
import Derived.Shelf.Unicode.Decode
import Derived.Shelf.Unicode.DecodeSlow
import Derived.Shelf.Unicode.DecodeAny
import Derived.Shelf.Unicode.CaseLookup
import Derived.Shelf.Unicode.CaseConvert
import Derived.Shelf.Unicode.CaseTo
import Derived.Shelf.Unicode.CaseLaid
import Derived.Shelf.Strings.MapAny
import Derived.Shelf.Strings.CaseAny
import Derived.Shelf.Strings.BuilderCap
import Derived.Shelf.Strings.MapGrows
import Derived.Shelf.Bytes.SlIndexAt
import Derived.Shelf.Bytes.SlSearch0
import Derived.Ground.SlbNamesProg
import Derived.Shelf.Bytes.SlCase
import Derived.Shelf.Bytes.IndexByte
import Derived.Test.YtigobehhmodoiaaDoorProg
namespace Go.Proofs
open Go.Shelf
def Tryd.lays169_ren : Go.Shelf.Ren := ⟨fun | 169 => 86 | n => n, fun | 70 => 50 | 9 => 9 | 0 => 0 | 72 => 52 | 37 => 34 | 127 => 78 | 3 => 3 | 5 => 5 | n => n, fun | n => n⟩
theorem Tryd.lays169 : Go.Proofs.Lays.n169 Tryd.prog Tryd.lays169_ren := {
  mixed := by kernel_rfl
  f169 := Tryd.func86.trans (congrArg some (by kernel_rfl))
  t0 := Tryd.underlying0
  a0 := Tryd.isAgg0
  z0 := Tryd.sizeOf0
  v0 := Tryd.zeroValue0
  t3 := Tryd.underlying3
  a3 := Tryd.isAgg3
  z3 := Tryd.sizeOf3
  v3 := Tryd.zeroValue3
  t9 := Tryd.underlying9
  a9 := Tryd.isAgg9
  z9 := Tryd.sizeOf9
  v9 := Tryd.zeroValue9
  t37 := Tryd.underlying34
  a37 := Tryd.isAgg34
  z37 := Tryd.sizeOf34
  v37 := Tryd.zeroValue34
  t70 := Tryd.underlying50
  a70 := Tryd.isAgg50
  z70 := Tryd.sizeOf50
  v70 := Tryd.zeroValue50
  t72 := Tryd.underlying52
  a72 := Tryd.isAgg52
  z72 := Tryd.sizeOf52
  v72 := Tryd.zeroValue52
  t127 := Tryd.underlying78
  a127 := Tryd.isAgg78
  z127 := Tryd.sizeOf78
  v127 := Tryd.zeroValue78 }
theorem Tryd.Builder_Extra_169 : Builder.Extra Tryd.prog Tryd.lays169_ren := {
  sizeBuilder := by kernel_rfl
  liesBuilder := by kernel_rfl
  t5 := Tryd.underlying5
  a5 := Tryd.isAgg5
  z5 := Tryd.sizeOf5
  v5 := Tryd.zeroValue5
  infoByte := by kernel_rfl
  cellsByte := by kernel_rfl
  sizeByte := by kernel_rfl
  neB5 := by decide }
open Go.RowKit in
theorem Tryd.Builder_String (B b : Nat) (l : List UInt8) (w : World) (h : Lib.IsBuilder 52 5 B b (Lib.byteCells l) w) (h0 : l ≠ []) :
    Calls Tryd.prog 86 #[.pointer (some ⟨b, 0, none⟩)] w fun e w' => e = .returned (.string ⟨l.toArray⟩) ∧ Below B w w' := Any.Builder_String Tryd.lays169 Tryd.Builder_Extra_169 B b l w h h0
open Go.RowKit in
theorem Tryd.Builder_String_empty (B b : Nat) (w : World) (h : Lib.IsBuilder 52 5 B b [] w) (hBw : B ≤ w.heap.size) :
    Calls Tryd.prog 86 #[.pointer (some ⟨b, 0, none⟩)] w fun e w' => e = .returned (.string ⟨#[]⟩) ∧ Below B w w' := Any.Builder_String_empty Tryd.lays169 Tryd.Builder_Extra_169 B b w h hBw
open Go.RowKit in
theorem Tryd.Builder_String_any (B b : Nat) (l : List UInt8) (w : World) (h : Lib.IsBuilder 52 5 B b (Lib.byteCells l) w) (hBw : B ≤ w.heap.size) :
    Calls Tryd.prog 86 #[.pointer (some ⟨b, 0, none⟩)] w fun e w' => e = .returned (.string ⟨l.toArray⟩) ∧ Below B w w' := Any.Builder_String_any Tryd.lays169 Tryd.Builder_Extra_169 B b l w h hBw
def Tryd.lays241_ren : Go.Shelf.Ren := ⟨fun | 241 => 110 | 277 => 116 | n => n, fun | 70 => 50 | 3 => 3 | 0 => 0 | 72 => 52 | 37 => 34 | 5 => 5 | n => n, fun | n => n⟩
theorem Tryd.lays241 : Go.Proofs.Lays.n241 Tryd.prog Tryd.lays241_ren := {
  mixed := by kernel_rfl
  f241 := Tryd.func110.trans (congrArg some (by kernel_rfl))
  f277 := Tryd.func116.trans (congrArg some (by kernel_rfl))
  t0 := Tryd.underlying0
  a0 := Tryd.isAgg0
  z0 := Tryd.sizeOf0
  v0 := Tryd.zeroValue0
  t3 := Tryd.underlying3
  a3 := Tryd.isAgg3
  z3 := Tryd.sizeOf3
  v3 := Tryd.zeroValue3
  t37 := Tryd.underlying34
  a37 := Tryd.isAgg34
  z37 := Tryd.sizeOf34
  v37 := Tryd.zeroValue34
  t70 := Tryd.underlying50
  a70 := Tryd.isAgg50
  z70 := Tryd.sizeOf50
  v70 := Tryd.zeroValue50
  t72 := Tryd.underlying52
  a72 := Tryd.isAgg52
  z72 := Tryd.sizeOf52
  v72 := Tryd.zeroValue52 }
theorem Tryd.Builder_Extra_241 : Builder.Extra Tryd.prog Tryd.lays241_ren := {
  sizeBuilder := by kernel_rfl
  liesBuilder := by kernel_rfl
  t5 := Tryd.underlying5
  a5 := Tryd.isAgg5
  z5 := Tryd.sizeOf5
  v5 := Tryd.zeroValue5
  infoByte := by kernel_rfl
  cellsByte := by kernel_rfl
  sizeByte := by kernel_rfl
  neB5 := by decide }
open Go.RowKit in
theorem Tryd.Builder_grow_fresh (B b n : Nat) (w : World) (hB : B ≤ b) (hbk : w.heap[b]? = some (.cells #[.pointer (some ⟨b, 0, none⟩), .slice none 0 0] 52 (0, 0))) (hBw : B ≤ w.heap.size) (hn : n ≤ 281474976710656) :
    Calls Tryd.prog 110 #[.pointer (some ⟨b, 0, none⟩), .int .i64 n] w fun e w' => e = .returned (.tuple #[]) ∧ (Lib.BuilderAt 52 5 B b (.pointer (some ⟨b, 0, none⟩)) [] w' ∧ Below B w w') := Any.Builder_grow_fresh Tryd.lays241 Tryd.Builder_Extra_241 B b n w hB hbk hBw hn
def Tryd.lays165_ren : Go.Shelf.Ren := ⟨fun | 165 => 81 | 240 => 109 | 241 => 110 | 276 => 128 | 277 => 116 | n => n, fun | 70 => 50 | 3 => 3 | 0 => 0 | 4 => 4 | 9 => 9 | 20 => 20 | 72 => 52 | 37 => 34 | 164 => 93 | 5 => 5 | n => n, fun | n => n⟩
theorem Tryd.lays165 : Go.Proofs.Lays.n165 Tryd.prog Tryd.lays165_ren := {
  mixed := by kernel_rfl
  f165 := Tryd.func81.trans (congrArg some (by kernel_rfl))
  f240 := Tryd.func109.trans (congrArg some (by kernel_rfl))
  f241 := Tryd.func110.trans (congrArg some (by kernel_rfl))
  f276 := Tryd.func128.trans (congrArg some (by kernel_rfl))
  f277 := Tryd.func116.trans (congrArg some (by kernel_rfl))
  t0 := Tryd.underlying0
  a0 := Tryd.isAgg0
  z0 := Tryd.sizeOf0
  v0 := Tryd.zeroValue0
  t3 := Tryd.underlying3
  a3 := Tryd.isAgg3
  z3 := Tryd.sizeOf3
  v3 := Tryd.zeroValue3
  t4 := Tryd.underlying4
  a4 := Tryd.isAgg4
  z4 := Tryd.sizeOf4
  v4 := Tryd.zeroValue4
  t9 := Tryd.underlying9
  a9 := Tryd.isAgg9
  z9 := Tryd.sizeOf9
  v9 := Tryd.zeroValue9
  t20 := Tryd.underlying20
  a20 := Tryd.isAgg20
  z20 := Tryd.sizeOf20
  v20 := Tryd.zeroValue20
  t37 := Tryd.underlying34
  a37 := Tryd.isAgg34
  z37 := Tryd.sizeOf34
  v37 := Tryd.zeroValue34
  t70 := Tryd.underlying50
  a70 := Tryd.isAgg50
  z70 := Tryd.sizeOf50
  v70 := Tryd.zeroValue50
  t72 := Tryd.underlying52
  a72 := Tryd.isAgg52
  z72 := Tryd.sizeOf52
  v72 := Tryd.zeroValue52
  t164 := Tryd.underlying93
  a164 := Tryd.isAgg93
  z164 := Tryd.sizeOf93
  v164 := Tryd.zeroValue93 }
theorem Tryd.Builder_Extra_165 : Builder.Extra Tryd.prog Tryd.lays165_ren := {
  sizeBuilder := by kernel_rfl
  liesBuilder := by kernel_rfl
  t5 := Tryd.underlying5
  a5 := Tryd.isAgg5
  z5 := Tryd.sizeOf5
  v5 := Tryd.zeroValue5
  infoByte := by kernel_rfl
  cellsByte := by kernel_rfl
  sizeByte := by kernel_rfl
  neB5 := by decide }
open Go.RowKit in
theorem Tryd.Builder_Grow_fresh (B b n : Nat) (w : World) (hB : B ≤ b) (hbk : w.heap[b]? = some (.cells #[.pointer none, .slice none 0 0] 52 (0, 0))) (hBw : B ≤ w.heap.size) (hn : n ≤ 281474976710656) :
    Calls Tryd.prog 81 #[.pointer (some ⟨b, 0, none⟩), .int .i64 n] w fun e w' => e = .returned (.tuple #[]) ∧ (Lib.BuilderAt 52 5 B b (.pointer (some ⟨b, 0, none⟩)) [] w' ∧ Below B w w') := Any.Builder_Grow_fresh Tryd.lays165 Tryd.Builder_Extra_165 B b n w hB hbk hBw hn
def Tryd.lays159_ren : Go.Shelf.Ren := ⟨fun | 159 => 107 | 165 => 81 | 166 => 82 | 167 => 85 | 169 => 86 | 230 => 127 | 204 => 118 | 240 => 109 | 241 => 110 | 197 => 80 | 118 => 133 | 168 => 134 | 270 => 135 | 262 => 131 | 276 => 128 | 277 => 116 | 260 => 108 | 242 => 130 | 313 => 138 | 278 => 137 | 274 => 139 | 275 => 140 | n => n, fun | 9 => 9 | 4 => 4 | 3 => 3 | 5 => 5 | 72 => 52 | 0 => 0 | 76 => 59 | 75 => 58 | 107 => 84 | 70 => 50 | 20 => 20 | 37 => 34 | 127 => 78 | 21 => 21 | 105 => 53 | 164 => 93 | 162 => 104 | 203 => 102 | 119 => 89 | 46 => 41 | 139 => 92 | 138 => 91 | 51 => 81 | 160 => 110 | 208 => 116 | 206 => 114 | 80 => 62 | n => n, fun | 13 => 4 | 3 => 1 | 4 => 2 | n => n⟩
theorem Tryd.lays159 : Go.Proofs.Lays.n159 Tryd.prog Tryd.lays159_ren := {
  mixed := by kernel_rfl
  f118 := Tryd.func133.trans (congrArg some (by kernel_rfl))
  f159 := Tryd.func107.trans (congrArg some (by kernel_rfl))
  f165 := Tryd.func81.trans (congrArg some (by kernel_rfl))
  f166 := Tryd.func82.trans (congrArg some (by kernel_rfl))
  f167 := Tryd.func85.trans (congrArg some (by kernel_rfl))
  f168 := Tryd.func134.trans (congrArg some (by kernel_rfl))
  f169 := Tryd.func86.trans (congrArg some (by kernel_rfl))
  f197 := Tryd.func80.trans (congrArg some (by kernel_rfl))
  f204 := Tryd.func118.trans (congrArg some (by kernel_rfl))
  f230 := Tryd.func127.trans (congrArg some (by kernel_rfl))
  f240 := Tryd.func109.trans (congrArg some (by kernel_rfl))
  f241 := Tryd.func110.trans (congrArg some (by kernel_rfl))
  f242 := Tryd.func130.trans (congrArg some (by kernel_rfl))
  f260 := Tryd.func108.trans (congrArg some (by kernel_rfl))
  f262 := Tryd.func131.trans (congrArg some (by kernel_rfl))
  f270 := Tryd.func135.trans (congrArg some (by kernel_rfl))
  f274 := Tryd.func139.trans (congrArg some (by kernel_rfl))
  f275 := Tryd.func140.trans (congrArg some (by kernel_rfl))
  f276 := Tryd.func128.trans (congrArg some (by kernel_rfl))
  f277 := Tryd.func116.trans (congrArg some (by kernel_rfl))
  f278 := Tryd.func137.trans (congrArg some (by kernel_rfl))
  f313 := Tryd.func138.trans (congrArg some (by kernel_rfl))
  t0 := Tryd.underlying0
  a0 := Tryd.isAgg0
  z0 := Tryd.sizeOf0
  v0 := Tryd.zeroValue0
  t3 := Tryd.underlying3
  a3 := Tryd.isAgg3
  z3 := Tryd.sizeOf3
  v3 := Tryd.zeroValue3
  t4 := Tryd.underlying4
  a4 := Tryd.isAgg4
  z4 := Tryd.sizeOf4
  v4 := Tryd.zeroValue4
  t5 := Tryd.underlying5
  a5 := Tryd.isAgg5
  z5 := Tryd.sizeOf5
  v5 := Tryd.zeroValue5
  t9 := Tryd.underlying9
  a9 := Tryd.isAgg9
  z9 := Tryd.sizeOf9
  v9 := Tryd.zeroValue9
  t20 := Tryd.underlying20
  a20 := Tryd.isAgg20
  z20 := Tryd.sizeOf20
  v20 := Tryd.zeroValue20
  t21 := Tryd.underlying21
  a21 := Tryd.isAgg21
  z21 := Tryd.sizeOf21
  v21 := Tryd.zeroValue21
  t37 := Tryd.underlying34
  a37 := Tryd.isAgg34
  z37 := Tryd.sizeOf34
  v37 := Tryd.zeroValue34
  t46 := Tryd.underlying41
  a46 := Tryd.isAgg41
  z46 := Tryd.sizeOf41
  v46 := Tryd.zeroValue41
  t51 := Tryd.underlying81
  a51 := Tryd.isAgg81
  z51 := Tryd.sizeOf81
  v51 := Tryd.zeroValue81
  t70 := Tryd.underlying50
  a70 := Tryd.isAgg50
  z70 := Tryd.sizeOf50
  v70 := Tryd.zeroValue50
  t72 := Tryd.underlying52
  a72 := Tryd.isAgg52
  z72 := Tryd.sizeOf52
  v72 := Tryd.zeroValue52
  t75 := Tryd.underlying58
  a75 := Tryd.isAgg58
  z75 := Tryd.sizeOf58
  v75 := Tryd.zeroValue58
  t76 := Tryd.underlying59
  a76 := Tryd.isAgg59
  z76 := Tryd.sizeOf59
  v76 := Tryd.zeroValue59
  t105 := Tryd.underlying53
  a105 := Tryd.isAgg53
  z105 := Tryd.sizeOf53
  v105 := Tryd.zeroValue53
  t107 := Tryd.underlying84
  a107 := Tryd.isAgg84
  z107 := Tryd.sizeOf84
  v107 := Tryd.zeroValue84
  t119 := Tryd.underlying89
  a119 := Tryd.isAgg89
  z119 := Tryd.sizeOf89
  t127 := Tryd.underlying78
  a127 := Tryd.isAgg78
  z127 := Tryd.sizeOf78
  v127 := Tryd.zeroValue78
  t138 := Tryd.underlying91
  a138 := Tryd.isAgg91
  z138 := Tryd.sizeOf91
  v138 := Tryd.zeroValue91
  t139 := Tryd.underlying92
  a139 := Tryd.isAgg92
  z139 := Tryd.sizeOf92
  v139 := Tryd.zeroValue92
  t160 := Tryd.underlying110
  a160 := Tryd.isAgg110
  z160 := Tryd.sizeOf110
  v160 := Tryd.zeroValue110
  t162 := Tryd.underlying104
  a162 := Tryd.isAgg104
  z162 := Tryd.sizeOf104
  v162 := Tryd.zeroValue104
  t164 := Tryd.underlying93
  a164 := Tryd.isAgg93
  z164 := Tryd.sizeOf93
  v164 := Tryd.zeroValue93
  t203 := Tryd.underlying102
  a203 := Tryd.isAgg102
  z203 := Tryd.sizeOf102
  v203 := Tryd.zeroValue102
  t206 := Tryd.underlying114
  a206 := Tryd.isAgg114
  z206 := Tryd.sizeOf114
  v206 := Tryd.zeroValue114
  t208 := Tryd.underlying116
  a208 := Tryd.isAgg116
  z208 := Tryd.sizeOf116
  v208 := Tryd.zeroValue116
  g3 := by kernel_rfl
  g4 := by kernel_rfl
  g13 := by kernel_rfl }
theorem Tryd.Builder_Extra_159 : Builder.Extra Tryd.prog Tryd.lays159_ren := {
  sizeBuilder := by kernel_rfl
  liesBuilder := by kernel_rfl
  t5 := Tryd.underlying5
  a5 := Tryd.isAgg5
  z5 := Tryd.sizeOf5
  v5 := Tryd.zeroValue5
  infoByte := by kernel_rfl
  cellsByte := by kernel_rfl
  sizeByte := by kernel_rfl
  neB5 := by decide }
open Go.RowKit in
theorem Tryd.strings_ToLower_ascii (s : ByteArray) (w : World) (hs : s.size ≤ 140737488355328) (hascii : ∀ (j : Nat) (b : UInt8), s.data.toList[j]? = some b → b.toNat < 128) :
    Calls Tryd.prog 107 #[.string s] w fun e w' => e = .returned (.string ⟨(Lib.toLowerA s.data.toList).toArray⟩) ∧ Below w.heap.size w w' := Any.strings_ToLower_ascii Tryd.lays159 Tryd.Builder_Extra_159 s w hs hascii
def Tryd.lays118_ren : Go.Shelf.Ren := ⟨fun | 118 => 133 | n => n, fun | 21 => 21 | 3 => 3 | 4 => 4 | n => n, fun | n => n⟩
theorem Tryd.lays118 : Go.Proofs.Lays.n118 Tryd.prog Tryd.lays118_ren := {
  mixed := by kernel_rfl
  f118 := Tryd.func133.trans (congrArg some (by kernel_rfl))
  t3 := Tryd.underlying3
  a3 := Tryd.isAgg3
  z3 := Tryd.sizeOf3
  v3 := Tryd.zeroValue3
  t4 := Tryd.underlying4
  a4 := Tryd.isAgg4
  z4 := Tryd.sizeOf4
  v4 := Tryd.zeroValue4
  t21 := Tryd.underlying21
  a21 := Tryd.isAgg21
  z21 := Tryd.sizeOf21
  v21 := Tryd.zeroValue21 }
theorem Tryd.utf8_RuneLen (r : Int) (w : World) :
    Calls Tryd.prog 133 #[.int .i32 r] w fun e w' => e = .returned (.int .i64 (Lib.runeLen r)) ∧ w' = w := Any.utf8_RuneLen Tryd.lays118 r w
def Tryd.lays120_ren : Go.Shelf.Ren := ⟨fun | 120 => 120 | n => n, fun | 5 => 5 | 4 => 4 | n => n, fun | n => n⟩
theorem Tryd.lays120 : Go.Proofs.Lays.n120 Tryd.prog Tryd.lays120_ren := {
  mixed := by kernel_rfl
  f120 := Tryd.func120.trans (congrArg some (by kernel_rfl))
  t4 := Tryd.underlying4
  a4 := Tryd.isAgg4
  z4 := Tryd.sizeOf4
  v4 := Tryd.zeroValue4
  t5 := Tryd.underlying5
  a5 := Tryd.isAgg5
  z5 := Tryd.sizeOf5
  v5 := Tryd.zeroValue5 }
theorem Tryd.utf8_RuneStart (b : Int) (w : World) (h0 : 0 ≤ b) (h1 : b < 256) :
    Calls Tryd.prog 120 #[.int .u8 b] w fun e w' => e = .returned (.bool (Lib.runeStart b)) ∧ w' = w := Any.utf8_RuneStart Tryd.lays120 b w h0 h1
open Go.RowKit in
theorem Tryd.Builder_String_f (B b : Nat) (l : List UInt8) (w : World) (h : Lib.IsBuilderF 52 5 B b (Lib.byteCells l) w) (h0 : l ≠ []) :
    Calls Tryd.prog 86 #[.pointer (some ⟨b, 0, none⟩)] w fun e w' => e = .returned (.string ⟨l.toArray⟩) ∧ (Lib.IsBuilderF 52 5 B b (Lib.byteCells l) w' ∧ Below B w w') := Any.Builder_String_f Tryd.lays169 Tryd.Builder_Extra_169 B b l w h h0
open Go.RowKit in
theorem Tryd.Builder_String_empty_f (B b : Nat) (w : World) (h : Lib.IsBuilderF 52 5 B b [] w) (hBw : B ≤ w.heap.size) :
    Calls Tryd.prog 86 #[.pointer (some ⟨b, 0, none⟩)] w fun e w' => e = .returned (.string ⟨#[]⟩) ∧ (Lib.IsBuilderF 52 5 B b [] w' ∧ Below B w w') := Any.Builder_String_empty_f Tryd.lays169 Tryd.Builder_Extra_169 B b w h hBw
open Go.RowKit in
theorem Tryd.Builder_String_any_f (B b : Nat) (l : List UInt8) (w : World) (h : Lib.IsBuilderF 52 5 B b (Lib.byteCells l) w) (hBw : B ≤ w.heap.size) :
    Calls Tryd.prog 86 #[.pointer (some ⟨b, 0, none⟩)] w fun e w' => e = .returned (.string ⟨l.toArray⟩) ∧ (Lib.IsBuilderF 52 5 B b (Lib.byteCells l) w' ∧ Below B w w') := Any.Builder_String_any_f Tryd.lays169 Tryd.Builder_Extra_169 B b l w h hBw
open Go.RowKit in
theorem Tryd.Builder_String_k (B b : Nat) (l : List UInt8) (w : World) (h : Lib.IsBuilderF 52 5 B b (Lib.byteCells l) w) (h0 : l ≠ []) :
    Calls Tryd.prog 86 #[.pointer (some ⟨b, 0, none⟩)] w fun e w' => e = .returned (.string ⟨l.toArray⟩) ∧ (Lib.IsBuilderF 52 5 B b (Lib.byteCells l) w' ∧ Below B w w' ∧ Lib.OthersKept 5 (some b) w w') := Any.Builder_String_k Tryd.lays169 Tryd.Builder_Extra_169 B b l w h h0
open Go.RowKit in
theorem Tryd.Builder_String_empty_k (B b : Nat) (w : World) (h : Lib.IsBuilderF 52 5 B b [] w) (hBw : B ≤ w.heap.size) :
    Calls Tryd.prog 86 #[.pointer (some ⟨b, 0, none⟩)] w fun e w' => e = .returned (.string ⟨#[]⟩) ∧ (Lib.IsBuilderF 52 5 B b [] w' ∧ Below B w w' ∧ Lib.OthersKept 5 (some b) w w') := Any.Builder_String_empty_k Tryd.lays169 Tryd.Builder_Extra_169 B b w h hBw
open Go.RowKit in
theorem Tryd.Builder_String_any_k (B b : Nat) (l : List UInt8) (w : World) (h : Lib.IsBuilderF 52 5 B b (Lib.byteCells l) w) (hBw : B ≤ w.heap.size) :
    Calls Tryd.prog 86 #[.pointer (some ⟨b, 0, none⟩)] w fun e w' => e = .returned (.string ⟨l.toArray⟩) ∧ (Lib.IsBuilderF 52 5 B b (Lib.byteCells l) w' ∧ Below B w w' ∧ Lib.OthersKept 5 (some b) w w') := Any.Builder_String_any_k Tryd.lays169 Tryd.Builder_Extra_169 B b l w h hBw
def Tryd.lays278_ren : Go.Shelf.Ren := ⟨fun | 278 => 137 | n => n, fun | 37 => 34 | 21 => 21 | 51 => 81 | 4 => 4 | 46 => 41 | 5 => 5 | n => n, fun | n => n⟩
theorem Tryd.lays278 : Go.Proofs.Lays.n278 Tryd.prog Tryd.lays278_ren := {
  mixed := by kernel_rfl
  f278 := Tryd.func137.trans (congrArg some (by kernel_rfl))
  t4 := Tryd.underlying4
  a4 := Tryd.isAgg4
  z4 := Tryd.sizeOf4
  v4 := Tryd.zeroValue4
  t5 := Tryd.underlying5
  a5 := Tryd.isAgg5
  z5 := Tryd.sizeOf5
  v5 := Tryd.zeroValue5
  t21 := Tryd.underlying21
  a21 := Tryd.isAgg21
  z21 := Tryd.sizeOf21
  v21 := Tryd.zeroValue21
  t37 := Tryd.underlying34
  a37 := Tryd.isAgg34
  z37 := Tryd.sizeOf34
  v37 := Tryd.zeroValue34
  t46 := Tryd.underlying41
  a46 := Tryd.isAgg41
  z46 := Tryd.sizeOf41
  v46 := Tryd.zeroValue41
  t51 := Tryd.underlying81
  a51 := Tryd.isAgg81
  z51 := Tryd.sizeOf81
  v51 := Tryd.zeroValue81 }
open Go.RowKit in
theorem Tryd.utf8_appendRuneNonASCII_row (B : Nat) (v : Value) (n : Nat) (xs : List Value) (r : Int) (hr0 : -2147483648 ≤ r) (hr1 : r ≤ 2147483647) (hna : r < 0 ∨ 128 ≤ r) (w : World) (hown : w.ownsRowF B 5 1 v n xs) (hlen : n + 4 ≤ 140737488355328) (hBw : B ≤ w.heap.size) :
    Calls Tryd.prog 137 #[v, .int .i32 r] w fun e w' => ∃ v', e = .returned v' ∧ w'.ownsRowF B 5 1 v' (n + (Lib.runeCells r).length) (xs ++ Lib.runeCells r) ∧ ∃ o, (w.alloc o).grownBy w' v.ownBlock := Any.utf8_appendRuneNonASCII_row Tryd.lays278 (by kernel_rfl) B v n xs r hr0 hr1 hna w hown hlen hBw
def Tryd.lays242_ren : Go.Shelf.Ren := ⟨fun | 242 => 130 | 278 => 137 | n => n, fun | 37 => 34 | 21 => 21 | 51 => 81 | 4 => 4 | 5 => 5 | 46 => 41 | n => n, fun | n => n⟩
theorem Tryd.lays242 : Go.Proofs.Lays.n242 Tryd.prog Tryd.lays242_ren := {
  mixed := by kernel_rfl
  f242 := Tryd.func130.trans (congrArg some (by kernel_rfl))
  f278 := Tryd.func137.trans (congrArg some (by kernel_rfl))
  t4 := Tryd.underlying4
  a4 := Tryd.isAgg4
  z4 := Tryd.sizeOf4
  v4 := Tryd.zeroValue4
  t5 := Tryd.underlying5
  a5 := Tryd.isAgg5
  z5 := Tryd.sizeOf5
  v5 := Tryd.zeroValue5
  t21 := Tryd.underlying21
  a21 := Tryd.isAgg21
  z21 := Tryd.sizeOf21
  v21 := Tryd.zeroValue21
  t37 := Tryd.underlying34
  a37 := Tryd.isAgg34
  z37 := Tryd.sizeOf34
  v37 := Tryd.zeroValue34
  t46 := Tryd.underlying41
  a46 := Tryd.isAgg41
  z46 := Tryd.sizeOf41
  v46 := Tryd.zeroValue41
  t51 := Tryd.underlying81
  a51 := Tryd.isAgg81
  z51 := Tryd.sizeOf81
  v51 := Tryd.zeroValue81 }
open Go.RowKit in
theorem Tryd.utf8_AppendRune_row (B : Nat) (v : Value) (n : Nat) (xs : List Value) (r : Int) (hr0 : -2147483648 ≤ r) (hr1 : r ≤ 2147483647) (w : World) (hown : w.ownsRowF B 5 1 v n xs) (hlen : n + 4 ≤ 140737488355328) (hBw : B ≤ w.heap.size) :
    Calls Tryd.prog 130 #[v, .int .i32 r] w fun e w' => ∃ v', e = .returned v' ∧ w'.ownsRowF B 5 1 v' (n + (Lib.runeCells r).length) (xs ++ Lib.runeCells r) ∧ ∃ o, (w.alloc o).grownBy w' v.ownBlock := Any.utf8_AppendRune_row Tryd.lays242 (by kernel_rfl) B v n xs r hr0 hr1 w hown hlen hBw
open Go.RowKit in
theorem Tryd.utf8_appendRuneNonASCII_plain (B : Nat) (v : Value) (n : Nat) (xs : List Value) (r : Int) (hr0 : -2147483648 ≤ r) (hr1 : r ≤ 2147483647) (hna : r < 0 ∨ 128 ≤ r) (w : World) (hown : w.ownsRow B 5 1 v n xs) (hlen : n + 4 ≤ 140737488355328) (hBw : B ≤ w.heap.size) :
    Calls Tryd.prog 137 #[v, .int .i32 r] w fun e w' => ∃ v', e = .returned v' ∧ w'.ownsRow B 5 1 v' (n + (Lib.runeCells r).length) (xs ++ Lib.runeCells r) ∧ ∃ o, (w.alloc o).grownBy w' v.ownBlock := Any.utf8_appendRuneNonASCII_plain Tryd.lays278 (by kernel_rfl) B v n xs r hr0 hr1 hna w hown hlen hBw
open Go.RowKit in
theorem Tryd.utf8_AppendRune_plain (B : Nat) (v : Value) (n : Nat) (xs : List Value) (r : Int) (hr0 : -2147483648 ≤ r) (hr1 : r ≤ 2147483647) (w : World) (hown : w.ownsRow B 5 1 v n xs) (hlen : n + 4 ≤ 140737488355328) (hBw : B ≤ w.heap.size) :
    Calls Tryd.prog 130 #[v, .int .i32 r] w fun e w' => ∃ v', e = .returned v' ∧ w'.ownsRow B 5 1 v' (n + (Lib.runeCells r).length) (xs ++ Lib.runeCells r) ∧ ∃ o, (w.alloc o).grownBy w' v.ownBlock := Any.utf8_AppendRune_plain Tryd.lays242 (by kernel_rfl) B v n xs r hr0 hr1 w hown hlen hBw
open Go.RowKit in
theorem Tryd.Builder_grow_fresh_cap (B b n : Nat) (w : World) (hB : B ≤ b) (hbk : w.heap[b]? = some (.cells #[.pointer (some ⟨b, 0, none⟩), .slice none 0 0] 52 (0, 0))) (hBw : B ≤ w.heap.size) (hn : n ≤ 281474976710656) :
    Calls Tryd.prog 110 #[.pointer (some ⟨b, 0, none⟩), .int .i64 n] w fun e w' => e = .returned (.tuple #[]) ∧ (Lib.BuilderAt 52 5 B b (.pointer (some ⟨b, 0, none⟩)) [] w' ∧ Below B w w') ∧ ∃ p cap, w'.cell? ⟨b, 1, none⟩ = some (.slice p 0 cap) ∧ n ≤ cap := Any.Builder_grow_fresh_cap Tryd.lays241 Tryd.Builder_Extra_241 B b n w hB hbk hBw hn
open Go.RowKit in
theorem Tryd.Builder_Grow_fresh_cap (B b n : Nat) (w : World) (hB : B ≤ b) (hbk : w.heap[b]? = some (.cells #[.pointer none, .slice none 0 0] 52 (0, 0))) (hBw : B ≤ w.heap.size) (hn : n ≤ 281474976710656) :
    Calls Tryd.prog 81 #[.pointer (some ⟨b, 0, none⟩), .int .i64 n] w fun e w' => e = .returned (.tuple #[]) ∧ (Lib.BuilderAt 52 5 B b (.pointer (some ⟨b, 0, none⟩)) [] w' ∧ Below B w w') ∧ ∃ p cap, w'.cell? ⟨b, 1, none⟩ = some (.slice p 0 cap) ∧ n ≤ cap := Any.Builder_Grow_fresh_cap Tryd.lays165 Tryd.Builder_Extra_165 B b n w hB hbk hBw hn
def Tryd.lays129_ren : Go.Shelf.Ren := ⟨fun | 129 => 147 | n => n, fun | 53 => 118 | 3 => 3 | 4 => 4 | 46 => 41 | 5 => 5 | 9 => 9 | n => n, fun | n => n⟩
theorem Tryd.lays129 : Go.Proofs.Lays.n129 Tryd.prog Tryd.lays129_ren := {
  mixed := by kernel_rfl
  f129 := Tryd.func147.trans (congrArg some (by kernel_rfl))
  t3 := Tryd.underlying3
  a3 := Tryd.isAgg3
  z3 := Tryd.sizeOf3
  v3 := Tryd.zeroValue3
  t4 := Tryd.underlying4
  a4 := Tryd.isAgg4
  z4 := Tryd.sizeOf4
  v4 := Tryd.zeroValue4
  t5 := Tryd.underlying5
  a5 := Tryd.isAgg5
  z5 := Tryd.sizeOf5
  v5 := Tryd.zeroValue5
  t9 := Tryd.underlying9
  a9 := Tryd.isAgg9
  z9 := Tryd.sizeOf9
  v9 := Tryd.zeroValue9
  t46 := Tryd.underlying41
  a46 := Tryd.isAgg41
  z46 := Tryd.sizeOf41
  v46 := Tryd.zeroValue41
  t53 := Tryd.underlying118
  a53 := Tryd.isAgg118
  z53 := Tryd.sizeOf118
  v53 := Tryd.zeroValue118 }
theorem Tryd.bits_Len64 (x : Int) (w : World) (h0 : 0 ≤ x) (h1 : x ≤ 18446744073709551615) :
    Calls Tryd.prog 147 #[.int .u64 x] w fun e w' => e = .returned (.int .i64 (Lib.bitLen x.toNat)) ∧ w' = w := Any.bits_Len64 Tryd.lays129 x w h0 h1
def Tryd.lays317_ren : Go.Shelf.Ren := ⟨fun | 317 => 146 | n => n, fun | 3 => 3 | 46 => 41 | n => n, fun | n => n⟩
theorem Tryd.lays317 : Go.Proofs.Lays.n317 Tryd.prog Tryd.lays317_ren := {
  mixed := by kernel_rfl
  f317 := Tryd.func146.trans (congrArg some (by kernel_rfl))
  t3 := Tryd.underlying3
  a3 := Tryd.isAgg3
  z3 := Tryd.sizeOf3
  v3 := Tryd.zeroValue3
  t46 := Tryd.underlying41
  a46 := Tryd.isAgg41
  z46 := Tryd.sizeOf41
  v46 := Tryd.zeroValue41 }
open Go.Lib in
theorem Tryd.internal_strconv_log10Pow2 (x : Nat) (h : x ≤ 64) (w : World) :
    Calls Tryd.prog 146 #[.int .i64 x] w fun e w' => e = .returned (.int .i64 (Lib.l10 x)) ∧ w' = w := Any.internal_strconv_log10Pow2 Tryd.lays317 x h w
def Tryd.lays318_ren : Go.Shelf.Ren := ⟨fun | 318 => 148 | n => n, fun | 3 => 3 | 4 => 4 | n => n, fun | n => n⟩
theorem Tryd.lays318 : Go.Proofs.Lays.n318 Tryd.prog Tryd.lays318_ren := {
  mixed := by kernel_rfl
  f318 := Tryd.func148.trans (congrArg some (by kernel_rfl))
  t3 := Tryd.underlying3
  a3 := Tryd.isAgg3
  z3 := Tryd.sizeOf3
  v3 := Tryd.zeroValue3
  t4 := Tryd.underlying4
  a4 := Tryd.isAgg4
  z4 := Tryd.sizeOf4
  v4 := Tryd.zeroValue4 }
open Go.Lib in
theorem Tryd.internal_strconv_bool2_int (b : Bool) (w : World) :
    Calls Tryd.prog 148 #[.bool b] w fun e w' => e = .returned (.int .i64 (if b then 1 else 0)) ∧ w' = w := Any.internal_strconv_bool2_int Tryd.lays318 b w
def Tryd.lays283_ren : Go.Shelf.Ren := ⟨fun | 283 => 142 | n => n, fun | 3 => 3 | 9 => 9 | 4 => 4 | n => n, fun | n => n⟩
theorem Tryd.lays283 : Go.Proofs.Lays.n283 Tryd.prog Tryd.lays283_ren := {
  mixed := by kernel_rfl
  f283 := Tryd.func142.trans (congrArg some (by kernel_rfl))
  t3 := Tryd.underlying3
  a3 := Tryd.isAgg3
  z3 := Tryd.sizeOf3
  v3 := Tryd.zeroValue3
  t4 := Tryd.underlying4
  a4 := Tryd.isAgg4
  z4 := Tryd.sizeOf4
  v4 := Tryd.zeroValue4
  t9 := Tryd.underlying9
  a9 := Tryd.isAgg9
  z9 := Tryd.sizeOf9
  v9 := Tryd.zeroValue9 }
open Go.Lib in
theorem Tryd.internal_strconv_small (i : Nat) (h : i < 100) (w : World) :
    Calls Tryd.prog 142 #[.int .i64 i] w fun e w' => e = .returned (.string ⟨(Lib.decDigits i).toArray⟩) ∧ w' = w := Any.internal_strconv_small Tryd.lays283 i h w
def Tryd.laysM284_ren : Go.Shelf.Ren := ⟨fun | 284 => 143 | 129 => 147 | 317 => 146 | 318 => 148 | n => n, fun | 53 => 118 | 3 => 3 | 212 => 125 | 0 => 0 | 4 => 4 | 46 => 41 | 5 => 5 | 9 => 9 | n => n, fun | 17 => 7 | n => n⟩
theorem Tryd.laysM284 : Go.Proofs.LaysM.n284 Tryd.prog Tryd.laysM284_ren := {
  mixed := by kernel_rfl
  f129 := Tryd.func147.trans (congrArg some (by kernel_rfl))
  f284 := Tryd.func143.trans (congrArg some (by kernel_rfl))
  f317 := Tryd.func146.trans (congrArg some (by kernel_rfl))
  f318 := Tryd.func148.trans (congrArg some (by kernel_rfl))
  t0 := Tryd.underlying0
  a0 := Tryd.isAgg0
  z0 := Tryd.sizeOf0
  v0 := Tryd.zeroValue0
  t3 := Tryd.underlying3
  a3 := Tryd.isAgg3
  z3 := Tryd.sizeOf3
  v3 := Tryd.zeroValue3
  t4 := Tryd.underlying4
  a4 := Tryd.isAgg4
  z4 := Tryd.sizeOf4
  v4 := Tryd.zeroValue4
  t5 := Tryd.underlying5
  a5 := Tryd.isAgg5
  z5 := Tryd.sizeOf5
  v5 := Tryd.zeroValue5
  t9 := Tryd.underlying9
  a9 := Tryd.isAgg9
  z9 := Tryd.sizeOf9
  v9 := Tryd.zeroValue9
  t46 := Tryd.underlying41
  a46 := Tryd.isAgg41
  z46 := Tryd.sizeOf41
  v46 := Tryd.zeroValue41
  t53 := Tryd.underlying118
  a53 := Tryd.isAgg118
  z53 := Tryd.sizeOf118
  v53 := Tryd.zeroValue118
  t212 := Tryd.underlying125
  a212 := Tryd.isAgg125
  z212 := Tryd.sizeOf125
  v212 := Tryd.zeroValue125
  g17 := by kernel_rfl
  i0 := by kernel_rfl
  i3 := by kernel_rfl
  i4 := by kernel_rfl
  i5 := by kernel_rfl
  i9 := by kernel_rfl
  i46 := by kernel_rfl
  i53 := by kernel_rfl
  i212 := by kernel_rfl
  m17 := by kernel_rfl }
open Go.Lib in
theorem Tryd.internal_strconv_numDigits (u : Nat) (h1 : 1 ≤ u) (h2 : u < 18446744073709551616) (w : World) (htab : Lib.TabIs Tryd.prog w "internal/strconv.uint64pow10" .u64 Lib.pow10Tab) :
    Calls Tryd.prog 143 #[.int .u64 u] w fun e w' => e = .returned (.int .i64 (Lib.nDigits u)) ∧ w' = w := Any.internal_strconv_numDigits Tryd.laysM284 u h1 h2 w htab
def Tryd.lays285_ren : Go.Shelf.Ren := ⟨fun | 285 => 144 | n => n, fun | 37 => 34 | 53 => 118 | 3 => 3 | 4 => 4 | 51 => 81 | 9 => 9 | 5 => 5 | 0 => 0 | n => n, fun | n => n⟩
theorem Tryd.lays285 : Go.Proofs.Lays.n285 Tryd.prog Tryd.lays285_ren := {
  mixed := by kernel_rfl
  f285 := Tryd.func144.trans (congrArg some (by kernel_rfl))
  t0 := Tryd.underlying0
  a0 := Tryd.isAgg0
  z0 := Tryd.sizeOf0
  v0 := Tryd.zeroValue0
  t3 := Tryd.underlying3
  a3 := Tryd.isAgg3
  z3 := Tryd.sizeOf3
  v3 := Tryd.zeroValue3
  t4 := Tryd.underlying4
  a4 := Tryd.isAgg4
  z4 := Tryd.sizeOf4
  v4 := Tryd.zeroValue4
  t5 := Tryd.underlying5
  a5 := Tryd.isAgg5
  z5 := Tryd.sizeOf5
  v5 := Tryd.zeroValue5
  t9 := Tryd.underlying9
  a9 := Tryd.isAgg9
  z9 := Tryd.sizeOf9
  v9 := Tryd.zeroValue9
  t37 := Tryd.underlying34
  a37 := Tryd.isAgg34
  z37 := Tryd.sizeOf34
  v37 := Tryd.zeroValue34
  t51 := Tryd.underlying81
  a51 := Tryd.isAgg81
  z51 := Tryd.sizeOf81
  v51 := Tryd.zeroValue81
  t53 := Tryd.underlying118
  a53 := Tryd.isAgg118
  z53 := Tryd.sizeOf118
  v53 := Tryd.zeroValue118 }
open Go.RowKit Go.Sort Go.Lib in
theorem Tryd.internal_strconv_formatBase10 (blk off cap : Nat) (u : Nat) (d : Array UInt8) (w : World) (hH : Holds (fun (b : UInt8) => Value.int .u8 (b.toNat : Int)) w blk off d) (hu : u < 10 ^ d.size) (hu64 : u < 18446744073709551616) (hsz : d.size < 4611686018427387904) :
    Calls Tryd.prog 144 #[.slice (some ⟨blk, off, none⟩) d.size cap, .int .u64 u] w fun e w' =>
      e = .returned (.tuple #[]) ∧ ∃ (n v' : Nat) (dk : Array UInt8), w' = (putRow (fun (b : UInt8) => Value.int .u8 (b.toNat : Int)) w blk off dk).drewN n ∧ FmtInv d.size u 0 v' dk := Any.internal_strconv_formatBase10 Tryd.lays285 blk off cap u d w hH hu hu64 hsz
def Tryd.laysM246_ren : Go.Shelf.Ren := ⟨fun | 246 => 141 | 283 => 142 | 284 => 143 | 285 => 144 | 286 => 145 | 129 => 147 | 317 => 146 | 318 => 148 | 319 => 149 | 320 => 150 | 337 => 151 | 338 => 152 | n => n, fun | 2 => 2 | 3 => 3 | 9 => 9 | 4 => 4 | 171 => 117 | 0 => 0 | 53 => 118 | 37 => 34 | 5 => 5 | 173 => 121 | 212 => 125 | 51 => 81 | 20 => 20 | 213 => 126 | 46 => 41 | 232 => 130 | 233 => 131 | n => n, fun | 17 => 7 | 18 => 8 | 19 => 9 | n => n⟩
theorem Tryd.laysM246 : Go.Proofs.LaysM.n246 Tryd.prog Tryd.laysM246_ren := {
  mixed := by kernel_rfl
  f129 := Tryd.func147.trans (congrArg some (by kernel_rfl))
  f246 := Tryd.func141.trans (congrArg some (by kernel_rfl))
  f283 := Tryd.func142.trans (congrArg some (by kernel_rfl))
  f284 := Tryd.func143.trans (congrArg some (by kernel_rfl))
  f285 := Tryd.func144.trans (congrArg some (by kernel_rfl))
  f286 := Tryd.func145.trans (congrArg some (by kernel_rfl))
  f317 := Tryd.func146.trans (congrArg some (by kernel_rfl))
  f318 := Tryd.func148.trans (congrArg some (by kernel_rfl))
  f319 := Tryd.func149.trans (congrArg some (by kernel_rfl))
  f320 := Tryd.func150.trans (congrArg some (by kernel_rfl))
  f337 := Tryd.func151.trans (congrArg some (by kernel_rfl))
  f338 := Tryd.func152.trans (congrArg some (by kernel_rfl))
  t0 := Tryd.underlying0
  a0 := Tryd.isAgg0
  z0 := Tryd.sizeOf0
  v0 := Tryd.zeroValue0
  t2 := Tryd.underlying2
  a2 := Tryd.isAgg2
  z2 := Tryd.sizeOf2
  v2 := Tryd.zeroValue2
  t3 := Tryd.underlying3
  a3 := Tryd.isAgg3
  z3 := Tryd.sizeOf3
  v3 := Tryd.zeroValue3
  t4 := Tryd.underlying4
  a4 := Tryd.isAgg4
  z4 := Tryd.sizeOf4
  v4 := Tryd.zeroValue4
  t5 := Tryd.underlying5
  a5 := Tryd.isAgg5
  z5 := Tryd.sizeOf5
  v5 := Tryd.zeroValue5
  t9 := Tryd.underlying9
  a9 := Tryd.isAgg9
  z9 := Tryd.sizeOf9
  v9 := Tryd.zeroValue9
  t20 := Tryd.underlying20
  a20 := Tryd.isAgg20
  z20 := Tryd.sizeOf20
  v20 := Tryd.zeroValue20
  t37 := Tryd.underlying34
  a37 := Tryd.isAgg34
  z37 := Tryd.sizeOf34
  v37 := Tryd.zeroValue34
  t46 := Tryd.underlying41
  a46 := Tryd.isAgg41
  z46 := Tryd.sizeOf41
  v46 := Tryd.zeroValue41
  t51 := Tryd.underlying81
  a51 := Tryd.isAgg81
  z51 := Tryd.sizeOf81
  v51 := Tryd.zeroValue81
  t53 := Tryd.underlying118
  a53 := Tryd.isAgg118
  z53 := Tryd.sizeOf118
  v53 := Tryd.zeroValue118
  t171 := Tryd.underlying117
  a171 := Tryd.isAgg117
  z171 := Tryd.sizeOf117
  v171 := Tryd.zeroValue117
  t173 := Tryd.underlying121
  a173 := Tryd.isAgg121
  z173 := Tryd.sizeOf121
  v173 := Tryd.zeroValue121
  t212 := Tryd.underlying125
  a212 := Tryd.isAgg125
  z212 := Tryd.sizeOf125
  v212 := Tryd.zeroValue125
  t213 := Tryd.underlying126
  a213 := Tryd.isAgg126
  z213 := Tryd.sizeOf126
  t232 := Tryd.underlying130
  a232 := Tryd.isAgg130
  z232 := Tryd.sizeOf130
  v232 := Tryd.zeroValue130
  t233 := Tryd.underlying131
  a233 := Tryd.isAgg131
  z233 := Tryd.sizeOf131
  v233 := Tryd.zeroValue131
  g17 := by kernel_rfl
  g18 := by kernel_rfl
  g19 := by kernel_rfl
  i0 := by kernel_rfl
  i2 := by kernel_rfl
  i3 := by kernel_rfl
  i4 := by kernel_rfl
  i5 := by kernel_rfl
  i9 := by kernel_rfl
  i20 := by kernel_rfl
  i37 := by kernel_rfl
  i46 := by kernel_rfl
  i51 := by kernel_rfl
  i53 := by kernel_rfl
  i171 := by kernel_rfl
  i173 := by kernel_rfl
  i212 := by kernel_rfl
  i232 := by kernel_rfl
  i233 := by kernel_rfl
  m17 := by kernel_rfl
  m18 := by kernel_rfl
  m19 := by kernel_rfl }
open Go.RowKit Go.Sort Go.Lib in
theorem Tryd.internal_strconv_FormatInt_10 (n : Int) (h0 : -9223372036854775808 ≤ n) (h1 : n ≤ 9223372036854775807) (w : World) (htab : Lib.TabIs Tryd.prog w "internal/strconv.uint64pow10" .u64 Lib.pow10Tab) :
    Calls Tryd.prog 141 #[.int .i64 n, .int .i64 10] w fun e w' => e = .returned (.string ⟨(Lib.itoa n).toArray⟩) ∧ ∃ k os, w' = grow (w.drewN k) os := Any.internal_strconv_FormatInt_10 Tryd.laysM246 n h0 h1 w htab
def Tryd.lays246_ren : Go.Shelf.Ren := ⟨fun | 246 => 141 | 283 => 142 | 284 => 143 | 285 => 144 | 286 => 145 | 129 => 147 | 317 => 146 | 318 => 148 | 319 => 149 | 320 => 150 | 337 => 151 | 338 => 152 | n => n, fun | 2 => 2 | 3 => 3 | 9 => 9 | 4 => 4 | 171 => 117 | 0 => 0 | 53 => 118 | 37 => 34 | 5 => 5 | 173 => 121 | 212 => 125 | 51 => 81 | 20 => 20 | 213 => 126 | 46 => 41 | 232 => 130 | 233 => 131 | n => n, fun | 17 => 7 | 18 => 8 | 19 => 9 | n => n⟩
theorem Tryd.lays246 : Go.Proofs.Lays.n246 Tryd.prog Tryd.lays246_ren := {
  mixed := by kernel_rfl
  f129 := Tryd.func147.trans (congrArg some (by kernel_rfl))
  f246 := Tryd.func141.trans (congrArg some (by kernel_rfl))
  f283 := Tryd.func142.trans (congrArg some (by kernel_rfl))
  f284 := Tryd.func143.trans (congrArg some (by kernel_rfl))
  f285 := Tryd.func144.trans (congrArg some (by kernel_rfl))
  f286 := Tryd.func145.trans (congrArg some (by kernel_rfl))
  f317 := Tryd.func146.trans (congrArg some (by kernel_rfl))
  f318 := Tryd.func148.trans (congrArg some (by kernel_rfl))
  f319 := Tryd.func149.trans (congrArg some (by kernel_rfl))
  f320 := Tryd.func150.trans (congrArg some (by kernel_rfl))
  f337 := Tryd.func151.trans (congrArg some (by kernel_rfl))
  f338 := Tryd.func152.trans (congrArg some (by kernel_rfl))
  t0 := Tryd.underlying0
  a0 := Tryd.isAgg0
  z0 := Tryd.sizeOf0
  v0 := Tryd.zeroValue0
  t2 := Tryd.underlying2
  a2 := Tryd.isAgg2
  z2 := Tryd.sizeOf2
  v2 := Tryd.zeroValue2
  t3 := Tryd.underlying3
  a3 := Tryd.isAgg3
  z3 := Tryd.sizeOf3
  v3 := Tryd.zeroValue3
  t4 := Tryd.underlying4
  a4 := Tryd.isAgg4
  z4 := Tryd.sizeOf4
  v4 := Tryd.zeroValue4
  t5 := Tryd.underlying5
  a5 := Tryd.isAgg5
  z5 := Tryd.sizeOf5
  v5 := Tryd.zeroValue5
  t9 := Tryd.underlying9
  a9 := Tryd.isAgg9
  z9 := Tryd.sizeOf9
  v9 := Tryd.zeroValue9
  t20 := Tryd.underlying20
  a20 := Tryd.isAgg20
  z20 := Tryd.sizeOf20
  v20 := Tryd.zeroValue20
  t37 := Tryd.underlying34
  a37 := Tryd.isAgg34
  z37 := Tryd.sizeOf34
  v37 := Tryd.zeroValue34
  t46 := Tryd.underlying41
  a46 := Tryd.isAgg41
  z46 := Tryd.sizeOf41
  v46 := Tryd.zeroValue41
  t51 := Tryd.underlying81
  a51 := Tryd.isAgg81
  z51 := Tryd.sizeOf81
  v51 := Tryd.zeroValue81
  t53 := Tryd.underlying118
  a53 := Tryd.isAgg118
  z53 := Tryd.sizeOf118
  v53 := Tryd.zeroValue118
  t171 := Tryd.underlying117
  a171 := Tryd.isAgg117
  z171 := Tryd.sizeOf117
  v171 := Tryd.zeroValue117
  t173 := Tryd.underlying121
  a173 := Tryd.isAgg121
  z173 := Tryd.sizeOf121
  v173 := Tryd.zeroValue121
  t212 := Tryd.underlying125
  a212 := Tryd.isAgg125
  z212 := Tryd.sizeOf125
  v212 := Tryd.zeroValue125
  t213 := Tryd.underlying126
  a213 := Tryd.isAgg126
  z213 := Tryd.sizeOf126
  t232 := Tryd.underlying130
  a232 := Tryd.isAgg130
  z232 := Tryd.sizeOf130
  v232 := Tryd.zeroValue130
  t233 := Tryd.underlying131
  a233 := Tryd.isAgg131
  z233 := Tryd.sizeOf131
  v233 := Tryd.zeroValue131
  g17 := by kernel_rfl
  g18 := by kernel_rfl
  g19 := by kernel_rfl }
open Go.RowKit Go.Sort Go.Lib in
theorem Tryd.internal_strconv_FormatInt_10_small (i : Nat) (hi : i < 100) (w : World) :
    Calls Tryd.prog 141 #[.int .i64 i, .int .i64 10] w fun e w' => e = .returned (.string ⟨(Lib.decDigits i).toArray⟩) ∧ w' = w := Any.internal_strconv_FormatInt_10_small Tryd.lays246 i hi w
def Tryd.laysM173_ren : Go.Shelf.Ren := ⟨fun | 173 => 136 | 246 => 141 | 283 => 142 | 284 => 143 | 285 => 144 | 286 => 145 | 129 => 147 | 317 => 146 | 318 => 148 | 319 => 149 | 320 => 150 | 337 => 151 | 338 => 152 | n => n, fun | 2 => 2 | 3 => 3 | 9 => 9 | 4 => 4 | 171 => 117 | 0 => 0 | 53 => 118 | 37 => 34 | 5 => 5 | 173 => 121 | 212 => 125 | 51 => 81 | 20 => 20 | 213 => 126 | 46 => 41 | 232 => 130 | 233 => 131 | n => n, fun | 17 => 7 | 18 => 8 | 19 => 9 | n => n⟩
theorem Tryd.laysM173 : Go.Proofs.LaysM.n173 Tryd.prog Tryd.laysM173_ren := {
  mixed := by kernel_rfl
  f129 := Tryd.func147.trans (congrArg some (by kernel_rfl))
  f173 := Tryd.func136.trans (congrArg some (by kernel_rfl))
  f246 := Tryd.func141.trans (congrArg some (by kernel_rfl))
  f283 := Tryd.func142.trans (congrArg some (by kernel_rfl))
  f284 := Tryd.func143.trans (congrArg some (by kernel_rfl))
  f285 := Tryd.func144.trans (congrArg some (by kernel_rfl))
  f286 := Tryd.func145.trans (congrArg some (by kernel_rfl))
  f317 := Tryd.func146.trans (congrArg some (by kernel_rfl))
  f318 := Tryd.func148.trans (congrArg some (by kernel_rfl))
  f319 := Tryd.func149.trans (congrArg some (by kernel_rfl))
  f320 := Tryd.func150.trans (congrArg some (by kernel_rfl))
  f337 := Tryd.func151.trans (congrArg some (by kernel_rfl))
  f338 := Tryd.func152.trans (congrArg some (by kernel_rfl))
  t0 := Tryd.underlying0
  a0 := Tryd.isAgg0
  z0 := Tryd.sizeOf0
  v0 := Tryd.zeroValue0
  t2 := Tryd.underlying2
  a2 := Tryd.isAgg2
  z2 := Tryd.sizeOf2
  v2 := Tryd.zeroValue2
  t3 := Tryd.underlying3
  a3 := Tryd.isAgg3
  z3 := Tryd.sizeOf3
  v3 := Tryd.zeroValue3
  t4 := Tryd.underlying4
  a4 := Tryd.isAgg4
  z4 := Tryd.sizeOf4
  v4 := Tryd.zeroValue4
  t5 := Tryd.underlying5
  a5 := Tryd.isAgg5
  z5 := Tryd.sizeOf5
  v5 := Tryd.zeroValue5
  t9 := Tryd.underlying9
  a9 := Tryd.isAgg9
  z9 := Tryd.sizeOf9
  v9 := Tryd.zeroValue9
  t20 := Tryd.underlying20
  a20 := Tryd.isAgg20
  z20 := Tryd.sizeOf20
  v20 := Tryd.zeroValue20
  t37 := Tryd.underlying34
  a37 := Tryd.isAgg34
  z37 := Tryd.sizeOf34
  v37 := Tryd.zeroValue34
  t46 := Tryd.underlying41
  a46 := Tryd.isAgg41
  z46 := Tryd.sizeOf41
  v46 := Tryd.zeroValue41
  t51 := Tryd.underlying81
  a51 := Tryd.isAgg81
  z51 := Tryd.sizeOf81
  v51 := Tryd.zeroValue81
  t53 := Tryd.underlying118
  a53 := Tryd.isAgg118
  z53 := Tryd.sizeOf118
  v53 := Tryd.zeroValue118
  t171 := Tryd.underlying117
  a171 := Tryd.isAgg117
  z171 := Tryd.sizeOf117
  v171 := Tryd.zeroValue117
  t173 := Tryd.underlying121
  a173 := Tryd.isAgg121
  z173 := Tryd.sizeOf121
  v173 := Tryd.zeroValue121
  t212 := Tryd.underlying125
  a212 := Tryd.isAgg125
  z212 := Tryd.sizeOf125
  v212 := Tryd.zeroValue125
  t213 := Tryd.underlying126
  a213 := Tryd.isAgg126
  z213 := Tryd.sizeOf126
  t232 := Tryd.underlying130
  a232 := Tryd.isAgg130
  z232 := Tryd.sizeOf130
  v232 := Tryd.zeroValue130
  t233 := Tryd.underlying131
  a233 := Tryd.isAgg131
  z233 := Tryd.sizeOf131
  v233 := Tryd.zeroValue131
  g17 := by kernel_rfl
  g18 := by kernel_rfl
  g19 := by kernel_rfl
  i0 := by kernel_rfl
  i2 := by kernel_rfl
  i3 := by kernel_rfl
  i4 := by kernel_rfl
  i5 := by kernel_rfl
  i9 := by kernel_rfl
  i20 := by kernel_rfl
  i37 := by kernel_rfl
  i46 := by kernel_rfl
  i51 := by kernel_rfl
  i53 := by kernel_rfl
  i171 := by kernel_rfl
  i173 := by kernel_rfl
  i212 := by kernel_rfl
  i232 := by kernel_rfl
  i233 := by kernel_rfl
  m17 := by kernel_rfl
  m18 := by kernel_rfl
  m19 := by kernel_rfl }
open Go.RowKit Go.Sort Go.Lib in
theorem Tryd.strconv_FormatInt_10 (n : Int) (h0 : -9223372036854775808 ≤ n) (h1 : n ≤ 9223372036854775807) (w : World) (htab : Lib.TabIs Tryd.prog w "internal/strconv.uint64pow10" .u64 Lib.pow10Tab) :
    Calls Tryd.prog 136 #[.int .i64 n, .int .i64 10] w fun e w' => e = .returned (.string ⟨(Lib.itoa n).toArray⟩) ∧ ∃ k os, w' = grow (w.drewN k) os := Any.strconv_FormatInt_10 Tryd.laysM173 n h0 h1 w htab
def Tryd.lays173_ren : Go.Shelf.Ren := ⟨fun | 173 => 136 | 246 => 141 | 283 => 142 | 284 => 143 | 285 => 144 | 286 => 145 | 129 => 147 | 317 => 146 | 318 => 148 | 319 => 149 | 320 => 150 | 337 => 151 | 338 => 152 | n => n, fun | 2 => 2 | 3 => 3 | 9 => 9 | 4 => 4 | 171 => 117 | 0 => 0 | 53 => 118 | 37 => 34 | 5 => 5 | 173 => 121 | 212 => 125 | 51 => 81 | 20 => 20 | 213 => 126 | 46 => 41 | 232 => 130 | 233 => 131 | n => n, fun | 17 => 7 | 18 => 8 | 19 => 9 | n => n⟩
theorem Tryd.lays173 : Go.Proofs.Lays.n173 Tryd.prog Tryd.lays173_ren := {
  mixed := by kernel_rfl
  f129 := Tryd.func147.trans (congrArg some (by kernel_rfl))
  f173 := Tryd.func136.trans (congrArg some (by kernel_rfl))
  f246 := Tryd.func141.trans (congrArg some (by kernel_rfl))
  f283 := Tryd.func142.trans (congrArg some (by kernel_rfl))
  f284 := Tryd.func143.trans (congrArg some (by kernel_rfl))
  f285 := Tryd.func144.trans (congrArg some (by kernel_rfl))
  f286 := Tryd.func145.trans (congrArg some (by kernel_rfl))
  f317 := Tryd.func146.trans (congrArg some (by kernel_rfl))
  f318 := Tryd.func148.trans (congrArg some (by kernel_rfl))
  f319 := Tryd.func149.trans (congrArg some (by kernel_rfl))
  f320 := Tryd.func150.trans (congrArg some (by kernel_rfl))
  f337 := Tryd.func151.trans (congrArg some (by kernel_rfl))
  f338 := Tryd.func152.trans (congrArg some (by kernel_rfl))
  t0 := Tryd.underlying0
  a0 := Tryd.isAgg0
  z0 := Tryd.sizeOf0
  v0 := Tryd.zeroValue0
  t2 := Tryd.underlying2
  a2 := Tryd.isAgg2
  z2 := Tryd.sizeOf2
  v2 := Tryd.zeroValue2
  t3 := Tryd.underlying3
  a3 := Tryd.isAgg3
  z3 := Tryd.sizeOf3
  v3 := Tryd.zeroValue3
  t4 := Tryd.underlying4
  a4 := Tryd.isAgg4
  z4 := Tryd.sizeOf4
  v4 := Tryd.zeroValue4
  t5 := Tryd.underlying5
  a5 := Tryd.isAgg5
  z5 := Tryd.sizeOf5
  v5 := Tryd.zeroValue5
  t9 := Tryd.underlying9
  a9 := Tryd.isAgg9
  z9 := Tryd.sizeOf9
  v9 := Tryd.zeroValue9
  t20 := Tryd.underlying20
  a20 := Tryd.isAgg20
  z20 := Tryd.sizeOf20
  v20 := Tryd.zeroValue20
  t37 := Tryd.underlying34
  a37 := Tryd.isAgg34
  z37 := Tryd.sizeOf34
  v37 := Tryd.zeroValue34
  t46 := Tryd.underlying41
  a46 := Tryd.isAgg41
  z46 := Tryd.sizeOf41
  v46 := Tryd.zeroValue41
  t51 := Tryd.underlying81
  a51 := Tryd.isAgg81
  z51 := Tryd.sizeOf81
  v51 := Tryd.zeroValue81
  t53 := Tryd.underlying118
  a53 := Tryd.isAgg118
  z53 := Tryd.sizeOf118
  v53 := Tryd.zeroValue118
  t171 := Tryd.underlying117
  a171 := Tryd.isAgg117
  z171 := Tryd.sizeOf117
  v171 := Tryd.zeroValue117
  t173 := Tryd.underlying121
  a173 := Tryd.isAgg121
  z173 := Tryd.sizeOf121
  v173 := Tryd.zeroValue121
  t212 := Tryd.underlying125
  a212 := Tryd.isAgg125
  z212 := Tryd.sizeOf125
  v212 := Tryd.zeroValue125
  t213 := Tryd.underlying126
  a213 := Tryd.isAgg126
  z213 := Tryd.sizeOf126
  t232 := Tryd.underlying130
  a232 := Tryd.isAgg130
  z232 := Tryd.sizeOf130
  v232 := Tryd.zeroValue130
  t233 := Tryd.underlying131
  a233 := Tryd.isAgg131
  z233 := Tryd.sizeOf131
  v233 := Tryd.zeroValue131
  g17 := by kernel_rfl
  g18 := by kernel_rfl
  g19 := by kernel_rfl }
open Go.RowKit Go.Sort Go.Lib in
theorem Tryd.strconv_FormatInt_10_small (i : Nat) (hi : i < 100) (w : World) :
    Calls Tryd.prog 136 #[.int .i64 i, .int .i64 10] w fun e w' => e = .returned (.string ⟨(Lib.decDigits i).toArray⟩) ∧ w' = w := Any.strconv_FormatInt_10_small Tryd.lays173 i hi w
def Tryd.lays206_ren : Go.Shelf.Ren := ⟨fun | 206 => 126 | n => n, fun | 9 => 9 | 4 => 4 | 3 => 3 | n => n, fun | n => n⟩
theorem Tryd.lays206 : Go.Proofs.Lays.n206 Tryd.prog Tryd.lays206_ren := {
  mixed := by kernel_rfl
  f206 := Tryd.func126.trans (congrArg some (by kernel_rfl))
  t3 := Tryd.underlying3
  a3 := Tryd.isAgg3
  z3 := Tryd.sizeOf3
  v3 := Tryd.zeroValue3
  t4 := Tryd.underlying4
  a4 := Tryd.isAgg4
  z4 := Tryd.sizeOf4
  v4 := Tryd.zeroValue4
  t9 := Tryd.underlying9
  a9 := Tryd.isAgg9
  z9 := Tryd.sizeOf9
  v9 := Tryd.zeroValue9 }
open Go.RowKit Go.Lib in
theorem Tryd.stringslite_HasPrefix (s p : ByteArray) (w : World) :
    Calls Tryd.prog 126 #[.string s, .string p] w fun e w' => e = .returned (.bool (Lib.hasPrefix s.data.toList p.data.toList)) ∧ w' = w := Any.stringslite_HasPrefix Tryd.lays206 s p w
def Tryd.lays99_ren : Go.Shelf.Ren := ⟨fun | 99 => 103 | 206 => 126 | n => n, fun | 9 => 9 | 4 => 4 | 3 => 3 | n => n, fun | n => n⟩
theorem Tryd.lays99 : Go.Proofs.Lays.n99 Tryd.prog Tryd.lays99_ren := {
  mixed := by kernel_rfl
  f99 := Tryd.func103.trans (congrArg some (by kernel_rfl))
  f206 := Tryd.func126.trans (congrArg some (by kernel_rfl))
  t3 := Tryd.underlying3
  a3 := Tryd.isAgg3
  z3 := Tryd.sizeOf3
  v3 := Tryd.zeroValue3
  t4 := Tryd.underlying4
  a4 := Tryd.isAgg4
  z4 := Tryd.sizeOf4
  v4 := Tryd.zeroValue4
  t9 := Tryd.underlying9
  a9 := Tryd.isAgg9
  z9 := Tryd.sizeOf9
  v9 := Tryd.zeroValue9 }
open Go.RowKit Go.Lib in
theorem Tryd.strings_HasPrefix (s p : ByteArray) (w : World) :
    Calls Tryd.prog 103 #[.string s, .string p] w fun e w' => e = .returned (.bool (Lib.hasPrefix s.data.toList p.data.toList)) ∧ w' = w := Any.strings_HasPrefix Tryd.lays99 s p w
def Tryd.lays164_ren : Go.Shelf.Ren := ⟨fun | 164 => 121 | 197 => 80 | 239 => 132 | 260 => 108 | 274 => 139 | 275 => 140 | n => n, fun | 9 => 9 | 4 => 4 | 3 => 3 | 5 => 5 | 0 => 0 | 21 => 21 | 105 => 53 | 156 => 106 | 49 => 105 | 157 => 107 | 46 => 41 | 159 => 109 | 162 => 104 | 160 => 110 | 119 => 89 | 139 => 92 | 138 => 91 | 208 => 116 | 51 => 81 | 206 => 114 | n => n, fun | 11 => 5 | 12 => 6 | 13 => 4 | 3 => 1 | 4 => 2 | n => n⟩
theorem Tryd.lays164 : Go.Proofs.Lays.n164 Tryd.prog Tryd.lays164_ren := {
  mixed := by kernel_rfl
  f164 := Tryd.func121.trans (congrArg some (by kernel_rfl))
  f197 := Tryd.func80.trans (congrArg some (by kernel_rfl))
  f239 := Tryd.func132.trans (congrArg some (by kernel_rfl))
  f260 := Tryd.func108.trans (congrArg some (by kernel_rfl))
  f274 := Tryd.func139.trans (congrArg some (by kernel_rfl))
  f275 := Tryd.func140.trans (congrArg some (by kernel_rfl))
  t0 := Tryd.underlying0
  a0 := Tryd.isAgg0
  z0 := Tryd.sizeOf0
  v0 := Tryd.zeroValue0
  t3 := Tryd.underlying3
  a3 := Tryd.isAgg3
  z3 := Tryd.sizeOf3
  v3 := Tryd.zeroValue3
  t4 := Tryd.underlying4
  a4 := Tryd.isAgg4
  z4 := Tryd.sizeOf4
  v4 := Tryd.zeroValue4
  t5 := Tryd.underlying5
  a5 := Tryd.isAgg5
  z5 := Tryd.sizeOf5
  v5 := Tryd.zeroValue5
  t9 := Tryd.underlying9
  a9 := Tryd.isAgg9
  z9 := Tryd.sizeOf9
  v9 := Tryd.zeroValue9
  t21 := Tryd.underlying21
  a21 := Tryd.isAgg21
  z21 := Tryd.sizeOf21
  v21 := Tryd.zeroValue21
  t46 := Tryd.underlying41
  a46 := Tryd.isAgg41
  z46 := Tryd.sizeOf41
  v46 := Tryd.zeroValue41
  t49 := Tryd.underlying105
  a49 := Tryd.isAgg105
  z49 := Tryd.sizeOf105
  v49 := Tryd.zeroValue105
  t51 := Tryd.underlying81
  a51 := Tryd.isAgg81
  z51 := Tryd.sizeOf81
  v51 := Tryd.zeroValue81
  t105 := Tryd.underlying53
  a105 := Tryd.isAgg53
  z105 := Tryd.sizeOf53
  v105 := Tryd.zeroValue53
  t119 := Tryd.underlying89
  a119 := Tryd.isAgg89
  z119 := Tryd.sizeOf89
  t138 := Tryd.underlying91
  a138 := Tryd.isAgg91
  z138 := Tryd.sizeOf91
  v138 := Tryd.zeroValue91
  t139 := Tryd.underlying92
  a139 := Tryd.isAgg92
  z139 := Tryd.sizeOf92
  v139 := Tryd.zeroValue92
  t156 := Tryd.underlying106
  a156 := Tryd.isAgg106
  z156 := Tryd.sizeOf106
  t157 := Tryd.underlying107
  a157 := Tryd.isAgg107
  z157 := Tryd.sizeOf107
  v157 := Tryd.zeroValue107
  t159 := Tryd.underlying109
  a159 := Tryd.isAgg109
  z159 := Tryd.sizeOf109
  v159 := Tryd.zeroValue109
  t160 := Tryd.underlying110
  a160 := Tryd.isAgg110
  z160 := Tryd.sizeOf110
  v160 := Tryd.zeroValue110
  t162 := Tryd.underlying104
  a162 := Tryd.isAgg104
  z162 := Tryd.sizeOf104
  v162 := Tryd.zeroValue104
  t206 := Tryd.underlying114
  a206 := Tryd.isAgg114
  z206 := Tryd.sizeOf114
  v206 := Tryd.zeroValue114
  t208 := Tryd.underlying116
  a208 := Tryd.isAgg116
  z208 := Tryd.sizeOf116
  v208 := Tryd.zeroValue116
  g3 := by kernel_rfl
  g4 := by kernel_rfl
  g11 := by kernel_rfl
  g12 := by kernel_rfl
  g13 := by kernel_rfl }
open Go.RowKit Go.Lib in
theorem Tryd.strings_EqualFold (s t : ByteArray) (w : World) (hs : s.size < 4294967281) (has : ∀ (j : Nat) b, s.data.toList[j]? = some b → b.toNat < 128) (hat : ∀ (j : Nat) b, t.data.toList[j]? = some b → b.toNat < 128) :
    Calls Tryd.prog 121 #[.string s, .string t] w fun e w' => e = .returned (.bool (Lib.equalFold s.data.toList t.data.toList)) ∧ w' = w := Any.strings_EqualFold Tryd.lays164 s t w hs has hat
def Tryd.lays204_ren : Go.Shelf.Ren := ⟨fun | 204 => 118 | 262 => 131 | 313 => 138 | 274 => 139 | 275 => 140 | n => n, fun | 21 => 21 | 4 => 4 | 3 => 3 | 162 => 104 | 203 => 102 | 160 => 110 | 46 => 41 | 0 => 0 | 208 => 116 | 51 => 81 | 206 => 114 | n => n, fun | 13 => 4 | n => n⟩
theorem Tryd.lays204 : Go.Proofs.Lays.n204 Tryd.prog Tryd.lays204_ren := {
  mixed := by kernel_rfl
  f204 := Tryd.func118.trans (congrArg some (by kernel_rfl))
  f262 := Tryd.func131.trans (congrArg some (by kernel_rfl))
  f274 := Tryd.func139.trans (congrArg some (by kernel_rfl))
  f275 := Tryd.func140.trans (congrArg some (by kernel_rfl))
  f313 := Tryd.func138.trans (congrArg some (by kernel_rfl))
  t0 := Tryd.underlying0
  a0 := Tryd.isAgg0
  z0 := Tryd.sizeOf0
  v0 := Tryd.zeroValue0
  t3 := Tryd.underlying3
  a3 := Tryd.isAgg3
  z3 := Tryd.sizeOf3
  v3 := Tryd.zeroValue3
  t4 := Tryd.underlying4
  a4 := Tryd.isAgg4
  z4 := Tryd.sizeOf4
  v4 := Tryd.zeroValue4
  t21 := Tryd.underlying21
  a21 := Tryd.isAgg21
  z21 := Tryd.sizeOf21
  v21 := Tryd.zeroValue21
  t46 := Tryd.underlying41
  a46 := Tryd.isAgg41
  z46 := Tryd.sizeOf41
  v46 := Tryd.zeroValue41
  t51 := Tryd.underlying81
  a51 := Tryd.isAgg81
  z51 := Tryd.sizeOf81
  v51 := Tryd.zeroValue81
  t160 := Tryd.underlying110
  a160 := Tryd.isAgg110
  z160 := Tryd.sizeOf110
  v160 := Tryd.zeroValue110
  t162 := Tryd.underlying104
  a162 := Tryd.isAgg104
  z162 := Tryd.sizeOf104
  v162 := Tryd.zeroValue104
  t203 := Tryd.underlying102
  a203 := Tryd.isAgg102
  z203 := Tryd.sizeOf102
  v203 := Tryd.zeroValue102
  t206 := Tryd.underlying114
  a206 := Tryd.isAgg114
  z206 := Tryd.sizeOf114
  v206 := Tryd.zeroValue114
  t208 := Tryd.underlying116
  a208 := Tryd.isAgg116
  z208 := Tryd.sizeOf116
  v208 := Tryd.zeroValue116
  g13 := by kernel_rfl }
open Go.RowKit Go.Lib in
theorem Tryd.unicode_ToLower (r : Int) (w : World) (h : r ≤ 127) :
    Calls Tryd.prog 118 #[.int .i32 r] w fun e w' => e = .returned (.int .i32 (Lib.toLowerR r)) ∧ w' = w := Any.unicode_ToLower Tryd.lays204 r w h
def Tryd.lays197_ren : Go.Shelf.Ren := ⟨fun | 197 => 80 | 260 => 108 | n => n, fun | 9 => 9 | 21 => 21 | 3 => 3 | 4 => 4 | 5 => 5 | 105 => 53 | 119 => 89 | 0 => 0 | 46 => 41 | 139 => 92 | 138 => 91 | n => n, fun | 3 => 1 | 4 => 2 | n => n⟩
theorem Tryd.lays197 : Go.Proofs.Lays.n197 Tryd.prog Tryd.lays197_ren := {
  mixed := by kernel_rfl
  f197 := Tryd.func80.trans (congrArg some (by kernel_rfl))
  f260 := Tryd.func108.trans (congrArg some (by kernel_rfl))
  t0 := Tryd.underlying0
  a0 := Tryd.isAgg0
  z0 := Tryd.sizeOf0
  v0 := Tryd.zeroValue0
  t3 := Tryd.underlying3
  a3 := Tryd.isAgg3
  z3 := Tryd.sizeOf3
  v3 := Tryd.zeroValue3
  t4 := Tryd.underlying4
  a4 := Tryd.isAgg4
  z4 := Tryd.sizeOf4
  v4 := Tryd.zeroValue4
  t5 := Tryd.underlying5
  a5 := Tryd.isAgg5
  z5 := Tryd.sizeOf5
  v5 := Tryd.zeroValue5
  t9 := Tryd.underlying9
  a9 := Tryd.isAgg9
  z9 := Tryd.sizeOf9
  v9 := Tryd.zeroValue9
  t21 := Tryd.underlying21
  a21 := Tryd.isAgg21
  z21 := Tryd.sizeOf21
  v21 := Tryd.zeroValue21
  t46 := Tryd.underlying41
  a46 := Tryd.isAgg41
  z46 := Tryd.sizeOf41
  v46 := Tryd.zeroValue41
  t105 := Tryd.underlying53
  a105 := Tryd.isAgg53
  z105 := Tryd.sizeOf53
  v105 := Tryd.zeroValue53
  t119 := Tryd.underlying89
  a119 := Tryd.isAgg89
  z119 := Tryd.sizeOf89
  t138 := Tryd.underlying91
  a138 := Tryd.isAgg91
  z138 := Tryd.sizeOf91
  v138 := Tryd.zeroValue91
  t139 := Tryd.underlying92
  a139 := Tryd.isAgg92
  z139 := Tryd.sizeOf92
  v139 := Tryd.zeroValue92
  g3 := by kernel_rfl
  g4 := by kernel_rfl }
open Go.RowKit Go.Lib in
theorem Tryd.utf8_DecodeRuneInString_ascii (s : ByteArray) (x : UInt8) (w : World) (h0 : s.data.toList[0]? = some x) (hx : x.toNat < 128) :
    Calls Tryd.prog 80 #[.string s] w fun e w' => e = .returned (.tuple #[.int .i32 x.toNat, .int .i64 1]) ∧ w' = w := Any.utf8_DecodeRuneInString_ascii Tryd.lays197 s x w h0 hx
def Tryd.lays260_ren : Go.Shelf.Ren := ⟨fun | 260 => 108 | n => n, fun | 9 => 9 | 21 => 21 | 3 => 3 | 4 => 4 | 5 => 5 | 119 => 89 | 0 => 0 | 46 => 41 | 139 => 92 | 138 => 91 | n => n, fun | 3 => 1 | 4 => 2 | n => n⟩
theorem Tryd.lays260 : Go.Proofs.Lays.n260 Tryd.prog Tryd.lays260_ren := {
  mixed := by kernel_rfl
  f260 := Tryd.func108.trans (congrArg some (by kernel_rfl))
  t0 := Tryd.underlying0
  a0 := Tryd.isAgg0
  z0 := Tryd.sizeOf0
  v0 := Tryd.zeroValue0
  t3 := Tryd.underlying3
  a3 := Tryd.isAgg3
  z3 := Tryd.sizeOf3
  v3 := Tryd.zeroValue3
  t4 := Tryd.underlying4
  a4 := Tryd.isAgg4
  z4 := Tryd.sizeOf4
  v4 := Tryd.zeroValue4
  t5 := Tryd.underlying5
  a5 := Tryd.isAgg5
  z5 := Tryd.sizeOf5
  v5 := Tryd.zeroValue5
  t9 := Tryd.underlying9
  a9 := Tryd.isAgg9
  z9 := Tryd.sizeOf9
  v9 := Tryd.zeroValue9
  t21 := Tryd.underlying21
  a21 := Tryd.isAgg21
  z21 := Tryd.sizeOf21
  v21 := Tryd.zeroValue21
  t46 := Tryd.underlying41
  a46 := Tryd.isAgg41
  z46 := Tryd.sizeOf41
  v46 := Tryd.zeroValue41
  t119 := Tryd.underlying89
  a119 := Tryd.isAgg89
  z119 := Tryd.sizeOf89
  t138 := Tryd.underlying91
  a138 := Tryd.isAgg91
  z138 := Tryd.sizeOf91
  v138 := Tryd.zeroValue91
  t139 := Tryd.underlying92
  a139 := Tryd.isAgg92
  z139 := Tryd.sizeOf92
  v139 := Tryd.zeroValue92
  g3 := by kernel_rfl
  g4 := by kernel_rfl }
open Go.RowKit Go.Lib in
theorem Tryd.utf8_decodeRuneInStringSlow (s : ByteArray) (w : World) (hT : Lib.Utf8Tabs 1 2 w) :
    Calls Tryd.prog 108 #[.string s] w fun e w' => e = .returned (.tuple #[.int .i32 (Lib.decodeGo s).1, .int .i64 (Lib.decodeGo s).2]) ∧ Below w.heap.size w w' := Any.utf8_decodeRuneInStringSlow Tryd.lays260 s w hT
open Go.RowKit Go.Lib in
theorem Tryd.utf8_DecodeRuneInString (s : ByteArray) (w : World) (hT : Lib.Utf8Tabs 1 2 w) :
    Calls Tryd.prog 80 #[.string s] w fun e w' => e = .returned (.tuple #[.int .i32 (Lib.decodeGo s).1, .int .i64 (Lib.decodeGo s).2]) ∧ Below w.heap.size w w' := Any.utf8_DecodeRuneInString Tryd.lays197 s w hT
def Tryd.lays274_ren : Go.Shelf.Ren := ⟨fun | 274 => 139 | n => n, fun | 21 => 21 | 162 => 104 | 160 => 110 | 3 => 3 | 4 => 4 | 46 => 41 | 0 => 0 | 208 => 116 | 51 => 81 | 206 => 114 | n => n, fun | n => n⟩
theorem Tryd.lays274 : Go.Proofs.Lays.n274 Tryd.prog Tryd.lays274_ren := {
  mixed := by kernel_rfl
  f274 := Tryd.func139.trans (congrArg some (by kernel_rfl))
  t0 := Tryd.underlying0
  a0 := Tryd.isAgg0
  z0 := Tryd.sizeOf0
  v0 := Tryd.zeroValue0
  t3 := Tryd.underlying3
  a3 := Tryd.isAgg3
  z3 := Tryd.sizeOf3
  v3 := Tryd.zeroValue3
  t4 := Tryd.underlying4
  a4 := Tryd.isAgg4
  z4 := Tryd.sizeOf4
  v4 := Tryd.zeroValue4
  t21 := Tryd.underlying21
  a21 := Tryd.isAgg21
  z21 := Tryd.sizeOf21
  v21 := Tryd.zeroValue21
  t46 := Tryd.underlying41
  a46 := Tryd.isAgg41
  z46 := Tryd.sizeOf41
  v46 := Tryd.zeroValue41
  t51 := Tryd.underlying81
  a51 := Tryd.isAgg81
  z51 := Tryd.sizeOf81
  v51 := Tryd.zeroValue81
  t160 := Tryd.underlying110
  a160 := Tryd.isAgg110
  z160 := Tryd.sizeOf110
  v160 := Tryd.zeroValue110
  t162 := Tryd.underlying104
  a162 := Tryd.isAgg104
  z162 := Tryd.sizeOf104
  v162 := Tryd.zeroValue104
  t208 := Tryd.underlying116
  a208 := Tryd.isAgg116
  z208 := Tryd.sizeOf116
  v208 := Tryd.zeroValue116 }
open Go.RowKit Go.Lib in
theorem Tryd.unicode_lookupCaseRange (T : Array CaseRow) (R oR cap : Nat) (r : Int) (w : World) (hT : CaseTab R oR T w) (hok : CaseOk T) (hn : T.size ≤ 1000000000) :
    Calls Tryd.prog 139 #[.int .i32 r, .slice (some ⟨R, oR, none⟩) T.size cap] w fun e w' =>
      e = .returned (match lookupIdx T r (T.size + 1) 0 T.size with | some i => .pointer (some ⟨R, oR + i * 5, none⟩) | none => .pointer none) ∧ w' = w := Any.unicode_lookupCaseRange Tryd.lays274 T R oR cap r w hT hok hn
def Tryd.lays275_ren : Go.Shelf.Ren := ⟨fun | 275 => 140 | n => n, fun | 3 => 3 | 21 => 21 | 160 => 110 | 0 => 0 | 208 => 116 | 206 => 114 | 4 => 4 | 51 => 81 | n => n, fun | n => n⟩
theorem Tryd.lays275 : Go.Proofs.Lays.n275 Tryd.prog Tryd.lays275_ren := {
  mixed := by kernel_rfl
  f275 := Tryd.func140.trans (congrArg some (by kernel_rfl))
  t0 := Tryd.underlying0
  a0 := Tryd.isAgg0
  z0 := Tryd.sizeOf0
  v0 := Tryd.zeroValue0
  t3 := Tryd.underlying3
  a3 := Tryd.isAgg3
  z3 := Tryd.sizeOf3
  v3 := Tryd.zeroValue3
  t4 := Tryd.underlying4
  a4 := Tryd.isAgg4
  z4 := Tryd.sizeOf4
  v4 := Tryd.zeroValue4
  t21 := Tryd.underlying21
  a21 := Tryd.isAgg21
  z21 := Tryd.sizeOf21
  v21 := Tryd.zeroValue21
  t51 := Tryd.underlying81
  a51 := Tryd.isAgg81
  z51 := Tryd.sizeOf81
  v51 := Tryd.zeroValue81
  t160 := Tryd.underlying110
  a160 := Tryd.isAgg110
  z160 := Tryd.sizeOf110
  v160 := Tryd.zeroValue110
  t206 := Tryd.underlying114
  a206 := Tryd.isAgg114
  z206 := Tryd.sizeOf114
  v206 := Tryd.zeroValue114
  t208 := Tryd.underlying116
  a208 := Tryd.isAgg116
  z208 := Tryd.sizeOf116
  v208 := Tryd.zeroValue116 }
open Go.RowKit Go.Lib in
theorem Tryd.unicode_convertCase (c : Nat) (hc : c < 3) (r : Int) (A o : Nat) (x : CaseRow) (w : World) (hlo : (x.1 : Int) ≤ r) (hhi : r ≤ (x.2.1 : Int)) (hH : x.2.1 < 2147483647) (c0 : w.cell? ⟨A, o, none⟩ = some (.int .u32 x.1)) (cD : w.cell? ⟨A, o + 2 + c, none⟩ = some (.int .i32 (x.delta c))) :
    Calls Tryd.prog 140 #[.int .i64 c, .int .i32 r, .pointer (some ⟨A, o, none⟩)] w fun e w' => e = .returned (.int .i32 (wrap32 (convertR c r x))) ∧ ∃ q, w' = w.drewN q := Any.unicode_convertCase Tryd.lays275 c hc r A o x w hlo hhi hH c0 cD
def Tryd.lays313_ren : Go.Shelf.Ren := ⟨fun | 313 => 138 | 274 => 139 | 275 => 140 | n => n, fun | 3 => 3 | 21 => 21 | 162 => 104 | 4 => 4 | 160 => 110 | 46 => 41 | 0 => 0 | 208 => 116 | 51 => 81 | 206 => 114 | n => n, fun | n => n⟩
theorem Tryd.lays313 : Go.Proofs.Lays.n313 Tryd.prog Tryd.lays313_ren := {
  mixed := by kernel_rfl
  f274 := Tryd.func139.trans (congrArg some (by kernel_rfl))
  f275 := Tryd.func140.trans (congrArg some (by kernel_rfl))
  f313 := Tryd.func138.trans (congrArg some (by kernel_rfl))
  t0 := Tryd.underlying0
  a0 := Tryd.isAgg0
  z0 := Tryd.sizeOf0
  v0 := Tryd.zeroValue0
  t3 := Tryd.underlying3
  a3 := Tryd.isAgg3
  z3 := Tryd.sizeOf3
  v3 := Tryd.zeroValue3
  t4 := Tryd.underlying4
  a4 := Tryd.isAgg4
  z4 := Tryd.sizeOf4
  v4 := Tryd.zeroValue4
  t21 := Tryd.underlying21
  a21 := Tryd.isAgg21
  z21 := Tryd.sizeOf21
  v21 := Tryd.zeroValue21
  t46 := Tryd.underlying41
  a46 := Tryd.isAgg41
  z46 := Tryd.sizeOf41
  v46 := Tryd.zeroValue41
  t51 := Tryd.underlying81
  a51 := Tryd.isAgg81
  z51 := Tryd.sizeOf81
  v51 := Tryd.zeroValue81
  t160 := Tryd.underlying110
  a160 := Tryd.isAgg110
  z160 := Tryd.sizeOf110
  v160 := Tryd.zeroValue110
  t162 := Tryd.underlying104
  a162 := Tryd.isAgg104
  z162 := Tryd.sizeOf104
  v162 := Tryd.zeroValue104
  t206 := Tryd.underlying114
  a206 := Tryd.isAgg114
  z206 := Tryd.sizeOf114
  v206 := Tryd.zeroValue114
  t208 := Tryd.underlying116
  a208 := Tryd.isAgg116
  z208 := Tryd.sizeOf116
  v208 := Tryd.zeroValue116 }
open Go.RowKit Go.Lib in
theorem Tryd.unicode_to (c : Nat) (hc : c < 3) (r : Int) (T : Array CaseRow) (R oR cap : Nat) (w : World) (hT : CaseTab R oR T w) (hok : CaseOk2 T) (hn : T.size ≤ 1000000000) :
    Calls Tryd.prog 138 #[.int .i64 c, .int .i32 r, .slice (some ⟨R, oR, none⟩) T.size cap] w fun e w' => e = .returned (.tuple #[.int .i32 (toW T c r), .bool (lookupIdx T r (T.size + 1) 0 T.size).isSome]) ∧ ∃ q, w' = w.drewN q := Any.unicode_to Tryd.lays313 c hc r T R oR cap w hT hok hn
def Tryd.lays262_ren : Go.Shelf.Ren := ⟨fun | 262 => 131 | 313 => 138 | 274 => 139 | 275 => 140 | n => n, fun | 3 => 3 | 21 => 21 | 162 => 104 | 203 => 102 | 4 => 4 | 160 => 110 | 46 => 41 | 0 => 0 | 208 => 116 | 51 => 81 | 206 => 114 | n => n, fun | 13 => 4 | n => n⟩
theorem Tryd.lays262 : Go.Proofs.Lays.n262 Tryd.prog Tryd.lays262_ren := {
  mixed := by kernel_rfl
  f262 := Tryd.func131.trans (congrArg some (by kernel_rfl))
  f274 := Tryd.func139.trans (congrArg some (by kernel_rfl))
  f275 := Tryd.func140.trans (congrArg some (by kernel_rfl))
  f313 := Tryd.func138.trans (congrArg some (by kernel_rfl))
  t0 := Tryd.underlying0
  a0 := Tryd.isAgg0
  z0 := Tryd.sizeOf0
  v0 := Tryd.zeroValue0
  t3 := Tryd.underlying3
  a3 := Tryd.isAgg3
  z3 := Tryd.sizeOf3
  v3 := Tryd.zeroValue3
  t4 := Tryd.underlying4
  a4 := Tryd.isAgg4
  z4 := Tryd.sizeOf4
  v4 := Tryd.zeroValue4
  t21 := Tryd.underlying21
  a21 := Tryd.isAgg21
  z21 := Tryd.sizeOf21
  v21 := Tryd.zeroValue21
  t46 := Tryd.underlying41
  a46 := Tryd.isAgg41
  z46 := Tryd.sizeOf41
  v46 := Tryd.zeroValue41
  t51 := Tryd.underlying81
  a51 := Tryd.isAgg81
  z51 := Tryd.sizeOf81
  v51 := Tryd.zeroValue81
  t160 := Tryd.underlying110
  a160 := Tryd.isAgg110
  z160 := Tryd.sizeOf110
  v160 := Tryd.zeroValue110
  t162 := Tryd.underlying104
  a162 := Tryd.isAgg104
  z162 := Tryd.sizeOf104
  v162 := Tryd.zeroValue104
  t203 := Tryd.underlying102
  a203 := Tryd.isAgg102
  z203 := Tryd.sizeOf102
  v203 := Tryd.zeroValue102
  t206 := Tryd.underlying114
  a206 := Tryd.isAgg114
  z206 := Tryd.sizeOf114
  v206 := Tryd.zeroValue114
  t208 := Tryd.underlying116
  a208 := Tryd.isAgg116
  z208 := Tryd.sizeOf116
  v208 := Tryd.zeroValue116
  g13 := by kernel_rfl }
open Go.RowKit Go.Lib in
theorem Tryd.unicode_To (c : Nat) (hc : c < 3) (r : Int) (T : Array CaseRow) (w : World) (hV : CaseVar 4 T w) (hok : CaseOk2 T) (hn : T.size ≤ 1000000000) :
    Calls Tryd.prog 131 #[.int .i64 c, .int .i32 r] w fun e w' => e = .returned (.int .i32 (toW T c r)) ∧ ∃ q, w' = w.drewN q := Any.unicode_To Tryd.lays262 c hc r T w hV hok hn
open Go.RowKit Go.Lib in
theorem Tryd.unicode_ToLower_any (r : Int) (T : Array CaseRow) (w : World) (hV : CaseVar 4 T w) (hok : CaseOk2 T) (hn : T.size ≤ 1000000000) :
    Calls Tryd.prog 118 #[.int .i32 r] w fun e w' => e = .returned (.int .i32 (Lib.toLowerW T r)) ∧ ∃ q, w' = w.drewN q := Any.unicode_ToLower_any Tryd.lays204 r T w hV hok hn
open Go.RowKit Go.Lib in
theorem Tryd.unicode_ToLower_laid (r : Int) (w : World) (hV : CaseVar 4 caseA w) :
    Calls Tryd.prog 118 #[.int .i32 r] w fun e w' => e = .returned (.int .i32 (toLowerU r)) ∧ ∃ q, w' = w.drewN q := Any.unicode_ToLower_laid Tryd.lays204 r w hV
def Tryd.lays270_ren : Go.Shelf.Ren := ⟨fun | 270 => 135 | n => n, fun | 70 => 50 | 3 => 3 | 0 => 0 | 72 => 52 | 37 => 34 | 5 => 5 | n => n, fun | n => n⟩
theorem Tryd.lays270 : Go.Proofs.Lays.n270 Tryd.prog Tryd.lays270_ren := {
  mixed := by kernel_rfl
  f270 := Tryd.func135.trans (congrArg some (by kernel_rfl))
  t0 := Tryd.underlying0
  a0 := Tryd.isAgg0
  z0 := Tryd.sizeOf0
  v0 := Tryd.zeroValue0
  t3 := Tryd.underlying3
  a3 := Tryd.isAgg3
  z3 := Tryd.sizeOf3
  v3 := Tryd.zeroValue3
  t37 := Tryd.underlying34
  a37 := Tryd.isAgg34
  z37 := Tryd.sizeOf34
  v37 := Tryd.zeroValue34
  t70 := Tryd.underlying50
  a70 := Tryd.isAgg50
  z70 := Tryd.sizeOf50
  v70 := Tryd.zeroValue50
  t72 := Tryd.underlying52
  a72 := Tryd.isAgg52
  z72 := Tryd.sizeOf52
  v72 := Tryd.zeroValue52 }
open Go.RowKit Go.Lib in
theorem Tryd.Builder_Cap_cell (b : Nat) (p : Option Addr) (n cap : Nat) (w : World) (c1 : w.cell? ⟨b, 1, none⟩ = some (.slice p n cap)) :
    Calls Tryd.prog 135 #[.pointer (some ⟨b, 0, none⟩)] w fun e w' => e = .returned (.int .i64 cap) ∧ w' = w := Any.Builder_Cap_cell Tryd.lays270 b p n cap w c1
def Tryd.lays230_ren : Go.Shelf.Ren := ⟨fun | 230 => 127 | 197 => 80 | 118 => 133 | 165 => 81 | 166 => 82 | 168 => 134 | 270 => 135 | 167 => 85 | 169 => 86 | 260 => 108 | 240 => 109 | 241 => 110 | 242 => 130 | 276 => 128 | 277 => 116 | 278 => 137 | n => n, fun | 107 => 84 | 9 => 9 | 72 => 52 | 0 => 0 | 4 => 4 | 3 => 3 | 21 => 21 | 105 => 53 | 76 => 59 | 5 => 5 | 75 => 58 | 70 => 50 | 20 => 20 | 37 => 34 | 127 => 78 | 119 => 89 | 46 => 41 | 139 => 92 | 138 => 91 | 164 => 93 | 51 => 81 | 80 => 62 | n => n, fun | 3 => 1 | 4 => 2 | n => n⟩
theorem Tryd.lays230 : Go.Proofs.Lays.n230 Tryd.prog Tryd.lays230_ren := {
  mixed := by kernel_rfl
  f118 := Tryd.func133.trans (congrArg some (by kernel_rfl))
  f165 := Tryd.func81.trans (congrArg some (by kernel_rfl))
  f166 := Tryd.func82.trans (congrArg some (by kernel_rfl))
  f167 := Tryd.func85.trans (congrArg some (by kernel_rfl))
  f168 := Tryd.func134.trans (congrArg some (by kernel_rfl))
  f169 := Tryd.func86.trans (congrArg some (by kernel_rfl))
  f197 := Tryd.func80.trans (congrArg some (by kernel_rfl))
  f230 := Tryd.func127.trans (congrArg some (by kernel_rfl))
  f240 := Tryd.func109.trans (congrArg some (by kernel_rfl))
  f241 := Tryd.func110.trans (congrArg some (by kernel_rfl))
  f242 := Tryd.func130.trans (congrArg some (by kernel_rfl))
  f260 := Tryd.func108.trans (congrArg some (by kernel_rfl))
  f270 := Tryd.func135.trans (congrArg some (by kernel_rfl))
  f276 := Tryd.func128.trans (congrArg some (by kernel_rfl))
  f277 := Tryd.func116.trans (congrArg some (by kernel_rfl))
  f278 := Tryd.func137.trans (congrArg some (by kernel_rfl))
  t0 := Tryd.underlying0
  a0 := Tryd.isAgg0
  z0 := Tryd.sizeOf0
  v0 := Tryd.zeroValue0
  t3 := Tryd.underlying3
  a3 := Tryd.isAgg3
  z3 := Tryd.sizeOf3
  v3 := Tryd.zeroValue3
  t4 := Tryd.underlying4
  a4 := Tryd.isAgg4
  z4 := Tryd.sizeOf4
  v4 := Tryd.zeroValue4
  t5 := Tryd.underlying5
  a5 := Tryd.isAgg5
  z5 := Tryd.sizeOf5
  v5 := Tryd.zeroValue5
  t9 := Tryd.underlying9
  a9 := Tryd.isAgg9
  z9 := Tryd.sizeOf9
  v9 := Tryd.zeroValue9
  t20 := Tryd.underlying20
  a20 := Tryd.isAgg20
  z20 := Tryd.sizeOf20
  v20 := Tryd.zeroValue20
  t21 := Tryd.underlying21
  a21 := Tryd.isAgg21
  z21 := Tryd.sizeOf21
  v21 := Tryd.zeroValue21
  t37 := Tryd.underlying34
  a37 := Tryd.isAgg34
  z37 := Tryd.sizeOf34
  v37 := Tryd.zeroValue34
  t46 := Tryd.underlying41
  a46 := Tryd.isAgg41
  z46 := Tryd.sizeOf41
  v46 := Tryd.zeroValue41
  t51 := Tryd.underlying81
  a51 := Tryd.isAgg81
  z51 := Tryd.sizeOf81
  v51 := Tryd.zeroValue81
  t70 := Tryd.underlying50
  a70 := Tryd.isAgg50
  z70 := Tryd.sizeOf50
  v70 := Tryd.zeroValue50
  t72 := Tryd.underlying52
  a72 := Tryd.isAgg52
  z72 := Tryd.sizeOf52
  v72 := Tryd.zeroValue52
  t75 := Tryd.underlying58
  a75 := Tryd.isAgg58
  z75 := Tryd.sizeOf58
  v75 := Tryd.zeroValue58
  t76 := Tryd.underlying59
  a76 := Tryd.isAgg59
  z76 := Tryd.sizeOf59
  v76 := Tryd.zeroValue59
  t105 := Tryd.underlying53
  a105 := Tryd.isAgg53
  z105 := Tryd.sizeOf53
  v105 := Tryd.zeroValue53
  t107 := Tryd.underlying84
  a107 := Tryd.isAgg84
  z107 := Tryd.sizeOf84
  v107 := Tryd.zeroValue84
  t119 := Tryd.underlying89
  a119 := Tryd.isAgg89
  z119 := Tryd.sizeOf89
  t127 := Tryd.underlying78
  a127 := Tryd.isAgg78
  z127 := Tryd.sizeOf78
  v127 := Tryd.zeroValue78
  t138 := Tryd.underlying91
  a138 := Tryd.isAgg91
  z138 := Tryd.sizeOf91
  v138 := Tryd.zeroValue91
  t139 := Tryd.underlying92
  a139 := Tryd.isAgg92
  z139 := Tryd.sizeOf92
  v139 := Tryd.zeroValue92
  t164 := Tryd.underlying93
  a164 := Tryd.isAgg93
  z164 := Tryd.sizeOf93
  v164 := Tryd.zeroValue93
  g3 := by kernel_rfl
  g4 := by kernel_rfl }
theorem Tryd.Builder_Extra_230 : Builder.Extra Tryd.prog Tryd.lays230_ren := {
  sizeBuilder := by kernel_rfl
  liesBuilder := by kernel_rfl
  t5 := Tryd.underlying5
  a5 := Tryd.isAgg5
  z5 := Tryd.sizeOf5
  v5 := Tryd.zeroValue5
  infoByte := by kernel_rfl
  cellsByte := by kernel_rfl
  sizeByte := by kernel_rfl
  neB5 := by decide }
open Go.RowKit Go.Lib in
theorem Tryd.strings_Map_runes (g : Nat) (lb : Array Value) (eg : ∀ args w, (callFunc g args).run Tryd.prog w = .ok (.enter g args) w) (f : Int → Int) (s : ByteArray) (w : World) (hs : s.size < 35184372088832) (hf : MapAtRunes Tryd.prog g lb f w) (hnn : ∀ x : Nat, x ≤ 1114111 → 0 ≤ f x ∧ f x ≤ 2147483647) (hT : Lib.Utf8Tabs 1 2 w) :
    Calls Tryd.prog 127 #[.func (.func g) #[] lb, .string s] w fun e w' => e = .returned (.string ⟨(Lib.mapD f s.data.toList).toArray⟩) ∧ Below w.heap.size w w' := Any.strings_Map_runes Tryd.lays230 Tryd.Builder_Extra_230 g lb eg f s w hs hf hnn hT
open Go.RowKit Go.Lib in
theorem Tryd.strings_ToLower_beyond (s : ByteArray) (w : World) (hs : s.size < 35184372088832) (hhigh : ∃ (j : Nat) (b : UInt8), s.data.toList[j]? = some b ∧ 128 ≤ b.toNat) (hV : CaseVar 4 caseA w) (hT : Lib.Utf8Tabs 1 2 w) :
    Calls Tryd.prog 107 #[.string s] w fun e w' => e = .returned (.string ⟨(Lib.toLowerD s.data.toList).toArray⟩) ∧ Below w.heap.size w w' := Any.strings_ToLower_beyond Tryd.lays159 Tryd.Builder_Extra_159 s w hs hhigh hV hT
open Go.RowKit Go.Lib in
theorem Tryd.strings_ToLower_any (s : ByteArray) (w : World) (hs : s.size < 35184372088832) (hV : CaseVar 4 caseA w) (hT : Lib.Utf8Tabs 1 2 w) :
    Calls Tryd.prog 107 #[.string s] w fun e w' => e = .returned (.string ⟨(Lib.toLowerD s.data.toList).toArray⟩) ∧ Below w.heap.size w w' := Any.strings_ToLower_any Tryd.lays159 Tryd.Builder_Extra_159 s w hs hV hT
open Go.RowKit Go.Lib in
theorem Tryd.strings_Map_grows (g : Nat) (lb : Array Value) (eg : ∀ args w, (callFunc g args).run Tryd.prog w = .ok (.enter g args) w) (f : Int → Int) (s : ByteArray) (w : World) (hs : s.size < 35184372088832) (hf : MapGrows Tryd.prog g lb f w) (hnn : ∀ x : Nat, x ≤ 1114111 → -2147483648 ≤ f x ∧ f x ≤ 2147483647) (hT : Lib.Utf8Tabs 1 2 w) :
    Calls Tryd.prog 127 #[.func (.func g) #[] lb, .string s] w fun e w' => e = .returned (.string ⟨(Lib.mapD f s.data.toList).toArray⟩) ∧ Below w.heap.size w w' := Any.strings_Map_grows Tryd.lays230 Tryd.Builder_Extra_230 g lb eg f s w hs hf hnn hT
def Tryd.lays187_ren : Go.Shelf.Ren := ⟨fun | 187 => 89 | 255 => 113 | n => n, fun | 37 => 34 | 5 => 5 | 3 => 3 | n => n, fun | n => n⟩
theorem Tryd.lays187 : Go.Proofs.Lays.n187 Tryd.prog Tryd.lays187_ren := {
  mixed := by kernel_rfl
  f187 := Tryd.func89.trans (congrArg some (by kernel_rfl))
  f255 := Tryd.func113.trans (congrArg some (by kernel_rfl))
  t3 := Tryd.underlying3
  a3 := Tryd.isAgg3
  z3 := Tryd.sizeOf3
  v3 := Tryd.zeroValue3
  t5 := Tryd.underlying5
  a5 := Tryd.isAgg5
  z5 := Tryd.sizeOf5
  v5 := Tryd.zeroValue5
  t37 := Tryd.underlying34
  a37 := Tryd.isAgg34
  z37 := Tryd.sizeOf34
  v37 := Tryd.zeroValue34 }
open Go.RowKit Go.Lib in
theorem Tryd.bytes_IndexByte_at (a : Addr) (n c : Nat) (xs : List Int) (cv : Int) (w : World) (hx : xs.length = n) (hc : ∀ i, i < n → w.cell? (a.add i) = some (.int .u8 (xs.getD i 0))) :
    Calls Tryd.prog 89 #[.slice (some a) n c, .int .u8 cv] w fun e w' => e = .returned (.int .i64 (Lib.indexByte (Lib.bytesOf xs) cv.toNat.toUInt8)) ∧ w' = w := Any.bytes_IndexByte_at Tryd.lays187 a n c xs cv w hx hc
open Go.Proofs Go.RowKit Go.Lib in
theorem Tryd.bytes_IndexByte_bytes (b o cap : Nat) (t : ByteArray) (cv : Int) (w : World) (hc : Lib.Bytes w b o t) :
    Calls Tryd.prog 89 #[.slice (some ⟨b, o, none⟩) t.size cap, .int .u8 cv] w fun e w' => e = .returned (.int .i64 (Lib.indexByte t.data.toList cv.toNat.toUInt8)) ∧ w' = w := Any.bytes_IndexByte_bytes Tryd.lays187 b o cap t cv w hc
def Tryd.laysSlU10_ren : Go.Shelf.Ren := ⟨fun | 10 => 95 | 15 => 116 | 16 => 117 | 18 => 118 | 26 => 93 | 27 => 130 | 28 => 131 | 32 => 115 | 33 => 137 | 34 => 138 | 35 => 139 | 36 => 140 | n => n, fun | 22 => 34 | 4 => 4 | 3 => 3 | 0 => 0 | 5 => 5 | 30 => 84 | 35 => 53 | 21 => 21 | 39 => 81 | 45 => 104 | 43 => 102 | 46 => 89 | 33 => 41 | 49 => 92 | 48 => 91 | 50 => 110 | 56 => 116 | 54 => 114 | n => n, fun | 1 => 4 | 2 => 1 | 3 => 2 | n => n⟩
theorem Tryd.laysSlU10 : Go.Proofs.SlLaysU.n10 Tryd.prog Tryd.laysSlU10_ren := {
  mixed := by kernel_rfl
  f10 := Tryd.func95.trans (congrArg some (by kernel_rfl))
  f15 := Tryd.func116.trans (congrArg some (by kernel_rfl))
  t0 := Tryd.underlying0
  a0 := Tryd.isAgg0
  z0 := Tryd.sizeOf0
  v0 := Tryd.zeroValue0
  t3 := Tryd.underlying3
  a3 := Tryd.isAgg3
  z3 := Tryd.sizeOf3
  v3 := Tryd.zeroValue3
  t4 := Tryd.underlying4
  a4 := Tryd.isAgg4
  z4 := Tryd.sizeOf4
  v4 := Tryd.zeroValue4
  t5 := Tryd.underlying5
  a5 := Tryd.isAgg5
  z5 := Tryd.sizeOf5
  v5 := Tryd.zeroValue5
  t22 := Tryd.underlying34
  a22 := Tryd.isAgg34
  z22 := Tryd.sizeOf34
  v22 := Tryd.zeroValue34
  t30 := Tryd.underlying84
  a30 := Tryd.isAgg84
  z30 := Tryd.sizeOf84
  v30 := Tryd.zeroValue84
  i5 := by kernel_rfl }
open Go.RowKit Go.Lib in
theorem Tryd.bytes_ToLower_ascii (b o c : Nat) (s : ByteArray) (w : World) (hc : Lib.Bytes w b o s) (h0 : 0 < s.size) (hs : s.size ≤ 140737488355328) (hascii : ∀ (j : Nat) (x : UInt8), s.data.toList[j]? = some x → x.toNat < 128) :
    Calls Tryd.prog 95 #[.slice (some ⟨b, o, none⟩) s.size c] w fun e w' => ∃ v', e = .returned v' ∧ Lib.FreshBytes w.heap.size w' v' (Lib.toLowerA s.data.toList) ∧ Below w.heap.size w w' := Any.bytes_ToLower_ascii Tryd.laysSlU10 b o c s w hc h0 hs hascii
open Go.RowKit Go.Lib in
theorem Tryd.bytes_ToLower_empty (p : Option Addr) (c : Nat) (w : World) :
    Calls Tryd.prog 95 #[.slice p 0 c] w fun e w' => e = .returned (.slice (some ⟨w.heap.size, 0, none⟩) 0 0) ∧ w' = w.alloc (.cells #[] 5 (0, 1)) := Any.bytes_ToLower_empty Tryd.laysSlU10 p c w
open Go.RowKit Go.Lib in
theorem Tryd.bytes_ToLower_at (a : Addr) (n c : Nat) (xs : List Int) (w : World) (hx : xs.length = n) (hasc : ∀ x ∈ xs, 0 ≤ x ∧ x < 128) (hc : ∀ i, i < n → w.cell? (a.add i) = some (.int .u8 (xs.getD i 0))) (h0 : 0 < n) (hs : n ≤ 140737488355328) :
    Calls Tryd.prog 95 #[.slice (some a) n c] w fun e w' => ∃ v', e = .returned v' ∧ Lib.FreshBytes w.heap.size w' v' (Lib.toLowerA (Lib.bytesOf xs)) ∧ Below w.heap.size w w' := Any.bytes_ToLower_at Tryd.laysSlU10 a n c xs w hx hasc hc h0 hs
theorem Tryd.bytes_IndexByte (b o n c : Nat) (xs : List Int) (cv : Int) (w : World) (hx : xs.length = n) (hc : ∀ i, i < n → w.cell? ⟨b, o + i, none⟩ = some (.int .u8 (xs.getD i 0))) :
    Calls Tryd.prog 89 #[.slice (some ⟨b, o, none⟩) n c, .int .u8 cv] w fun e w' => e = .returned (.int .i64 (Lib.indexByte (Lib.bytesOf xs) cv.toNat.toUInt8)) ∧ w' = w := Any.bytes_IndexByte Tryd.lays187 b o n c xs cv w hx hc
theorem Tryd.bytes_IndexByte_nil (cv : Int) (w : World) :
    Calls Tryd.prog 89 #[.slice none 0 0, .int .u8 cv] w fun e w' => e = .returned (.int .i64 (-1)) ∧ w' = w := Any.bytes_IndexByte_nil Tryd.lays187 cv w
end Go.Proofs
