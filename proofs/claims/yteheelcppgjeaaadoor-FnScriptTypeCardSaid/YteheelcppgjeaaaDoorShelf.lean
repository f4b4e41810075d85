/- The library's contracts at this translation, laid by the kit's own tool (its plain mode). -/
import Derived.Shelf.Strings.Builder1
import Derived.Shelf.Strings.Builder2
import Derived.Shelf.Strings.OnBuilder
import Derived.Shelf.Strings.TrimSpace
import Derived.Shelf.Small.Utf8
import Derived.Shelf.Strings.BuilderF
import Derived.Shelf.Strings.BuilderK
import Derived.Shelf.Strings.BuilderRune
import Derived.Shelf.Strings.Builder2Cap
import Derived.Shelf.Strconv.Itoa0
import Derived.Shelf.Strconv.Itoa1
import Derived.Shelf.LaysM
import Derived.Shelf.Strconv.Itoa2
import Derived.Shelf.Strconv.Itoa3
import Derived.Shelf.Strconv.Itoa4
import Derived.Shelf.GgClosure.StringsIndexFunc
import Derived.Shelf.Unicode.Latin
import Derived.Shelf.Unicode.Decode
import Derived.Shelf.Unicode.DecodeSlow
import Derived.Shelf.Unicode.DecodeAny
import Derived.Shelf.Unicode.Is16White
import Derived.Shelf.Unicode.IsSpaceAny
import Derived.Shelf.Unicode.DecodeLast
import Derived.Shelf.Strings.TrimSpaceAny
import Derived.Shelf.Unicode.CaseLookup
import Derived.Shelf.Unicode.CaseConvert
import Derived.Shelf.Unicode.CaseTo
import Derived.Shelf.Unicode.CaseLaid
import Derived.Shelf.Strings.MapAny
import Derived.Shelf.Strings.CaseAny
import Derived.Shelf.Unicode.Is16Any
import Derived.Shelf.Unicode.Is32Any
import Derived.Shelf.Unicode.ExclAny
import Derived.Shelf.Strings.BuilderCap
import Derived.Shelf.Bytes.SlSearch0
import Derived.Shelf.Bytes.SlSmallAll
import Derived.Shelf.Bytes.SlEqualAll
import Derived.Shelf.Bytes.Small
import Derived.Test.YteheelcppgjeaaaDoorProg
namespace Go.Proofs
open Go.Shelf
def Tryd.lays169_ren : Go.Shelf.Ren := ⟨fun | 169 => 81 | n => n, fun | 70 => 58 | 9 => 9 | 0 => 0 | 72 => 60 | 37 => 36 | 127 => 82 | 3 => 3 | 5 => 5 | n => n, fun | n => n⟩
theorem Tryd.lays169 : Go.Proofs.Lays.n169 Tryd.prog Tryd.lays169_ren := {
  mixed := by kernel_rfl
  f169 := Tryd.func81.trans (congrArg some (by kernel_rfl))
  t0 := Tryd.underlying0
  a0 := Tryd.isAgg0
  z0 := Tryd.sizeOf0
  v0 := Tryd.zeroValue0
  t3 := Tryd.underlying3
  a3 := Tryd.isAgg3
  z3 := Tryd.sizeOf3
  v3 := Tryd.zeroValue3
  t9 := Tryd.underlying9
  a9 := Tryd.isAgg9
  z9 := Tryd.sizeOf9
  v9 := Tryd.zeroValue9
  t37 := Tryd.underlying36
  a37 := Tryd.isAgg36
  z37 := Tryd.sizeOf36
  v37 := Tryd.zeroValue36
  t70 := Tryd.underlying58
  a70 := Tryd.isAgg58
  z70 := Tryd.sizeOf58
  v70 := Tryd.zeroValue58
  t72 := Tryd.underlying60
  a72 := Tryd.isAgg60
  z72 := Tryd.sizeOf60
  v72 := Tryd.zeroValue60
  t127 := Tryd.underlying82
  a127 := Tryd.isAgg82
  z127 := Tryd.sizeOf82
  v127 := Tryd.zeroValue82 }
theorem Tryd.Builder_Extra_169 : Builder.Extra Tryd.prog Tryd.lays169_ren := {
  sizeBuilder := by kernel_rfl
  liesBuilder := by kernel_rfl
  t5 := Tryd.underlying5
  a5 := Tryd.isAgg5
  z5 := Tryd.sizeOf5
  v5 := Tryd.zeroValue5
  infoByte := by kernel_rfl
  cellsByte := by kernel_rfl
  sizeByte := by kernel_rfl
  neB5 := by decide }
open Go.RowKit in
theorem Tryd.Builder_String (B b : Nat) (l : List UInt8) (w : World) (h : Lib.IsBuilder 60 5 B b (Lib.byteCells l) w) (h0 : l ≠ []) :
    Calls Tryd.prog 81 #[.pointer (some ⟨b, 0, none⟩)] w fun e w' => e = .returned (.string ⟨l.toArray⟩) ∧ Below B w w' := Any.Builder_String Tryd.lays169 Tryd.Builder_Extra_169 B b l w h h0
open Go.RowKit in
theorem Tryd.Builder_String_empty (B b : Nat) (w : World) (h : Lib.IsBuilder 60 5 B b [] w) (hBw : B ≤ w.heap.size) :
    Calls Tryd.prog 81 #[.pointer (some ⟨b, 0, none⟩)] w fun e w' => e = .returned (.string ⟨#[]⟩) ∧ Below B w w' := Any.Builder_String_empty Tryd.lays169 Tryd.Builder_Extra_169 B b w h hBw
open Go.RowKit in
theorem Tryd.Builder_String_any (B b : Nat) (l : List UInt8) (w : World) (h : Lib.IsBuilder 60 5 B b (Lib.byteCells l) w) (hBw : B ≤ w.heap.size) :
    Calls Tryd.prog 81 #[.pointer (some ⟨b, 0, none⟩)] w fun e w' => e = .returned (.string ⟨l.toArray⟩) ∧ Below B w w' := Any.Builder_String_any Tryd.lays169 Tryd.Builder_Extra_169 B b l w h hBw
def Tryd.lays241_ren : Go.Shelf.Ren := ⟨fun | 241 => 100 | 277 => 115 | n => n, fun | 70 => 58 | 3 => 3 | 0 => 0 | 72 => 60 | 37 => 36 | 5 => 5 | n => n, fun | n => n⟩
theorem Tryd.lays241 : Go.Proofs.Lays.n241 Tryd.prog Tryd.lays241_ren := {
  mixed := by kernel_rfl
  f241 := Tryd.func100.trans (congrArg some (by kernel_rfl))
  f277 := Tryd.func115.trans (congrArg some (by kernel_rfl))
  t0 := Tryd.underlying0
  a0 := Tryd.isAgg0
  z0 := Tryd.sizeOf0
  v0 := Tryd.zeroValue0
  t3 := Tryd.underlying3
  a3 := Tryd.isAgg3
  z3 := Tryd.sizeOf3
  v3 := Tryd.zeroValue3
  t37 := Tryd.underlying36
  a37 := Tryd.isAgg36
  z37 := Tryd.sizeOf36
  v37 := Tryd.zeroValue36
  t70 := Tryd.underlying58
  a70 := Tryd.isAgg58
  z70 := Tryd.sizeOf58
  v70 := Tryd.zeroValue58
  t72 := Tryd.underlying60
  a72 := Tryd.isAgg60
  z72 := Tryd.sizeOf60
  v72 := Tryd.zeroValue60 }
theorem Tryd.Builder_Extra_241 : Builder.Extra Tryd.prog Tryd.lays241_ren := {
  sizeBuilder := by kernel_rfl
  liesBuilder := by kernel_rfl
  t5 := Tryd.underlying5
  a5 := Tryd.isAgg5
  z5 := Tryd.sizeOf5
  v5 := Tryd.zeroValue5
  infoByte := by kernel_rfl
  cellsByte := by kernel_rfl
  sizeByte := by kernel_rfl
  neB5 := by decide }
open Go.RowKit in
theorem Tryd.Builder_grow_fresh (B b n : Nat) (w : World) (hB : B ≤ b) (hbk : w.heap[b]? = some (.cells #[.pointer (some ⟨b, 0, none⟩), .slice none 0 0] 60 (0, 0))) (hBw : B ≤ w.heap.size) (hn : n ≤ 281474976710656) :
    Calls Tryd.prog 100 #[.pointer (some ⟨b, 0, none⟩), .int .i64 n] w fun e w' => e = .returned (.tuple #[]) ∧ (Lib.BuilderAt 60 5 B b (.pointer (some ⟨b, 0, none⟩)) [] w' ∧ Below B w w') := Any.Builder_grow_fresh Tryd.lays241 Tryd.Builder_Extra_241 B b n w hB hbk hBw hn
def Tryd.lays165_ren : Go.Shelf.Ren := ⟨fun | 165 => 78 | 240 => 99 | 241 => 100 | 276 => 114 | 277 => 115 | n => n, fun | 70 => 58 | 3 => 3 | 0 => 0 | 4 => 4 | 9 => 9 | 20 => 20 | 72 => 60 | 37 => 36 | 164 => 101 | 5 => 5 | n => n, fun | n => n⟩
theorem Tryd.lays165 : Go.Proofs.Lays.n165 Tryd.prog Tryd.lays165_ren := {
  mixed := by kernel_rfl
  f165 := Tryd.func78.trans (congrArg some (by kernel_rfl))
  f240 := Tryd.func99.trans (congrArg some (by kernel_rfl))
  f241 := Tryd.func100.trans (congrArg some (by kernel_rfl))
  f276 := Tryd.func114.trans (congrArg some (by kernel_rfl))
  f277 := Tryd.func115.trans (congrArg some (by kernel_rfl))
  t0 := Tryd.underlying0
  a0 := Tryd.isAgg0
  z0 := Tryd.sizeOf0
  v0 := Tryd.zeroValue0
  t3 := Tryd.underlying3
  a3 := Tryd.isAgg3
  z3 := Tryd.sizeOf3
  v3 := Tryd.zeroValue3
  t4 := Tryd.underlying4
  a4 := Tryd.isAgg4
  z4 := Tryd.sizeOf4
  v4 := Tryd.zeroValue4
  t9 := Tryd.underlying9
  a9 := Tryd.isAgg9
  z9 := Tryd.sizeOf9
  v9 := Tryd.zeroValue9
  t20 := Tryd.underlying20
  a20 := Tryd.isAgg20
  z20 := Tryd.sizeOf20
  v20 := Tryd.zeroValue20
  t37 := Tryd.underlying36
  a37 := Tryd.isAgg36
  z37 := Tryd.sizeOf36
  v37 := Tryd.zeroValue36
  t70 := Tryd.underlying58
  a70 := Tryd.isAgg58
  z70 := Tryd.sizeOf58
  v70 := Tryd.zeroValue58
  t72 := Tryd.underlying60
  a72 := Tryd.isAgg60
  z72 := Tryd.sizeOf60
  v72 := Tryd.zeroValue60
  t164 := Tryd.underlying101
  a164 := Tryd.isAgg101
  z164 := Tryd.sizeOf101
  v164 := Tryd.zeroValue101 }
theorem Tryd.Builder_Extra_165 : Builder.Extra Tryd.prog Tryd.lays165_ren := {
  sizeBuilder := by kernel_rfl
  liesBuilder := by kernel_rfl
  t5 := Tryd.underlying5
  a5 := Tryd.isAgg5
  z5 := Tryd.sizeOf5
  v5 := Tryd.zeroValue5
  infoByte := by kernel_rfl
  cellsByte := by kernel_rfl
  sizeByte := by kernel_rfl
  neB5 := by decide }
open Go.RowKit in
theorem Tryd.Builder_Grow_fresh (B b n : Nat) (w : World) (hB : B ≤ b) (hbk : w.heap[b]? = some (.cells #[.pointer none, .slice none 0 0] 60 (0, 0))) (hBw : B ≤ w.heap.size) (hn : n ≤ 281474976710656) :
    Calls Tryd.prog 78 #[.pointer (some ⟨b, 0, none⟩), .int .i64 n] w fun e w' => e = .returned (.tuple #[]) ∧ (Lib.BuilderAt 60 5 B b (.pointer (some ⟨b, 0, none⟩)) [] w' ∧ Below B w w') := Any.Builder_Grow_fresh Tryd.lays165 Tryd.Builder_Extra_165 B b n w hB hbk hBw hn
def Tryd.lays159_ren : Go.Shelf.Ren := ⟨fun | 159 => 95 | 165 => 78 | 166 => 79 | 167 => 108 | 169 => 81 | 230 => 109 | 204 => 110 | 240 => 99 | 241 => 100 | 197 => 77 | 118 => 120 | 168 => 121 | 270 => 122 | 262 => 123 | 276 => 114 | 277 => 115 | 260 => 98 | 242 => 133 | 313 => 134 | 278 => 145 | 274 => 146 | 275 => 147 | n => n, fun | 9 => 9 | 4 => 4 | 3 => 3 | 5 => 5 | 72 => 60 | 0 => 0 | 76 => 66 | 75 => 65 | 107 => 94 | 70 => 58 | 20 => 20 | 37 => 36 | 127 => 82 | 21 => 21 | 105 => 61 | 164 => 101 | 162 => 123 | 203 => 121 | 119 => 96 | 46 => 51 | 139 => 100 | 138 => 99 | 51 => 110 | 160 => 140 | 208 => 149 | 206 => 147 | 80 => 69 | n => n, fun | 13 => 6 | 3 => 2 | 4 => 3 | n => n⟩
theorem Tryd.lays159 : Go.Proofs.Lays.n159 Tryd.prog Tryd.lays159_ren := {
  mixed := by kernel_rfl
  f118 := Tryd.func120.trans (congrArg some (by kernel_rfl))
  f159 := Tryd.func95.trans (congrArg some (by kernel_rfl))
  f165 := Tryd.func78.trans (congrArg some (by kernel_rfl))
  f166 := Tryd.func79.trans (congrArg some (by kernel_rfl))
  f167 := Tryd.func108.trans (congrArg some (by kernel_rfl))
  f168 := Tryd.func121.trans (congrArg some (by kernel_rfl))
  f169 := Tryd.func81.trans (congrArg some (by kernel_rfl))
  f197 := Tryd.func77.trans (congrArg some (by kernel_rfl))
  f204 := Tryd.func110.trans (congrArg some (by kernel_rfl))
  f230 := Tryd.func109.trans (congrArg some (by kernel_rfl))
  f240 := Tryd.func99.trans (congrArg some (by kernel_rfl))
  f241 := Tryd.func100.trans (congrArg some (by kernel_rfl))
  f242 := Tryd.func133.trans (congrArg some (by kernel_rfl))
  f260 := Tryd.func98.trans (congrArg some (by kernel_rfl))
  f262 := Tryd.func123.trans (congrArg some (by kernel_rfl))
  f270 := Tryd.func122.trans (congrArg some (by kernel_rfl))
  f274 := Tryd.func146.trans (congrArg some (by kernel_rfl))
  f275 := Tryd.func147.trans (congrArg some (by kernel_rfl))
  f276 := Tryd.func114.trans (congrArg some (by kernel_rfl))
  f277 := Tryd.func115.trans (congrArg some (by kernel_rfl))
  f278 := Tryd.func145.trans (congrArg some (by kernel_rfl))
  f313 := Tryd.func134.trans (congrArg some (by kernel_rfl))
  t0 := Tryd.underlying0
  a0 := Tryd.isAgg0
  z0 := Tryd.sizeOf0
  v0 := Tryd.zeroValue0
  t3 := Tryd.underlying3
  a3 := Tryd.isAgg3
  z3 := Tryd.sizeOf3
  v3 := Tryd.zeroValue3
  t4 := Tryd.underlying4
  a4 := Tryd.isAgg4
  z4 := Tryd.sizeOf4
  v4 := Tryd.zeroValue4
  t5 := Tryd.underlying5
  a5 := Tryd.isAgg5
  z5 := Tryd.sizeOf5
  v5 := Tryd.zeroValue5
  t9 := Tryd.underlying9
  a9 := Tryd.isAgg9
  z9 := Tryd.sizeOf9
  v9 := Tryd.zeroValue9
  t20 := Tryd.underlying20
  a20 := Tryd.isAgg20
  z20 := Tryd.sizeOf20
  v20 := Tryd.zeroValue20
  t21 := Tryd.underlying21
  a21 := Tryd.isAgg21
  z21 := Tryd.sizeOf21
  v21 := Tryd.zeroValue21
  t37 := Tryd.underlying36
  a37 := Tryd.isAgg36
  z37 := Tryd.sizeOf36
  v37 := Tryd.zeroValue36
  t46 := Tryd.underlying51
  a46 := Tryd.isAgg51
  z46 := Tryd.sizeOf51
  v46 := Tryd.zeroValue51
  t51 := Tryd.underlying110
  a51 := Tryd.isAgg110
  z51 := Tryd.sizeOf110
  v51 := Tryd.zeroValue110
  t70 := Tryd.underlying58
  a70 := Tryd.isAgg58
  z70 := Tryd.sizeOf58
  v70 := Tryd.zeroValue58
  t72 := Tryd.underlying60
  a72 := Tryd.isAgg60
  z72 := Tryd.sizeOf60
  v72 := Tryd.zeroValue60
  t75 := Tryd.underlying65
  a75 := Tryd.isAgg65
  z75 := Tryd.sizeOf65
  v75 := Tryd.zeroValue65
  t76 := Tryd.underlying66
  a76 := Tryd.isAgg66
  z76 := Tryd.sizeOf66
  v76 := Tryd.zeroValue66
  t105 := Tryd.underlying61
  a105 := Tryd.isAgg61
  z105 := Tryd.sizeOf61
  v105 := Tryd.zeroValue61
  t107 := Tryd.underlying94
  a107 := Tryd.isAgg94
  z107 := Tryd.sizeOf94
  v107 := Tryd.zeroValue94
  t119 := Tryd.underlying96
  a119 := Tryd.isAgg96
  z119 := Tryd.sizeOf96
  t127 := Tryd.underlying82
  a127 := Tryd.isAgg82
  z127 := Tryd.sizeOf82
  v127 := Tryd.zeroValue82
  t138 := Tryd.underlying99
  a138 := Tryd.isAgg99
  z138 := Tryd.sizeOf99
  v138 := Tryd.zeroValue99
  t139 := Tryd.underlying100
  a139 := Tryd.isAgg100
  z139 := Tryd.sizeOf100
  v139 := Tryd.zeroValue100
  t160 := Tryd.underlying140
  a160 := Tryd.isAgg140
  z160 := Tryd.sizeOf140
  v160 := Tryd.zeroValue140
  t162 := Tryd.underlying123
  a162 := Tryd.isAgg123
  z162 := Tryd.sizeOf123
  v162 := Tryd.zeroValue123
  t164 := Tryd.underlying101
  a164 := Tryd.isAgg101
  z164 := Tryd.sizeOf101
  v164 := Tryd.zeroValue101
  t203 := Tryd.underlying121
  a203 := Tryd.isAgg121
  z203 := Tryd.sizeOf121
  v203 := Tryd.zeroValue121
  t206 := Tryd.underlying147
  a206 := Tryd.isAgg147
  z206 := Tryd.sizeOf147
  v206 := Tryd.zeroValue147
  t208 := Tryd.underlying149
  a208 := Tryd.isAgg149
  z208 := Tryd.sizeOf149
  v208 := Tryd.zeroValue149
  g3 := by kernel_rfl
  g4 := by kernel_rfl
  g13 := by kernel_rfl }
theorem Tryd.Builder_Extra_159 : Builder.Extra Tryd.prog Tryd.lays159_ren := {
  sizeBuilder := by kernel_rfl
  liesBuilder := by kernel_rfl
  t5 := Tryd.underlying5
  a5 := Tryd.isAgg5
  z5 := Tryd.sizeOf5
  v5 := Tryd.zeroValue5
  infoByte := by kernel_rfl
  cellsByte := by kernel_rfl
  sizeByte := by kernel_rfl
  neB5 := by decide }
open Go.RowKit in
theorem Tryd.strings_ToLower_ascii (s : ByteArray) (w : World) (hs : s.size ≤ 140737488355328) (hascii : ∀ (j : Nat) (b : UInt8), s.data.toList[j]? = some b → b.toNat < 128) :
    Calls Tryd.prog 95 #[.string s] w fun e w' => e = .returned (.string ⟨(Lib.toLowerA s.data.toList).toArray⟩) ∧ Below w.heap.size w w' := Any.strings_ToLower_ascii Tryd.lays159 Tryd.Builder_Extra_159 s w hs hascii
def Tryd.lays163_ren : Go.Shelf.Ren := ⟨fun | 163 => 96 | 237 => 111 | 199 => 112 | 238 => 113 | 272 => 124 | 261 => 125 | 273 => 126 | 197 => 77 | 315 => 135 | 311 => 136 | 312 => 137 | 271 => 138 | 260 => 98 | 120 => 131 | n => n, fun | 9 => 9 | 37 => 36 | 3 => 3 | 0 => 0 | 5 => 5 | 4 => 4 | 40 => 74 | 119 => 96 | 21 => 21 | 51 => 110 | 141 => 112 | 105 => 61 | 196 => 127 | 193 => 124 | 198 => 130 | 49 => 128 | 194 => 125 | 201 => 133 | 226 => 143 | 46 => 51 | 227 => 144 | 139 => 100 | 138 => 99 | n => n, fun | 0 => 1 | 6 => 4 | 3 => 2 | 4 => 3 | n => n⟩
theorem Tryd.lays163 : Go.Proofs.Lays.n163 Tryd.prog Tryd.lays163_ren := {
  mixed := by kernel_rfl
  f120 := Tryd.func131.trans (congrArg some (by kernel_rfl))
  f163 := Tryd.func96.trans (congrArg some (by kernel_rfl))
  f197 := Tryd.func77.trans (congrArg some (by kernel_rfl))
  f199 := Tryd.func112.trans (congrArg some (by kernel_rfl))
  f237 := Tryd.func111.trans (congrArg some (by kernel_rfl))
  f238 := Tryd.func113.trans (congrArg some (by kernel_rfl))
  f260 := Tryd.func98.trans (congrArg some (by kernel_rfl))
  f261 := Tryd.func125.trans (congrArg some (by kernel_rfl))
  f271 := Tryd.func138.trans (congrArg some (by kernel_rfl))
  f272 := Tryd.func124.trans (congrArg some (by kernel_rfl))
  f273 := Tryd.func126.trans (congrArg some (by kernel_rfl))
  f311 := Tryd.func136.trans (congrArg some (by kernel_rfl))
  f312 := Tryd.func137.trans (congrArg some (by kernel_rfl))
  f315 := Tryd.func135.trans (congrArg some (by kernel_rfl))
  t0 := Tryd.underlying0
  a0 := Tryd.isAgg0
  z0 := Tryd.sizeOf0
  v0 := Tryd.zeroValue0
  t3 := Tryd.underlying3
  a3 := Tryd.isAgg3
  z3 := Tryd.sizeOf3
  v3 := Tryd.zeroValue3
  t4 := Tryd.underlying4
  a4 := Tryd.isAgg4
  z4 := Tryd.sizeOf4
  v4 := Tryd.zeroValue4
  t5 := Tryd.underlying5
  a5 := Tryd.isAgg5
  z5 := Tryd.sizeOf5
  v5 := Tryd.zeroValue5
  t9 := Tryd.underlying9
  a9 := Tryd.isAgg9
  z9 := Tryd.sizeOf9
  v9 := Tryd.zeroValue9
  t21 := Tryd.underlying21
  a21 := Tryd.isAgg21
  z21 := Tryd.sizeOf21
  v21 := Tryd.zeroValue21
  t37 := Tryd.underlying36
  a37 := Tryd.isAgg36
  z37 := Tryd.sizeOf36
  v37 := Tryd.zeroValue36
  t40 := Tryd.underlying74
  a40 := Tryd.isAgg74
  z40 := Tryd.sizeOf74
  v40 := Tryd.zeroValue74
  t46 := Tryd.underlying51
  a46 := Tryd.isAgg51
  z46 := Tryd.sizeOf51
  v46 := Tryd.zeroValue51
  t49 := Tryd.underlying128
  a49 := Tryd.isAgg128
  z49 := Tryd.sizeOf128
  v49 := Tryd.zeroValue128
  t51 := Tryd.underlying110
  a51 := Tryd.isAgg110
  z51 := Tryd.sizeOf110
  v51 := Tryd.zeroValue110
  t105 := Tryd.underlying61
  a105 := Tryd.isAgg61
  z105 := Tryd.sizeOf61
  v105 := Tryd.zeroValue61
  t119 := Tryd.underlying96
  a119 := Tryd.isAgg96
  z119 := Tryd.sizeOf96
  t138 := Tryd.underlying99
  a138 := Tryd.isAgg99
  z138 := Tryd.sizeOf99
  v138 := Tryd.zeroValue99
  t139 := Tryd.underlying100
  a139 := Tryd.isAgg100
  z139 := Tryd.sizeOf100
  v139 := Tryd.zeroValue100
  t141 := Tryd.underlying112
  a141 := Tryd.isAgg112
  z141 := Tryd.sizeOf112
  v141 := Tryd.zeroValue112
  t193 := Tryd.underlying124
  a193 := Tryd.isAgg124
  z193 := Tryd.sizeOf124
  v193 := Tryd.zeroValue124
  t194 := Tryd.underlying125
  a194 := Tryd.isAgg125
  z194 := Tryd.sizeOf125
  v194 := Tryd.zeroValue125
  t196 := Tryd.underlying127
  a196 := Tryd.isAgg127
  z196 := Tryd.sizeOf127
  v196 := Tryd.zeroValue127
  t198 := Tryd.underlying130
  a198 := Tryd.isAgg130
  z198 := Tryd.sizeOf130
  v198 := Tryd.zeroValue130
  t201 := Tryd.underlying133
  a201 := Tryd.isAgg133
  z201 := Tryd.sizeOf133
  v201 := Tryd.zeroValue133
  t226 := Tryd.underlying143
  a226 := Tryd.isAgg143
  z226 := Tryd.sizeOf143
  v226 := Tryd.zeroValue143
  t227 := Tryd.underlying144
  a227 := Tryd.isAgg144
  z227 := Tryd.sizeOf144
  v227 := Tryd.zeroValue144
  g0 := by kernel_rfl
  g3 := by kernel_rfl
  g4 := by kernel_rfl
  g6 := by kernel_rfl }
theorem Tryd.Space_Extra_163 : Space.Extra Tryd.prog Tryd.lays163_ren := {
  gNamed := by kernel_rfl }
open Go.RowKit in
theorem Tryd.strings_TrimSpace (s : ByteArray) (w : World) (hs : s.size ≤ 9223372036854775807) (hascii : ∀ (j : Nat) b, s.data.toList[j]? = some b → b.toNat < 128) (htab : Lib.TabIs Tryd.prog w "strings.asciiSpace" .u8 Lib.asciiSpaceTab) :
    Calls Tryd.prog 96 #[.string s] w fun e w' => e = .returned (.string ⟨(Lib.trimSpace s.data.toList).toArray⟩) ∧ w' = Lib.bytesWorld w 5 s := Any.strings_TrimSpace Tryd.lays163 Tryd.Space_Extra_163 s w hs hascii htab
def Tryd.lays118_ren : Go.Shelf.Ren := ⟨fun | 118 => 120 | n => n, fun | 21 => 21 | 3 => 3 | 4 => 4 | n => n, fun | n => n⟩
theorem Tryd.lays118 : Go.Proofs.Lays.n118 Tryd.prog Tryd.lays118_ren := {
  mixed := by kernel_rfl
  f118 := Tryd.func120.trans (congrArg some (by kernel_rfl))
  t3 := Tryd.underlying3
  a3 := Tryd.isAgg3
  z3 := Tryd.sizeOf3
  v3 := Tryd.zeroValue3
  t4 := Tryd.underlying4
  a4 := Tryd.isAgg4
  z4 := Tryd.sizeOf4
  v4 := Tryd.zeroValue4
  t21 := Tryd.underlying21
  a21 := Tryd.isAgg21
  z21 := Tryd.sizeOf21
  v21 := Tryd.zeroValue21 }
theorem Tryd.utf8_RuneLen (r : Int) (w : World) :
    Calls Tryd.prog 120 #[.int .i32 r] w fun e w' => e = .returned (.int .i64 (Lib.runeLen r)) ∧ w' = w := Any.utf8_RuneLen Tryd.lays118 r w
def Tryd.lays120_ren : Go.Shelf.Ren := ⟨fun | 120 => 131 | n => n, fun | 5 => 5 | 4 => 4 | n => n, fun | n => n⟩
theorem Tryd.lays120 : Go.Proofs.Lays.n120 Tryd.prog Tryd.lays120_ren := {
  mixed := by kernel_rfl
  f120 := Tryd.func131.trans (congrArg some (by kernel_rfl))
  t4 := Tryd.underlying4
  a4 := Tryd.isAgg4
  z4 := Tryd.sizeOf4
  v4 := Tryd.zeroValue4
  t5 := Tryd.underlying5
  a5 := Tryd.isAgg5
  z5 := Tryd.sizeOf5
  v5 := Tryd.zeroValue5 }
theorem Tryd.utf8_RuneStart (b : Int) (w : World) (h0 : 0 ≤ b) (h1 : b < 256) :
    Calls Tryd.prog 131 #[.int .u8 b] w fun e w' => e = .returned (.bool (Lib.runeStart b)) ∧ w' = w := Any.utf8_RuneStart Tryd.lays120 b w h0 h1
open Go.RowKit in
theorem Tryd.Builder_String_f (B b : Nat) (l : List UInt8) (w : World) (h : Lib.IsBuilderF 60 5 B b (Lib.byteCells l) w) (h0 : l ≠ []) :
    Calls Tryd.prog 81 #[.pointer (some ⟨b, 0, none⟩)] w fun e w' => e = .returned (.string ⟨l.toArray⟩) ∧ (Lib.IsBuilderF 60 5 B b (Lib.byteCells l) w' ∧ Below B w w') := Any.Builder_String_f Tryd.lays169 Tryd.Builder_Extra_169 B b l w h h0
open Go.RowKit in
theorem Tryd.Builder_String_empty_f (B b : Nat) (w : World) (h : Lib.IsBuilderF 60 5 B b [] w) (hBw : B ≤ w.heap.size) :
    Calls Tryd.prog 81 #[.pointer (some ⟨b, 0, none⟩)] w fun e w' => e = .returned (.string ⟨#[]⟩) ∧ (Lib.IsBuilderF 60 5 B b [] w' ∧ Below B w w') := Any.Builder_String_empty_f Tryd.lays169 Tryd.Builder_Extra_169 B b w h hBw
open Go.RowKit in
theorem Tryd.Builder_String_any_f (B b : Nat) (l : List UInt8) (w : World) (h : Lib.IsBuilderF 60 5 B b (Lib.byteCells l) w) (hBw : B ≤ w.heap.size) :
    Calls Tryd.prog 81 #[.pointer (some ⟨b, 0, none⟩)] w fun e w' => e = .returned (.string ⟨l.toArray⟩) ∧ (Lib.IsBuilderF 60 5 B b (Lib.byteCells l) w' ∧ Below B w w') := Any.Builder_String_any_f Tryd.lays169 Tryd.Builder_Extra_169 B b l w h hBw
open Go.RowKit in
theorem Tryd.Builder_String_k (B b : Nat) (l : List UInt8) (w : World) (h : Lib.IsBuilderF 60 5 B b (Lib.byteCells l) w) (h0 : l ≠ []) :
    Calls Tryd.prog 81 #[.pointer (some ⟨b, 0, none⟩)] w fun e w' => e = .returned (.string ⟨l.toArray⟩) ∧ (Lib.IsBuilderF 60 5 B b (Lib.byteCells l) w' ∧ Below B w w' ∧ Lib.OthersKept 5 (some b) w w') := Any.Builder_String_k Tryd.lays169 Tryd.Builder_Extra_169 B b l w h h0
open Go.RowKit in
theorem Tryd.Builder_String_empty_k (B b : Nat) (w : World) (h : Lib.IsBuilderF 60 5 B b [] w) (hBw : B ≤ w.heap.size) :
    Calls Tryd.prog 81 #[.pointer (some ⟨b, 0, none⟩)] w fun e w' => e = .returned (.string ⟨#[]⟩) ∧ (Lib.IsBuilderF 60 5 B b [] w' ∧ Below B w w' ∧ Lib.OthersKept 5 (some b) w w') := Any.Builder_String_empty_k Tryd.lays169 Tryd.Builder_Extra_169 B b w h hBw
open Go.RowKit in
theorem Tryd.Builder_String_any_k (B b : Nat) (l : List UInt8) (w : World) (h : Lib.IsBuilderF 60 5 B b (Lib.byteCells l) w) (hBw : B ≤ w.heap.size) :
    Calls Tryd.prog 81 #[.pointer (some ⟨b, 0, none⟩)] w fun e w' => e = .returned (.string ⟨l.toArray⟩) ∧ (Lib.IsBuilderF 60 5 B b (Lib.byteCells l) w' ∧ Below B w w' ∧ Lib.OthersKept 5 (some b) w w') := Any.Builder_String_any_k Tryd.lays169 Tryd.Builder_Extra_169 B b l w h hBw
open Go.RowKit in
theorem Tryd.Builder_grow_fresh_cap (B b n : Nat) (w : World) (hB : B ≤ b) (hbk : w.heap[b]? = some (.cells #[.pointer (some ⟨b, 0, none⟩), .slice none 0 0] 60 (0, 0))) (hBw : B ≤ w.heap.size) (hn : n ≤ 281474976710656) :
    Calls Tryd.prog 100 #[.pointer (some ⟨b, 0, none⟩), .int .i64 n] w fun e w' => e = .returned (.tuple #[]) ∧ (Lib.BuilderAt 60 5 B b (.pointer (some ⟨b, 0, none⟩)) [] w' ∧ Below B w w') ∧ ∃ p cap, w'.cell? ⟨b, 1, none⟩ = some (.slice p 0 cap) ∧ n ≤ cap := Any.Builder_grow_fresh_cap Tryd.lays241 Tryd.Builder_Extra_241 B b n w hB hbk hBw hn
open Go.RowKit in
theorem Tryd.Builder_Grow_fresh_cap (B b n : Nat) (w : World) (hB : B ≤ b) (hbk : w.heap[b]? = some (.cells #[.pointer none, .slice none 0 0] 60 (0, 0))) (hBw : B ≤ w.heap.size) (hn : n ≤ 281474976710656) :
    Calls Tryd.prog 78 #[.pointer (some ⟨b, 0, none⟩), .int .i64 n] w fun e w' => e = .returned (.tuple #[]) ∧ (Lib.BuilderAt 60 5 B b (.pointer (some ⟨b, 0, none⟩)) [] w' ∧ Below B w w') ∧ ∃ p cap, w'.cell? ⟨b, 1, none⟩ = some (.slice p 0 cap) ∧ n ≤ cap := Any.Builder_Grow_fresh_cap Tryd.lays165 Tryd.Builder_Extra_165 B b n w hB hbk hBw hn
def Tryd.lays129_ren : Go.Shelf.Ren := ⟨fun | 129 => 140 | n => n, fun | 53 => 115 | 3 => 3 | 4 => 4 | 46 => 51 | 5 => 5 | 9 => 9 | n => n, fun | n => n⟩
theorem Tryd.lays129 : Go.Proofs.Lays.n129 Tryd.prog Tryd.lays129_ren := {
  mixed := by kernel_rfl
  f129 := Tryd.func140.trans (congrArg some (by kernel_rfl))
  t3 := Tryd.underlying3
  a3 := Tryd.isAgg3
  z3 := Tryd.sizeOf3
  v3 := Tryd.zeroValue3
  t4 := Tryd.underlying4
  a4 := Tryd.isAgg4
  z4 := Tryd.sizeOf4
  v4 := Tryd.zeroValue4
  t5 := Tryd.underlying5
  a5 := Tryd.isAgg5
  z5 := Tryd.sizeOf5
  v5 := Tryd.zeroValue5
  t9 := Tryd.underlying9
  a9 := Tryd.isAgg9
  z9 := Tryd.sizeOf9
  v9 := Tryd.zeroValue9
  t46 := Tryd.underlying51
  a46 := Tryd.isAgg51
  z46 := Tryd.sizeOf51
  v46 := Tryd.zeroValue51
  t53 := Tryd.underlying115
  a53 := Tryd.isAgg115
  z53 := Tryd.sizeOf115
  v53 := Tryd.zeroValue115 }
theorem Tryd.bits_Len64 (x : Int) (w : World) (h0 : 0 ≤ x) (h1 : x ≤ 18446744073709551615) :
    Calls Tryd.prog 140 #[.int .u64 x] w fun e w' => e = .returned (.int .i64 (Lib.bitLen x.toNat)) ∧ w' = w := Any.bits_Len64 Tryd.lays129 x w h0 h1
def Tryd.lays317_ren : Go.Shelf.Ren := ⟨fun | 317 => 139 | n => n, fun | 3 => 3 | 46 => 51 | n => n, fun | n => n⟩
theorem Tryd.lays317 : Go.Proofs.Lays.n317 Tryd.prog Tryd.lays317_ren := {
  mixed := by kernel_rfl
  f317 := Tryd.func139.trans (congrArg some (by kernel_rfl))
  t3 := Tryd.underlying3
  a3 := Tryd.isAgg3
  z3 := Tryd.sizeOf3
  v3 := Tryd.zeroValue3
  t46 := Tryd.underlying51
  a46 := Tryd.isAgg51
  z46 := Tryd.sizeOf51
  v46 := Tryd.zeroValue51 }
open Go.Lib in
theorem Tryd.internal_strconv_log10Pow2 (x : Nat) (h : x ≤ 64) (w : World) :
    Calls Tryd.prog 139 #[.int .i64 x] w fun e w' => e = .returned (.int .i64 (Lib.l10 x)) ∧ w' = w := Any.internal_strconv_log10Pow2 Tryd.lays317 x h w
def Tryd.lays318_ren : Go.Shelf.Ren := ⟨fun | 318 => 141 | n => n, fun | 3 => 3 | 4 => 4 | n => n, fun | n => n⟩
theorem Tryd.lays318 : Go.Proofs.Lays.n318 Tryd.prog Tryd.lays318_ren := {
  mixed := by kernel_rfl
  f318 := Tryd.func141.trans (congrArg some (by kernel_rfl))
  t3 := Tryd.underlying3
  a3 := Tryd.isAgg3
  z3 := Tryd.sizeOf3
  v3 := Tryd.zeroValue3
  t4 := Tryd.underlying4
  a4 := Tryd.isAgg4
  z4 := Tryd.sizeOf4
  v4 := Tryd.zeroValue4 }
open Go.Lib in
theorem Tryd.internal_strconv_bool2_int (b : Bool) (w : World) :
    Calls Tryd.prog 141 #[.bool b] w fun e w' => e = .returned (.int .i64 (if b then 1 else 0)) ∧ w' = w := Any.internal_strconv_bool2_int Tryd.lays318 b w
def Tryd.lays283_ren : Go.Shelf.Ren := ⟨fun | 283 => 127 | n => n, fun | 3 => 3 | 9 => 9 | 4 => 4 | n => n, fun | n => n⟩
theorem Tryd.lays283 : Go.Proofs.Lays.n283 Tryd.prog Tryd.lays283_ren := {
  mixed := by kernel_rfl
  f283 := Tryd.func127.trans (congrArg some (by kernel_rfl))
  t3 := Tryd.underlying3
  a3 := Tryd.isAgg3
  z3 := Tryd.sizeOf3
  v3 := Tryd.zeroValue3
  t4 := Tryd.underlying4
  a4 := Tryd.isAgg4
  z4 := Tryd.sizeOf4
  v4 := Tryd.zeroValue4
  t9 := Tryd.underlying9
  a9 := Tryd.isAgg9
  z9 := Tryd.sizeOf9
  v9 := Tryd.zeroValue9 }
open Go.Lib in
theorem Tryd.internal_strconv_small (i : Nat) (h : i < 100) (w : World) :
    Calls Tryd.prog 127 #[.int .i64 i] w fun e w' => e = .returned (.string ⟨(Lib.decDigits i).toArray⟩) ∧ w' = w := Any.internal_strconv_small Tryd.lays283 i h w
def Tryd.laysM284_ren : Go.Shelf.Ren := ⟨fun | 284 => 128 | 129 => 140 | 317 => 139 | 318 => 141 | n => n, fun | 53 => 115 | 3 => 3 | 212 => 136 | 0 => 0 | 4 => 4 | 46 => 51 | 5 => 5 | 9 => 9 | n => n, fun | 17 => 7 | n => n⟩
theorem Tryd.laysM284 : Go.Proofs.LaysM.n284 Tryd.prog Tryd.laysM284_ren := {
  mixed := by kernel_rfl
  f129 := Tryd.func140.trans (congrArg some (by kernel_rfl))
  f284 := Tryd.func128.trans (congrArg some (by kernel_rfl))
  f317 := Tryd.func139.trans (congrArg some (by kernel_rfl))
  f318 := Tryd.func141.trans (congrArg some (by kernel_rfl))
  t0 := Tryd.underlying0
  a0 := Tryd.isAgg0
  z0 := Tryd.sizeOf0
  v0 := Tryd.zeroValue0
  t3 := Tryd.underlying3
  a3 := Tryd.isAgg3
  z3 := Tryd.sizeOf3
  v3 := Tryd.zeroValue3
  t4 := Tryd.underlying4
  a4 := Tryd.isAgg4
  z4 := Tryd.sizeOf4
  v4 := Tryd.zeroValue4
  t5 := Tryd.underlying5
  a5 := Tryd.isAgg5
  z5 := Tryd.sizeOf5
  v5 := Tryd.zeroValue5
  t9 := Tryd.underlying9
  a9 := Tryd.isAgg9
  z9 := Tryd.sizeOf9
  v9 := Tryd.zeroValue9
  t46 := Tryd.underlying51
  a46 := Tryd.isAgg51
  z46 := Tryd.sizeOf51
  v46 := Tryd.zeroValue51
  t53 := Tryd.underlying115
  a53 := Tryd.isAgg115
  z53 := Tryd.sizeOf115
  v53 := Tryd.zeroValue115
  t212 := Tryd.underlying136
  a212 := Tryd.isAgg136
  z212 := Tryd.sizeOf136
  v212 := Tryd.zeroValue136
  g17 := by kernel_rfl
  i0 := by kernel_rfl
  i3 := by kernel_rfl
  i4 := by kernel_rfl
  i5 := by kernel_rfl
  i9 := by kernel_rfl
  i46 := by kernel_rfl
  i53 := by kernel_rfl
  i212 := by kernel_rfl
  m17 := by kernel_rfl }
open Go.Lib in
theorem Tryd.internal_strconv_numDigits (u : Nat) (h1 : 1 ≤ u) (h2 : u < 18446744073709551616) (w : World) (htab : Lib.TabIs Tryd.prog w "internal/strconv.uint64pow10" .u64 Lib.pow10Tab) :
    Calls Tryd.prog 128 #[.int .u64 u] w fun e w' => e = .returned (.int .i64 (Lib.nDigits u)) ∧ w' = w := Any.internal_strconv_numDigits Tryd.laysM284 u h1 h2 w htab
def Tryd.lays285_ren : Go.Shelf.Ren := ⟨fun | 285 => 129 | n => n, fun | 37 => 36 | 53 => 115 | 3 => 3 | 4 => 4 | 51 => 110 | 9 => 9 | 5 => 5 | 0 => 0 | n => n, fun | n => n⟩
theorem Tryd.lays285 : Go.Proofs.Lays.n285 Tryd.prog Tryd.lays285_ren := {
  mixed := by kernel_rfl
  f285 := Tryd.func129.trans (congrArg some (by kernel_rfl))
  t0 := Tryd.underlying0
  a0 := Tryd.isAgg0
  z0 := Tryd.sizeOf0
  v0 := Tryd.zeroValue0
  t3 := Tryd.underlying3
  a3 := Tryd.isAgg3
  z3 := Tryd.sizeOf3
  v3 := Tryd.zeroValue3
  t4 := Tryd.underlying4
  a4 := Tryd.isAgg4
  z4 := Tryd.sizeOf4
  v4 := Tryd.zeroValue4
  t5 := Tryd.underlying5
  a5 := Tryd.isAgg5
  z5 := Tryd.sizeOf5
  v5 := Tryd.zeroValue5
  t9 := Tryd.underlying9
  a9 := Tryd.isAgg9
  z9 := Tryd.sizeOf9
  v9 := Tryd.zeroValue9
  t37 := Tryd.underlying36
  a37 := Tryd.isAgg36
  z37 := Tryd.sizeOf36
  v37 := Tryd.zeroValue36
  t51 := Tryd.underlying110
  a51 := Tryd.isAgg110
  z51 := Tryd.sizeOf110
  v51 := Tryd.zeroValue110
  t53 := Tryd.underlying115
  a53 := Tryd.isAgg115
  z53 := Tryd.sizeOf115
  v53 := Tryd.zeroValue115 }
open Go.RowKit Go.Sort Go.Lib in
theorem Tryd.internal_strconv_formatBase10 (blk off cap : Nat) (u : Nat) (d : Array UInt8) (w : World) (hH : Holds (fun (b : UInt8) => Value.int .u8 (b.toNat : Int)) w blk off d) (hu : u < 10 ^ d.size) (hu64 : u < 18446744073709551616) (hsz : d.size < 4611686018427387904) :
    Calls Tryd.prog 129 #[.slice (some ⟨blk, off, none⟩) d.size cap, .int .u64 u] w fun e w' =>
      e = .returned (.tuple #[]) ∧ ∃ (n v' : Nat) (dk : Array UInt8), w' = (putRow (fun (b : UInt8) => Value.int .u8 (b.toNat : Int)) w blk off dk).drewN n ∧ FmtInv d.size u 0 v' dk := Any.internal_strconv_formatBase10 Tryd.lays285 blk off cap u d w hH hu hu64 hsz
def Tryd.laysM246_ren : Go.Shelf.Ren := ⟨fun | 246 => 116 | 283 => 127 | 284 => 128 | 285 => 129 | 286 => 130 | 129 => 140 | 317 => 139 | 318 => 141 | 319 => 142 | 320 => 143 | 337 => 148 | 338 => 149 | n => n, fun | 2 => 2 | 3 => 3 | 9 => 9 | 4 => 4 | 171 => 114 | 0 => 0 | 53 => 115 | 37 => 36 | 5 => 5 | 173 => 118 | 212 => 136 | 51 => 110 | 20 => 20 | 213 => 137 | 46 => 51 | 232 => 150 | 233 => 151 | n => n, fun | 17 => 7 | 18 => 8 | 19 => 9 | n => n⟩
theorem Tryd.laysM246 : Go.Proofs.LaysM.n246 Tryd.prog Tryd.laysM246_ren := {
  mixed := by kernel_rfl
  f129 := Tryd.func140.trans (congrArg some (by kernel_rfl))
  f246 := Tryd.func116.trans (congrArg some (by kernel_rfl))
  f283 := Tryd.func127.trans (congrArg some (by kernel_rfl))
  f284 := Tryd.func128.trans (congrArg some (by kernel_rfl))
  f285 := Tryd.func129.trans (congrArg some (by kernel_rfl))
  f286 := Tryd.func130.trans (congrArg some (by kernel_rfl))
  f317 := Tryd.func139.trans (congrArg some (by kernel_rfl))
  f318 := Tryd.func141.trans (congrArg some (by kernel_rfl))
  f319 := Tryd.func142.trans (congrArg some (by kernel_rfl))
  f320 := Tryd.func143.trans (congrArg some (by kernel_rfl))
  f337 := Tryd.func148.trans (congrArg some (by kernel_rfl))
  f338 := Tryd.func149.trans (congrArg some (by kernel_rfl))
  t0 := Tryd.underlying0
  a0 := Tryd.isAgg0
  z0 := Tryd.sizeOf0
  v0 := Tryd.zeroValue0
  t2 := Tryd.underlying2
  a2 := Tryd.isAgg2
  z2 := Tryd.sizeOf2
  v2 := Tryd.zeroValue2
  t3 := Tryd.underlying3
  a3 := Tryd.isAgg3
  z3 := Tryd.sizeOf3
  v3 := Tryd.zeroValue3
  t4 := Tryd.underlying4
  a4 := Tryd.isAgg4
  z4 := Tryd.sizeOf4
  v4 := Tryd.zeroValue4
  t5 := Tryd.underlying5
  a5 := Tryd.isAgg5
  z5 := Tryd.sizeOf5
  v5 := Tryd.zeroValue5
  t9 := Tryd.underlying9
  a9 := Tryd.isAgg9
  z9 := Tryd.sizeOf9
  v9 := Tryd.zeroValue9
  t20 := Tryd.underlying20
  a20 := Tryd.isAgg20
  z20 := Tryd.sizeOf20
  v20 := Tryd.zeroValue20
  t37 := Tryd.underlying36
  a37 := Tryd.isAgg36
  z37 := Tryd.sizeOf36
  v37 := Tryd.zeroValue36
  t46 := Tryd.underlying51
  a46 := Tryd.isAgg51
  z46 := Tryd.sizeOf51
  v46 := Tryd.zeroValue51
  t51 := Tryd.underlying110
  a51 := Tryd.isAgg110
  z51 := Tryd.sizeOf110
  v51 := Tryd.zeroValue110
  t53 := Tryd.underlying115
  a53 := Tryd.isAgg115
  z53 := Tryd.sizeOf115
  v53 := Tryd.zeroValue115
  t171 := Tryd.underlying114
  a171 := Tryd.isAgg114
  z171 := Tryd.sizeOf114
  v171 := Tryd.zeroValue114
  t173 := Tryd.underlying118
  a173 := Tryd.isAgg118
  z173 := Tryd.sizeOf118
  v173 := Tryd.zeroValue118
  t212 := Tryd.underlying136
  a212 := Tryd.isAgg136
  z212 := Tryd.sizeOf136
  v212 := Tryd.zeroValue136
  t213 := Tryd.underlying137
  a213 := Tryd.isAgg137
  z213 := Tryd.sizeOf137
  t232 := Tryd.underlying150
  a232 := Tryd.isAgg150
  z232 := Tryd.sizeOf150
  v232 := Tryd.zeroValue150
  t233 := Tryd.underlying151
  a233 := Tryd.isAgg151
  z233 := Tryd.sizeOf151
  v233 := Tryd.zeroValue151
  g17 := by kernel_rfl
  g18 := by kernel_rfl
  g19 := by kernel_rfl
  i0 := by kernel_rfl
  i2 := by kernel_rfl
  i3 := by kernel_rfl
  i4 := by kernel_rfl
  i5 := by kernel_rfl
  i9 := by kernel_rfl
  i20 := by kernel_rfl
  i37 := by kernel_rfl
  i46 := by kernel_rfl
  i51 := by kernel_rfl
  i53 := by kernel_rfl
  i171 := by kernel_rfl
  i173 := by kernel_rfl
  i212 := by kernel_rfl
  i232 := by kernel_rfl
  i233 := by kernel_rfl
  m17 := by kernel_rfl
  m18 := by kernel_rfl
  m19 := by kernel_rfl }
open Go.RowKit Go.Sort Go.Lib in
theorem Tryd.internal_strconv_FormatInt_10 (n : Int) (h0 : -9223372036854775808 ≤ n) (h1 : n ≤ 9223372036854775807) (w : World) (htab : Lib.TabIs Tryd.prog w "internal/strconv.uint64pow10" .u64 Lib.pow10Tab) :
    Calls Tryd.prog 116 #[.int .i64 n, .int .i64 10] w fun e w' => e = .returned (.string ⟨(Lib.itoa n).toArray⟩) ∧ ∃ k os, w' = grow (w.drewN k) os := Any.internal_strconv_FormatInt_10 Tryd.laysM246 n h0 h1 w htab
def Tryd.lays246_ren : Go.Shelf.Ren := ⟨fun | 246 => 116 | 283 => 127 | 284 => 128 | 285 => 129 | 286 => 130 | 129 => 140 | 317 => 139 | 318 => 141 | 319 => 142 | 320 => 143 | 337 => 148 | 338 => 149 | n => n, fun | 2 => 2 | 3 => 3 | 9 => 9 | 4 => 4 | 171 => 114 | 0 => 0 | 53 => 115 | 37 => 36 | 5 => 5 | 173 => 118 | 212 => 136 | 51 => 110 | 20 => 20 | 213 => 137 | 46 => 51 | 232 => 150 | 233 => 151 | n => n, fun | 17 => 7 | 18 => 8 | 19 => 9 | n => n⟩
theorem Tryd.lays246 : Go.Proofs.Lays.n246 Tryd.prog Tryd.lays246_ren := {
  mixed := by kernel_rfl
  f129 := Tryd.func140.trans (congrArg some (by kernel_rfl))
  f246 := Tryd.func116.trans (congrArg some (by kernel_rfl))
  f283 := Tryd.func127.trans (congrArg some (by kernel_rfl))
  f284 := Tryd.func128.trans (congrArg some (by kernel_rfl))
  f285 := Tryd.func129.trans (congrArg some (by kernel_rfl))
  f286 := Tryd.func130.trans (congrArg some (by kernel_rfl))
  f317 := Tryd.func139.trans (congrArg some (by kernel_rfl))
  f318 := Tryd.func141.trans (congrArg some (by kernel_rfl))
  f319 := Tryd.func142.trans (congrArg some (by kernel_rfl))
  f320 := Tryd.func143.trans (congrArg some (by kernel_rfl))
  f337 := Tryd.func148.trans (congrArg some (by kernel_rfl))
  f338 := Tryd.func149.trans (congrArg some (by kernel_rfl))
  t0 := Tryd.underlying0
  a0 := Tryd.isAgg0
  z0 := Tryd.sizeOf0
  v0 := Tryd.zeroValue0
  t2 := Tryd.underlying2
  a2 := Tryd.isAgg2
  z2 := Tryd.sizeOf2
  v2 := Tryd.zeroValue2
  t3 := Tryd.underlying3
  a3 := Tryd.isAgg3
  z3 := Tryd.sizeOf3
  v3 := Tryd.zeroValue3
  t4 := Tryd.underlying4
  a4 := Tryd.isAgg4
  z4 := Tryd.sizeOf4
  v4 := Tryd.zeroValue4
  t5 := Tryd.underlying5
  a5 := Tryd.isAgg5
  z5 := Tryd.sizeOf5
  v5 := Tryd.zeroValue5
  t9 := Tryd.underlying9
  a9 := Tryd.isAgg9
  z9 := Tryd.sizeOf9
  v9 := Tryd.zeroValue9
  t20 := Tryd.underlying20
  a20 := Tryd.isAgg20
  z20 := Tryd.sizeOf20
  v20 := Tryd.zeroValue20
  t37 := Tryd.underlying36
  a37 := Tryd.isAgg36
  z37 := Tryd.sizeOf36
  v37 := Tryd.zeroValue36
  t46 := Tryd.underlying51
  a46 := Tryd.isAgg51
  z46 := Tryd.sizeOf51
  v46 := Tryd.zeroValue51
  t51 := Tryd.underlying110
  a51 := Tryd.isAgg110
  z51 := Tryd.sizeOf110
  v51 := Tryd.zeroValue110
  t53 := Tryd.underlying115
  a53 := Tryd.isAgg115
  z53 := Tryd.sizeOf115
  v53 := Tryd.zeroValue115
  t171 := Tryd.underlying114
  a171 := Tryd.isAgg114
  z171 := Tryd.sizeOf114
  v171 := Tryd.zeroValue114
  t173 := Tryd.underlying118
  a173 := Tryd.isAgg118
  z173 := Tryd.sizeOf118
  v173 := Tryd.zeroValue118
  t212 := Tryd.underlying136
  a212 := Tryd.isAgg136
  z212 := Tryd.sizeOf136
  v212 := Tryd.zeroValue136
  t213 := Tryd.underlying137
  a213 := Tryd.isAgg137
  z213 := Tryd.sizeOf137
  t232 := Tryd.underlying150
  a232 := Tryd.isAgg150
  z232 := Tryd.sizeOf150
  v232 := Tryd.zeroValue150
  t233 := Tryd.underlying151
  a233 := Tryd.isAgg151
  z233 := Tryd.sizeOf151
  v233 := Tryd.zeroValue151
  g17 := by kernel_rfl
  g18 := by kernel_rfl
  g19 := by kernel_rfl }
open Go.RowKit Go.Sort Go.Lib in
theorem Tryd.internal_strconv_FormatInt_10_small (i : Nat) (hi : i < 100) (w : World) :
    Calls Tryd.prog 116 #[.int .i64 i, .int .i64 10] w fun e w' => e = .returned (.string ⟨(Lib.decDigits i).toArray⟩) ∧ w' = w := Any.internal_strconv_FormatInt_10_small Tryd.lays246 i hi w
def Tryd.laysM173_ren : Go.Shelf.Ren := ⟨fun | 173 => 101 | 246 => 116 | 283 => 127 | 284 => 128 | 285 => 129 | 286 => 130 | 129 => 140 | 317 => 139 | 318 => 141 | 319 => 142 | 320 => 143 | 337 => 148 | 338 => 149 | n => n, fun | 2 => 2 | 3 => 3 | 9 => 9 | 4 => 4 | 171 => 114 | 0 => 0 | 53 => 115 | 37 => 36 | 5 => 5 | 173 => 118 | 212 => 136 | 51 => 110 | 20 => 20 | 213 => 137 | 46 => 51 | 232 => 150 | 233 => 151 | n => n, fun | 17 => 7 | 18 => 8 | 19 => 9 | n => n⟩
theorem Tryd.laysM173 : Go.Proofs.LaysM.n173 Tryd.prog Tryd.laysM173_ren := {
  mixed := by kernel_rfl
  f129 := Tryd.func140.trans (congrArg some (by kernel_rfl))
  f173 := Tryd.func101.trans (congrArg some (by kernel_rfl))
  f246 := Tryd.func116.trans (congrArg some (by kernel_rfl))
  f283 := Tryd.func127.trans (congrArg some (by kernel_rfl))
  f284 := Tryd.func128.trans (congrArg some (by kernel_rfl))
  f285 := Tryd.func129.trans (congrArg some (by kernel_rfl))
  f286 := Tryd.func130.trans (congrArg some (by kernel_rfl))
  f317 := Tryd.func139.trans (congrArg some (by kernel_rfl))
  f318 := Tryd.func141.trans (congrArg some (by kernel_rfl))
  f319 := Tryd.func142.trans (congrArg some (by kernel_rfl))
  f320 := Tryd.func143.trans (congrArg some (by kernel_rfl))
  f337 := Tryd.func148.trans (congrArg some (by kernel_rfl))
  f338 := Tryd.func149.trans (congrArg some (by kernel_rfl))
  t0 := Tryd.underlying0
  a0 := Tryd.isAgg0
  z0 := Tryd.sizeOf0
  v0 := Tryd.zeroValue0
  t2 := Tryd.underlying2
  a2 := Tryd.isAgg2
  z2 := Tryd.sizeOf2
  v2 := Tryd.zeroValue2
  t3 := Tryd.underlying3
  a3 := Tryd.isAgg3
  z3 := Tryd.sizeOf3
  v3 := Tryd.zeroValue3
  t4 := Tryd.underlying4
  a4 := Tryd.isAgg4
  z4 := Tryd.sizeOf4
  v4 := Tryd.zeroValue4
  t5 := Tryd.underlying5
  a5 := Tryd.isAgg5
  z5 := Tryd.sizeOf5
  v5 := Tryd.zeroValue5
  t9 := Tryd.underlying9
  a9 := Tryd.isAgg9
  z9 := Tryd.sizeOf9
  v9 := Tryd.zeroValue9
  t20 := Tryd.underlying20
  a20 := Tryd.isAgg20
  z20 := Tryd.sizeOf20
  v20 := Tryd.zeroValue20
  t37 := Tryd.underlying36
  a37 := Tryd.isAgg36
  z37 := Tryd.sizeOf36
  v37 := Tryd.zeroValue36
  t46 := Tryd.underlying51
  a46 := Tryd.isAgg51
  z46 := Tryd.sizeOf51
  v46 := Tryd.zeroValue51
  t51 := Tryd.underlying110
  a51 := Tryd.isAgg110
  z51 := Tryd.sizeOf110
  v51 := Tryd.zeroValue110
  t53 := Tryd.underlying115
  a53 := Tryd.isAgg115
  z53 := Tryd.sizeOf115
  v53 := Tryd.zeroValue115
  t171 := Tryd.underlying114
  a171 := Tryd.isAgg114
  z171 := Tryd.sizeOf114
  v171 := Tryd.zeroValue114
  t173 := Tryd.underlying118
  a173 := Tryd.isAgg118
  z173 := Tryd.sizeOf118
  v173 := Tryd.zeroValue118
  t212 := Tryd.underlying136
  a212 := Tryd.isAgg136
  z212 := Tryd.sizeOf136
  v212 := Tryd.zeroValue136
  t213 := Tryd.underlying137
  a213 := Tryd.isAgg137
  z213 := Tryd.sizeOf137
  t232 := Tryd.underlying150
  a232 := Tryd.isAgg150
  z232 := Tryd.sizeOf150
  v232 := Tryd.zeroValue150
  t233 := Tryd.underlying151
  a233 := Tryd.isAgg151
  z233 := Tryd.sizeOf151
  v233 := Tryd.zeroValue151
  g17 := by kernel_rfl
  g18 := by kernel_rfl
  g19 := by kernel_rfl
  i0 := by kernel_rfl
  i2 := by kernel_rfl
  i3 := by kernel_rfl
  i4 := by kernel_rfl
  i5 := by kernel_rfl
  i9 := by kernel_rfl
  i20 := by kernel_rfl
  i37 := by kernel_rfl
  i46 := by kernel_rfl
  i51 := by kernel_rfl
  i53 := by kernel_rfl
  i171 := by kernel_rfl
  i173 := by kernel_rfl
  i212 := by kernel_rfl
  i232 := by kernel_rfl
  i233 := by kernel_rfl
  m17 := by kernel_rfl
  m18 := by kernel_rfl
  m19 := by kernel_rfl }
open Go.RowKit Go.Sort Go.Lib in
theorem Tryd.strconv_FormatInt_10 (n : Int) (h0 : -9223372036854775808 ≤ n) (h1 : n ≤ 9223372036854775807) (w : World) (htab : Lib.TabIs Tryd.prog w "internal/strconv.uint64pow10" .u64 Lib.pow10Tab) :
    Calls Tryd.prog 101 #[.int .i64 n, .int .i64 10] w fun e w' => e = .returned (.string ⟨(Lib.itoa n).toArray⟩) ∧ ∃ k os, w' = grow (w.drewN k) os := Any.strconv_FormatInt_10 Tryd.laysM173 n h0 h1 w htab
def Tryd.lays173_ren : Go.Shelf.Ren := ⟨fun | 173 => 101 | 246 => 116 | 283 => 127 | 284 => 128 | 285 => 129 | 286 => 130 | 129 => 140 | 317 => 139 | 318 => 141 | 319 => 142 | 320 => 143 | 337 => 148 | 338 => 149 | n => n, fun | 2 => 2 | 3 => 3 | 9 => 9 | 4 => 4 | 171 => 114 | 0 => 0 | 53 => 115 | 37 => 36 | 5 => 5 | 173 => 118 | 212 => 136 | 51 => 110 | 20 => 20 | 213 => 137 | 46 => 51 | 232 => 150 | 233 => 151 | n => n, fun | 17 => 7 | 18 => 8 | 19 => 9 | n => n⟩
theorem Tryd.lays173 : Go.Proofs.Lays.n173 Tryd.prog Tryd.lays173_ren := {
  mixed := by kernel_rfl
  f129 := Tryd.func140.trans (congrArg some (by kernel_rfl))
  f173 := Tryd.func101.trans (congrArg some (by kernel_rfl))
  f246 := Tryd.func116.trans (congrArg some (by kernel_rfl))
  f283 := Tryd.func127.trans (congrArg some (by kernel_rfl))
  f284 := Tryd.func128.trans (congrArg some (by kernel_rfl))
  f285 := Tryd.func129.trans (congrArg some (by kernel_rfl))
  f286 := Tryd.func130.trans (congrArg some (by kernel_rfl))
  f317 := Tryd.func139.trans (congrArg some (by kernel_rfl))
  f318 := Tryd.func141.trans (congrArg some (by kernel_rfl))
  f319 := Tryd.func142.trans (congrArg some (by kernel_rfl))
  f320 := Tryd.func143.trans (congrArg some (by kernel_rfl))
  f337 := Tryd.func148.trans (congrArg some (by kernel_rfl))
  f338 := Tryd.func149.trans (congrArg some (by kernel_rfl))
  t0 := Tryd.underlying0
  a0 := Tryd.isAgg0
  z0 := Tryd.sizeOf0
  v0 := Tryd.zeroValue0
  t2 := Tryd.underlying2
  a2 := Tryd.isAgg2
  z2 := Tryd.sizeOf2
  v2 := Tryd.zeroValue2
  t3 := Tryd.underlying3
  a3 := Tryd.isAgg3
  z3 := Tryd.sizeOf3
  v3 := Tryd.zeroValue3
  t4 := Tryd.underlying4
  a4 := Tryd.isAgg4
  z4 := Tryd.sizeOf4
  v4 := Tryd.zeroValue4
  t5 := Tryd.underlying5
  a5 := Tryd.isAgg5
  z5 := Tryd.sizeOf5
  v5 := Tryd.zeroValue5
  t9 := Tryd.underlying9
  a9 := Tryd.isAgg9
  z9 := Tryd.sizeOf9
  v9 := Tryd.zeroValue9
  t20 := Tryd.underlying20
  a20 := Tryd.isAgg20
  z20 := Tryd.sizeOf20
  v20 := Tryd.zeroValue20
  t37 := Tryd.underlying36
  a37 := Tryd.isAgg36
  z37 := Tryd.sizeOf36
  v37 := Tryd.zeroValue36
  t46 := Tryd.underlying51
  a46 := Tryd.isAgg51
  z46 := Tryd.sizeOf51
  v46 := Tryd.zeroValue51
  t51 := Tryd.underlying110
  a51 := Tryd.isAgg110
  z51 := Tryd.sizeOf110
  v51 := Tryd.zeroValue110
  t53 := Tryd.underlying115
  a53 := Tryd.isAgg115
  z53 := Tryd.sizeOf115
  v53 := Tryd.zeroValue115
  t171 := Tryd.underlying114
  a171 := Tryd.isAgg114
  z171 := Tryd.sizeOf114
  v171 := Tryd.zeroValue114
  t173 := Tryd.underlying118
  a173 := Tryd.isAgg118
  z173 := Tryd.sizeOf118
  v173 := Tryd.zeroValue118
  t212 := Tryd.underlying136
  a212 := Tryd.isAgg136
  z212 := Tryd.sizeOf136
  v212 := Tryd.zeroValue136
  t213 := Tryd.underlying137
  a213 := Tryd.isAgg137
  z213 := Tryd.sizeOf137
  t232 := Tryd.underlying150
  a232 := Tryd.isAgg150
  z232 := Tryd.sizeOf150
  v232 := Tryd.zeroValue150
  t233 := Tryd.underlying151
  a233 := Tryd.isAgg151
  z233 := Tryd.sizeOf151
  v233 := Tryd.zeroValue151
  g17 := by kernel_rfl
  g18 := by kernel_rfl
  g19 := by kernel_rfl }
open Go.RowKit Go.Sort Go.Lib in
theorem Tryd.strconv_FormatInt_10_small (i : Nat) (hi : i < 100) (w : World) :
    Calls Tryd.prog 101 #[.int .i64 i, .int .i64 10] w fun e w' => e = .returned (.string ⟨(Lib.decDigits i).toArray⟩) ∧ w' = w := Any.strconv_FormatInt_10_small Tryd.lays173 i hi w
def Tryd.lays315_ren : Go.Shelf.Ren := ⟨fun | 315 => 135 | n => n, fun | 9 => 9 | 40 => 74 | 4 => 4 | 3 => 3 | 0 => 0 | 21 => 21 | n => n, fun | n => n⟩
theorem Tryd.lays315 : Go.Proofs.Lays.n315 Tryd.prog Tryd.lays315_ren := {
  mixed := by kernel_rfl
  f315 := Tryd.func135.trans (congrArg some (by kernel_rfl))
  t0 := Tryd.underlying0
  a0 := Tryd.isAgg0
  z0 := Tryd.sizeOf0
  v0 := Tryd.zeroValue0
  t3 := Tryd.underlying3
  a3 := Tryd.isAgg3
  z3 := Tryd.sizeOf3
  v3 := Tryd.zeroValue3
  t4 := Tryd.underlying4
  a4 := Tryd.isAgg4
  z4 := Tryd.sizeOf4
  v4 := Tryd.zeroValue4
  t9 := Tryd.underlying9
  a9 := Tryd.isAgg9
  z9 := Tryd.sizeOf9
  v9 := Tryd.zeroValue9
  t21 := Tryd.underlying21
  a21 := Tryd.isAgg21
  z21 := Tryd.sizeOf21
  v21 := Tryd.zeroValue21
  t40 := Tryd.underlying74
  a40 := Tryd.isAgg74
  z40 := Tryd.sizeOf74
  v40 := Tryd.zeroValue74 }
open Go.RowKit Go.Lib in
theorem Tryd.strings_indexFunc (g : Nat) (lb : Array Value) (eg : ∀ args w, (callFunc g args).run Tryd.prog w = .ok (.enter g args) w) (p : Nat → Bool) (truth : Bool) (s : ByteArray) (w : World) (hp : PredAt Tryd.prog g lb encR p w) :
    Calls Tryd.prog 135 #[.string s, .func (.func g) #[] lb, .bool truth] w fun e w' => e = .returned (.int .i64 (Lib.idxFunc p truth s)) ∧ Below w.heap.size w w' := Any.strings_indexFunc Tryd.lays315 g lb eg p truth s w hp
def Tryd.lays199_ren : Go.Shelf.Ren := ⟨fun | 199 => 112 | 261 => 125 | 311 => 136 | 312 => 137 | n => n, fun | 21 => 21 | 4 => 4 | 51 => 110 | 141 => 112 | 0 => 0 | 196 => 127 | 193 => 124 | 3 => 3 | 198 => 130 | 49 => 128 | 194 => 125 | 201 => 133 | 226 => 143 | 46 => 51 | 227 => 144 | n => n, fun | 6 => 4 | n => n⟩
theorem Tryd.lays199 : Go.Proofs.Lays.n199 Tryd.prog Tryd.lays199_ren := {
  mixed := by kernel_rfl
  f199 := Tryd.func112.trans (congrArg some (by kernel_rfl))
  f261 := Tryd.func125.trans (congrArg some (by kernel_rfl))
  f311 := Tryd.func136.trans (congrArg some (by kernel_rfl))
  f312 := Tryd.func137.trans (congrArg some (by kernel_rfl))
  t0 := Tryd.underlying0
  a0 := Tryd.isAgg0
  z0 := Tryd.sizeOf0
  v0 := Tryd.zeroValue0
  t3 := Tryd.underlying3
  a3 := Tryd.isAgg3
  z3 := Tryd.sizeOf3
  v3 := Tryd.zeroValue3
  t4 := Tryd.underlying4
  a4 := Tryd.isAgg4
  z4 := Tryd.sizeOf4
  v4 := Tryd.zeroValue4
  t21 := Tryd.underlying21
  a21 := Tryd.isAgg21
  z21 := Tryd.sizeOf21
  v21 := Tryd.zeroValue21
  t46 := Tryd.underlying51
  a46 := Tryd.isAgg51
  z46 := Tryd.sizeOf51
  v46 := Tryd.zeroValue51
  t49 := Tryd.underlying128
  a49 := Tryd.isAgg128
  z49 := Tryd.sizeOf128
  v49 := Tryd.zeroValue128
  t51 := Tryd.underlying110
  a51 := Tryd.isAgg110
  z51 := Tryd.sizeOf110
  v51 := Tryd.zeroValue110
  t141 := Tryd.underlying112
  a141 := Tryd.isAgg112
  z141 := Tryd.sizeOf112
  v141 := Tryd.zeroValue112
  t193 := Tryd.underlying124
  a193 := Tryd.isAgg124
  z193 := Tryd.sizeOf124
  v193 := Tryd.zeroValue124
  t194 := Tryd.underlying125
  a194 := Tryd.isAgg125
  z194 := Tryd.sizeOf125
  v194 := Tryd.zeroValue125
  t196 := Tryd.underlying127
  a196 := Tryd.isAgg127
  z196 := Tryd.sizeOf127
  v196 := Tryd.zeroValue127
  t198 := Tryd.underlying130
  a198 := Tryd.isAgg130
  z198 := Tryd.sizeOf130
  v198 := Tryd.zeroValue130
  t201 := Tryd.underlying133
  a201 := Tryd.isAgg133
  z201 := Tryd.sizeOf133
  v201 := Tryd.zeroValue133
  t226 := Tryd.underlying143
  a226 := Tryd.isAgg143
  z226 := Tryd.sizeOf143
  v226 := Tryd.zeroValue143
  t227 := Tryd.underlying144
  a227 := Tryd.isAgg144
  z227 := Tryd.sizeOf144
  v227 := Tryd.zeroValue144
  g6 := by kernel_rfl }
open Go.RowKit Go.Lib in
theorem Tryd.unicode_IsSpace (r : Int) (w : World) (h0 : 0 ≤ r) (h : r ≤ 255) :
    Calls Tryd.prog 112 #[.int .i32 r] w fun e w' => e = .returned (.bool (Lib.isSpaceL r)) ∧ w' = w := Any.unicode_IsSpace Tryd.lays199 r w h0 h
def Tryd.lays204_ren : Go.Shelf.Ren := ⟨fun | 204 => 110 | 262 => 123 | 313 => 134 | 274 => 146 | 275 => 147 | n => n, fun | 21 => 21 | 4 => 4 | 3 => 3 | 162 => 123 | 203 => 121 | 160 => 140 | 46 => 51 | 0 => 0 | 208 => 149 | 51 => 110 | 206 => 147 | n => n, fun | 13 => 6 | n => n⟩
theorem Tryd.lays204 : Go.Proofs.Lays.n204 Tryd.prog Tryd.lays204_ren := {
  mixed := by kernel_rfl
  f204 := Tryd.func110.trans (congrArg some (by kernel_rfl))
  f262 := Tryd.func123.trans (congrArg some (by kernel_rfl))
  f274 := Tryd.func146.trans (congrArg some (by kernel_rfl))
  f275 := Tryd.func147.trans (congrArg some (by kernel_rfl))
  f313 := Tryd.func134.trans (congrArg some (by kernel_rfl))
  t0 := Tryd.underlying0
  a0 := Tryd.isAgg0
  z0 := Tryd.sizeOf0
  v0 := Tryd.zeroValue0
  t3 := Tryd.underlying3
  a3 := Tryd.isAgg3
  z3 := Tryd.sizeOf3
  v3 := Tryd.zeroValue3
  t4 := Tryd.underlying4
  a4 := Tryd.isAgg4
  z4 := Tryd.sizeOf4
  v4 := Tryd.zeroValue4
  t21 := Tryd.underlying21
  a21 := Tryd.isAgg21
  z21 := Tryd.sizeOf21
  v21 := Tryd.zeroValue21
  t46 := Tryd.underlying51
  a46 := Tryd.isAgg51
  z46 := Tryd.sizeOf51
  v46 := Tryd.zeroValue51
  t51 := Tryd.underlying110
  a51 := Tryd.isAgg110
  z51 := Tryd.sizeOf110
  v51 := Tryd.zeroValue110
  t160 := Tryd.underlying140
  a160 := Tryd.isAgg140
  z160 := Tryd.sizeOf140
  v160 := Tryd.zeroValue140
  t162 := Tryd.underlying123
  a162 := Tryd.isAgg123
  z162 := Tryd.sizeOf123
  v162 := Tryd.zeroValue123
  t203 := Tryd.underlying121
  a203 := Tryd.isAgg121
  z203 := Tryd.sizeOf121
  v203 := Tryd.zeroValue121
  t206 := Tryd.underlying147
  a206 := Tryd.isAgg147
  z206 := Tryd.sizeOf147
  v206 := Tryd.zeroValue147
  t208 := Tryd.underlying149
  a208 := Tryd.isAgg149
  z208 := Tryd.sizeOf149
  v208 := Tryd.zeroValue149
  g13 := by kernel_rfl }
open Go.RowKit Go.Lib in
theorem Tryd.unicode_ToLower (r : Int) (w : World) (h : r ≤ 127) :
    Calls Tryd.prog 110 #[.int .i32 r] w fun e w' => e = .returned (.int .i32 (Lib.toLowerR r)) ∧ w' = w := Any.unicode_ToLower Tryd.lays204 r w h
def Tryd.lays197_ren : Go.Shelf.Ren := ⟨fun | 197 => 77 | 260 => 98 | n => n, fun | 9 => 9 | 21 => 21 | 3 => 3 | 4 => 4 | 5 => 5 | 105 => 61 | 119 => 96 | 0 => 0 | 46 => 51 | 139 => 100 | 138 => 99 | n => n, fun | 3 => 2 | 4 => 3 | n => n⟩
theorem Tryd.lays197 : Go.Proofs.Lays.n197 Tryd.prog Tryd.lays197_ren := {
  mixed := by kernel_rfl
  f197 := Tryd.func77.trans (congrArg some (by kernel_rfl))
  f260 := Tryd.func98.trans (congrArg some (by kernel_rfl))
  t0 := Tryd.underlying0
  a0 := Tryd.isAgg0
  z0 := Tryd.sizeOf0
  v0 := Tryd.zeroValue0
  t3 := Tryd.underlying3
  a3 := Tryd.isAgg3
  z3 := Tryd.sizeOf3
  v3 := Tryd.zeroValue3
  t4 := Tryd.underlying4
  a4 := Tryd.isAgg4
  z4 := Tryd.sizeOf4
  v4 := Tryd.zeroValue4
  t5 := Tryd.underlying5
  a5 := Tryd.isAgg5
  z5 := Tryd.sizeOf5
  v5 := Tryd.zeroValue5
  t9 := Tryd.underlying9
  a9 := Tryd.isAgg9
  z9 := Tryd.sizeOf9
  v9 := Tryd.zeroValue9
  t21 := Tryd.underlying21
  a21 := Tryd.isAgg21
  z21 := Tryd.sizeOf21
  v21 := Tryd.zeroValue21
  t46 := Tryd.underlying51
  a46 := Tryd.isAgg51
  z46 := Tryd.sizeOf51
  v46 := Tryd.zeroValue51
  t105 := Tryd.underlying61
  a105 := Tryd.isAgg61
  z105 := Tryd.sizeOf61
  v105 := Tryd.zeroValue61
  t119 := Tryd.underlying96
  a119 := Tryd.isAgg96
  z119 := Tryd.sizeOf96
  t138 := Tryd.underlying99
  a138 := Tryd.isAgg99
  z138 := Tryd.sizeOf99
  v138 := Tryd.zeroValue99
  t139 := Tryd.underlying100
  a139 := Tryd.isAgg100
  z139 := Tryd.sizeOf100
  v139 := Tryd.zeroValue100
  g3 := by kernel_rfl
  g4 := by kernel_rfl }
open Go.RowKit Go.Lib in
theorem Tryd.utf8_DecodeRuneInString_ascii (s : ByteArray) (x : UInt8) (w : World) (h0 : s.data.toList[0]? = some x) (hx : x.toNat < 128) :
    Calls Tryd.prog 77 #[.string s] w fun e w' => e = .returned (.tuple #[.int .i32 x.toNat, .int .i64 1]) ∧ w' = w := Any.utf8_DecodeRuneInString_ascii Tryd.lays197 s x w h0 hx
def Tryd.lays260_ren : Go.Shelf.Ren := ⟨fun | 260 => 98 | n => n, fun | 9 => 9 | 21 => 21 | 3 => 3 | 4 => 4 | 5 => 5 | 119 => 96 | 0 => 0 | 46 => 51 | 139 => 100 | 138 => 99 | n => n, fun | 3 => 2 | 4 => 3 | n => n⟩
theorem Tryd.lays260 : Go.Proofs.Lays.n260 Tryd.prog Tryd.lays260_ren := {
  mixed := by kernel_rfl
  f260 := Tryd.func98.trans (congrArg some (by kernel_rfl))
  t0 := Tryd.underlying0
  a0 := Tryd.isAgg0
  z0 := Tryd.sizeOf0
  v0 := Tryd.zeroValue0
  t3 := Tryd.underlying3
  a3 := Tryd.isAgg3
  z3 := Tryd.sizeOf3
  v3 := Tryd.zeroValue3
  t4 := Tryd.underlying4
  a4 := Tryd.isAgg4
  z4 := Tryd.sizeOf4
  v4 := Tryd.zeroValue4
  t5 := Tryd.underlying5
  a5 := Tryd.isAgg5
  z5 := Tryd.sizeOf5
  v5 := Tryd.zeroValue5
  t9 := Tryd.underlying9
  a9 := Tryd.isAgg9
  z9 := Tryd.sizeOf9
  v9 := Tryd.zeroValue9
  t21 := Tryd.underlying21
  a21 := Tryd.isAgg21
  z21 := Tryd.sizeOf21
  v21 := Tryd.zeroValue21
  t46 := Tryd.underlying51
  a46 := Tryd.isAgg51
  z46 := Tryd.sizeOf51
  v46 := Tryd.zeroValue51
  t119 := Tryd.underlying96
  a119 := Tryd.isAgg96
  z119 := Tryd.sizeOf96
  t138 := Tryd.underlying99
  a138 := Tryd.isAgg99
  z138 := Tryd.sizeOf99
  v138 := Tryd.zeroValue99
  t139 := Tryd.underlying100
  a139 := Tryd.isAgg100
  z139 := Tryd.sizeOf100
  v139 := Tryd.zeroValue100
  g3 := by kernel_rfl
  g4 := by kernel_rfl }
open Go.RowKit Go.Lib in
theorem Tryd.utf8_decodeRuneInStringSlow (s : ByteArray) (w : World) (hT : Lib.Utf8Tabs 2 3 w) :
    Calls Tryd.prog 98 #[.string s] w fun e w' => e = .returned (.tuple #[.int .i32 (Lib.decodeGo s).1, .int .i64 (Lib.decodeGo s).2]) ∧ Below w.heap.size w w' := Any.utf8_decodeRuneInStringSlow Tryd.lays260 s w hT
open Go.RowKit Go.Lib in
theorem Tryd.utf8_DecodeRuneInString (s : ByteArray) (w : World) (hT : Lib.Utf8Tabs 2 3 w) :
    Calls Tryd.prog 77 #[.string s] w fun e w' => e = .returned (.tuple #[.int .i32 (Lib.decodeGo s).1, .int .i64 (Lib.decodeGo s).2]) ∧ Below w.heap.size w w' := Any.utf8_DecodeRuneInString Tryd.lays197 s w hT
def Tryd.lays311_ren : Go.Shelf.Ren := ⟨fun | 311 => 136 | n => n, fun | 193 => 124 | 49 => 128 | 4 => 4 | 3 => 3 | 0 => 0 | 226 => 143 | 198 => 130 | 46 => 51 | n => n, fun | n => n⟩
theorem Tryd.lays311 : Go.Proofs.Lays.n311 Tryd.prog Tryd.lays311_ren := {
  mixed := by kernel_rfl
  f311 := Tryd.func136.trans (congrArg some (by kernel_rfl))
  t0 := Tryd.underlying0
  a0 := Tryd.isAgg0
  z0 := Tryd.sizeOf0
  v0 := Tryd.zeroValue0
  t3 := Tryd.underlying3
  a3 := Tryd.isAgg3
  z3 := Tryd.sizeOf3
  v3 := Tryd.zeroValue3
  t4 := Tryd.underlying4
  a4 := Tryd.isAgg4
  z4 := Tryd.sizeOf4
  v4 := Tryd.zeroValue4
  t46 := Tryd.underlying51
  a46 := Tryd.isAgg51
  z46 := Tryd.sizeOf51
  v46 := Tryd.zeroValue51
  t49 := Tryd.underlying128
  a49 := Tryd.isAgg128
  z49 := Tryd.sizeOf128
  v49 := Tryd.zeroValue128
  t193 := Tryd.underlying124
  a193 := Tryd.isAgg124
  z193 := Tryd.sizeOf124
  v193 := Tryd.zeroValue124
  t198 := Tryd.underlying130
  a198 := Tryd.isAgg130
  z198 := Tryd.sizeOf130
  v198 := Tryd.zeroValue130
  t226 := Tryd.underlying143
  a226 := Tryd.isAgg143
  z226 := Tryd.sizeOf143
  v226 := Tryd.zeroValue143 }
open Go.RowKit Go.Lib in
theorem Tryd.unicode_is16_white (R oR : Nat) (z : Nat) (w : World) (hz : z < 65536) (hz0 : 255 < z) (c6 : w.cell? ⟨R, oR + 6, none⟩ = some (.int .u16 160)) (c7 : w.cell? ⟨R, oR + 7, none⟩ = some (.int .u16 5760)) (c8 : w.cell? ⟨R, oR + 8, none⟩ = some (.int .u16 5600)) (c9 : w.cell? ⟨R, oR + 9, none⟩ = some (.int .u16 8192)) (c10 : w.cell? ⟨R, oR + 10, none⟩ = some (.int .u16 8202)) (c11 : w.cell? ⟨R, oR + 11, none⟩ = some (.int .u16 1)) (c12 : w.cell? ⟨R, oR + 12, none⟩ = some (.int .u16 8232)) (c13 : w.cell? ⟨R, oR + 13, none⟩ = some (.int .u16 8233)) (c14 : w.cell? ⟨R, oR + 14, none⟩ = some (.int .u16 1)) (c15 : w.cell? ⟨R, oR + 15, none⟩ = some (.int .u16 8239)) (c16 : w.cell? ⟨R, oR + 16, none⟩ = some (.int .u16 8287)) (c17 : w.cell? ⟨R, oR + 17, none⟩ = some (.int .u16 48)) (c18 : w.cell? ⟨R, oR + 18, none⟩ = some (.int .u16 12288)) (c19 : w.cell? ⟨R, oR + 19, none⟩ = some (.int .u16 12288)) (c20 : w.cell? ⟨R, oR + 20, none⟩ = some (.int .u16 1)) :
    Calls Tryd.prog 136 #[.slice (some ⟨R, oR + 6, none⟩) 5 5, .int .u16 z] w fun e w' => e = .returned (.bool (Lib.isSpaceR z)) ∧ Below w.heap.size w w' := Any.unicode_is16_white Tryd.lays311 R oR z w hz hz0 c6 c7 c8 c9 c10 c11 c12 c13 c14 c15 c16 c17 c18 c19 c20
def Tryd.lays261_ren : Go.Shelf.Ren := ⟨fun | 261 => 125 | 311 => 136 | 312 => 137 | n => n, fun | 141 => 112 | 21 => 21 | 4 => 4 | 0 => 0 | 196 => 127 | 193 => 124 | 3 => 3 | 51 => 110 | 198 => 130 | 49 => 128 | 194 => 125 | 201 => 133 | 226 => 143 | 46 => 51 | 227 => 144 | n => n, fun | n => n⟩
theorem Tryd.lays261 : Go.Proofs.Lays.n261 Tryd.prog Tryd.lays261_ren := {
  mixed := by kernel_rfl
  f261 := Tryd.func125.trans (congrArg some (by kernel_rfl))
  f311 := Tryd.func136.trans (congrArg some (by kernel_rfl))
  f312 := Tryd.func137.trans (congrArg some (by kernel_rfl))
  t0 := Tryd.underlying0
  a0 := Tryd.isAgg0
  z0 := Tryd.sizeOf0
  v0 := Tryd.zeroValue0
  t3 := Tryd.underlying3
  a3 := Tryd.isAgg3
  z3 := Tryd.sizeOf3
  v3 := Tryd.zeroValue3
  t4 := Tryd.underlying4
  a4 := Tryd.isAgg4
  z4 := Tryd.sizeOf4
  v4 := Tryd.zeroValue4
  t21 := Tryd.underlying21
  a21 := Tryd.isAgg21
  z21 := Tryd.sizeOf21
  v21 := Tryd.zeroValue21
  t46 := Tryd.underlying51
  a46 := Tryd.isAgg51
  z46 := Tryd.sizeOf51
  v46 := Tryd.zeroValue51
  t49 := Tryd.underlying128
  a49 := Tryd.isAgg128
  z49 := Tryd.sizeOf128
  v49 := Tryd.zeroValue128
  t51 := Tryd.underlying110
  a51 := Tryd.isAgg110
  z51 := Tryd.sizeOf110
  v51 := Tryd.zeroValue110
  t141 := Tryd.underlying112
  a141 := Tryd.isAgg112
  z141 := Tryd.sizeOf112
  v141 := Tryd.zeroValue112
  t193 := Tryd.underlying124
  a193 := Tryd.isAgg124
  z193 := Tryd.sizeOf124
  v193 := Tryd.zeroValue124
  t194 := Tryd.underlying125
  a194 := Tryd.isAgg125
  z194 := Tryd.sizeOf125
  v194 := Tryd.zeroValue125
  t196 := Tryd.underlying127
  a196 := Tryd.isAgg127
  z196 := Tryd.sizeOf127
  v196 := Tryd.zeroValue127
  t198 := Tryd.underlying130
  a198 := Tryd.isAgg130
  z198 := Tryd.sizeOf130
  v198 := Tryd.zeroValue130
  t201 := Tryd.underlying133
  a201 := Tryd.isAgg133
  z201 := Tryd.sizeOf133
  v201 := Tryd.zeroValue133
  t226 := Tryd.underlying143
  a226 := Tryd.isAgg143
  z226 := Tryd.sizeOf143
  v226 := Tryd.zeroValue143
  t227 := Tryd.underlying144
  a227 := Tryd.isAgg144
  z227 := Tryd.sizeOf144
  v227 := Tryd.zeroValue144 }
open Go.RowKit Go.Lib in
theorem Tryd.unicode_isExcludingLatin_white (T oT R oR : Nat) (r : Int) (w : World) (hlo : -2147483648 ≤ r) (hhi : r ≤ 2147483647) (hr : r < 0 ∨ 255 < r) (h2 : w.cell? ⟨T, oT, none⟩ = some (.slice (some ⟨R, oR, none⟩) 7 7)) (h3 : w.cell? ⟨T, oT + 1, none⟩ = some (.slice none 0 0)) (h4 : w.cell? ⟨T, oT + 2, none⟩ = some (.int .i64 2)) (h5 : ∀ i, i < 21 → w.cell? ⟨R, oR + i, none⟩ = some (.int .u16 (whiteT.getD i 0))) :
    Calls Tryd.prog 125 #[.pointer (some ⟨T, oT, none⟩), .int .i32 r] w fun e w' => e = .returned (.bool (Lib.isSpaceZ r)) ∧ Below w.heap.size w w' := Any.unicode_isExcludingLatin_white Tryd.lays261 T oT R oR r w hlo hhi hr h2 h3 h4 h5
open Go.RowKit Go.Lib in
theorem Tryd.unicode_IsSpace_any (r : Int) (w : World) (hlo : -2147483648 ≤ r) (hhi : r ≤ 2147483647) (hW : Lib.WhiteTab 4 w) :
    Calls Tryd.prog 112 #[.int .i32 r] w fun e w' => e = .returned (.bool (Lib.isSpaceZ r)) ∧ Below w.heap.size w w' := Any.unicode_IsSpace_any Tryd.lays199 r w hlo hhi hW
def Tryd.lays271_ren : Go.Shelf.Ren := ⟨fun | 271 => 138 | 120 => 131 | 197 => 77 | 260 => 98 | n => n, fun | 9 => 9 | 21 => 21 | 3 => 3 | 4 => 4 | 5 => 5 | 105 => 61 | 119 => 96 | 0 => 0 | 46 => 51 | 139 => 100 | 138 => 99 | n => n, fun | 3 => 2 | 4 => 3 | n => n⟩
theorem Tryd.lays271 : Go.Proofs.Lays.n271 Tryd.prog Tryd.lays271_ren := {
  mixed := by kernel_rfl
  f120 := Tryd.func131.trans (congrArg some (by kernel_rfl))
  f197 := Tryd.func77.trans (congrArg some (by kernel_rfl))
  f260 := Tryd.func98.trans (congrArg some (by kernel_rfl))
  f271 := Tryd.func138.trans (congrArg some (by kernel_rfl))
  t0 := Tryd.underlying0
  a0 := Tryd.isAgg0
  z0 := Tryd.sizeOf0
  v0 := Tryd.zeroValue0
  t3 := Tryd.underlying3
  a3 := Tryd.isAgg3
  z3 := Tryd.sizeOf3
  v3 := Tryd.zeroValue3
  t4 := Tryd.underlying4
  a4 := Tryd.isAgg4
  z4 := Tryd.sizeOf4
  v4 := Tryd.zeroValue4
  t5 := Tryd.underlying5
  a5 := Tryd.isAgg5
  z5 := Tryd.sizeOf5
  v5 := Tryd.zeroValue5
  t9 := Tryd.underlying9
  a9 := Tryd.isAgg9
  z9 := Tryd.sizeOf9
  v9 := Tryd.zeroValue9
  t21 := Tryd.underlying21
  a21 := Tryd.isAgg21
  z21 := Tryd.sizeOf21
  v21 := Tryd.zeroValue21
  t46 := Tryd.underlying51
  a46 := Tryd.isAgg51
  z46 := Tryd.sizeOf51
  v46 := Tryd.zeroValue51
  t105 := Tryd.underlying61
  a105 := Tryd.isAgg61
  z105 := Tryd.sizeOf61
  v105 := Tryd.zeroValue61
  t119 := Tryd.underlying96
  a119 := Tryd.isAgg96
  z119 := Tryd.sizeOf96
  t138 := Tryd.underlying99
  a138 := Tryd.isAgg99
  z138 := Tryd.sizeOf99
  v138 := Tryd.zeroValue99
  t139 := Tryd.underlying100
  a139 := Tryd.isAgg100
  z139 := Tryd.sizeOf100
  v139 := Tryd.zeroValue100
  g3 := by kernel_rfl
  g4 := by kernel_rfl }
open Go.RowKit Go.Lib in
theorem Tryd.utf8_DecodeLastRuneInString (s : ByteArray) (w : World) (hs : s.size ≤ 9223372036854775807) (hT : Lib.Utf8Tabs 2 3 w) :
    Calls Tryd.prog 138 #[.string s] w fun e w' => e = .returned (.tuple #[.int .i32 (Lib.decodeLastL s.data.toList).1, .int .i64 (Lib.decodeLastL s.data.toList).2]) ∧ Below w.heap.size w w' := Any.utf8_DecodeLastRuneInString Tryd.lays271 s w hs hT
open Go.RowKit in
theorem Tryd.strings_TrimSpace_any (s : ByteArray) (w : World) (hs : s.size ≤ 9223372036854775807) (htab : Lib.TabIs Tryd.prog w "strings.asciiSpace" .u8 Lib.asciiSpaceTab) (hU8 : Lib.Utf8Tabs 2 3 w) (hWS : Lib.WhiteTab 4 w) :
    Calls Tryd.prog 96 #[.string s] w fun e w' => e = .returned (.string ⟨(Lib.trimSpaceD s.data.toList).toArray⟩) ∧ Below w.heap.size w w' := Any.strings_TrimSpace_any Tryd.lays163 Tryd.Space_Extra_163 s w hs htab hU8 hWS
def Tryd.lays274_ren : Go.Shelf.Ren := ⟨fun | 274 => 146 | n => n, fun | 21 => 21 | 162 => 123 | 160 => 140 | 3 => 3 | 4 => 4 | 46 => 51 | 0 => 0 | 208 => 149 | 51 => 110 | 206 => 147 | n => n, fun | n => n⟩
theorem Tryd.lays274 : Go.Proofs.Lays.n274 Tryd.prog Tryd.lays274_ren := {
  mixed := by kernel_rfl
  f274 := Tryd.func146.trans (congrArg some (by kernel_rfl))
  t0 := Tryd.underlying0
  a0 := Tryd.isAgg0
  z0 := Tryd.sizeOf0
  v0 := Tryd.zeroValue0
  t3 := Tryd.underlying3
  a3 := Tryd.isAgg3
  z3 := Tryd.sizeOf3
  v3 := Tryd.zeroValue3
  t4 := Tryd.underlying4
  a4 := Tryd.isAgg4
  z4 := Tryd.sizeOf4
  v4 := Tryd.zeroValue4
  t21 := Tryd.underlying21
  a21 := Tryd.isAgg21
  z21 := Tryd.sizeOf21
  v21 := Tryd.zeroValue21
  t46 := Tryd.underlying51
  a46 := Tryd.isAgg51
  z46 := Tryd.sizeOf51
  v46 := Tryd.zeroValue51
  t51 := Tryd.underlying110
  a51 := Tryd.isAgg110
  z51 := Tryd.sizeOf110
  v51 := Tryd.zeroValue110
  t160 := Tryd.underlying140
  a160 := Tryd.isAgg140
  z160 := Tryd.sizeOf140
  v160 := Tryd.zeroValue140
  t162 := Tryd.underlying123
  a162 := Tryd.isAgg123
  z162 := Tryd.sizeOf123
  v162 := Tryd.zeroValue123
  t208 := Tryd.underlying149
  a208 := Tryd.isAgg149
  z208 := Tryd.sizeOf149
  v208 := Tryd.zeroValue149 }
open Go.RowKit Go.Lib in
theorem Tryd.unicode_lookupCaseRange (T : Array CaseRow) (R oR cap : Nat) (r : Int) (w : World) (hT : CaseTab R oR T w) (hok : CaseOk T) (hn : T.size ≤ 1000000000) :
    Calls Tryd.prog 146 #[.int .i32 r, .slice (some ⟨R, oR, none⟩) T.size cap] w fun e w' =>
      e = .returned (match lookupIdx T r (T.size + 1) 0 T.size with | some i => .pointer (some ⟨R, oR + i * 5, none⟩) | none => .pointer none) ∧ w' = w := Any.unicode_lookupCaseRange Tryd.lays274 T R oR cap r w hT hok hn
def Tryd.lays275_ren : Go.Shelf.Ren := ⟨fun | 275 => 147 | n => n, fun | 3 => 3 | 21 => 21 | 160 => 140 | 0 => 0 | 208 => 149 | 206 => 147 | 4 => 4 | 51 => 110 | n => n, fun | n => n⟩
theorem Tryd.lays275 : Go.Proofs.Lays.n275 Tryd.prog Tryd.lays275_ren := {
  mixed := by kernel_rfl
  f275 := Tryd.func147.trans (congrArg some (by kernel_rfl))
  t0 := Tryd.underlying0
  a0 := Tryd.isAgg0
  z0 := Tryd.sizeOf0
  v0 := Tryd.zeroValue0
  t3 := Tryd.underlying3
  a3 := Tryd.isAgg3
  z3 := Tryd.sizeOf3
  v3 := Tryd.zeroValue3
  t4 := Tryd.underlying4
  a4 := Tryd.isAgg4
  z4 := Tryd.sizeOf4
  v4 := Tryd.zeroValue4
  t21 := Tryd.underlying21
  a21 := Tryd.isAgg21
  z21 := Tryd.sizeOf21
  v21 := Tryd.zeroValue21
  t51 := Tryd.underlying110
  a51 := Tryd.isAgg110
  z51 := Tryd.sizeOf110
  v51 := Tryd.zeroValue110
  t160 := Tryd.underlying140
  a160 := Tryd.isAgg140
  z160 := Tryd.sizeOf140
  v160 := Tryd.zeroValue140
  t206 := Tryd.underlying147
  a206 := Tryd.isAgg147
  z206 := Tryd.sizeOf147
  v206 := Tryd.zeroValue147
  t208 := Tryd.underlying149
  a208 := Tryd.isAgg149
  z208 := Tryd.sizeOf149
  v208 := Tryd.zeroValue149 }
open Go.RowKit Go.Lib in
theorem Tryd.unicode_convertCase (c : Nat) (hc : c < 3) (r : Int) (A o : Nat) (x : CaseRow) (w : World) (hlo : (x.1 : Int) ≤ r) (hhi : r ≤ (x.2.1 : Int)) (hH : x.2.1 < 2147483647) (c0 : w.cell? ⟨A, o, none⟩ = some (.int .u32 x.1)) (cD : w.cell? ⟨A, o + 2 + c, none⟩ = some (.int .i32 (x.delta c))) :
    Calls Tryd.prog 147 #[.int .i64 c, .int .i32 r, .pointer (some ⟨A, o, none⟩)] w fun e w' => e = .returned (.int .i32 (wrap32 (convertR c r x))) ∧ ∃ q, w' = w.drewN q := Any.unicode_convertCase Tryd.lays275 c hc r A o x w hlo hhi hH c0 cD
def Tryd.lays313_ren : Go.Shelf.Ren := ⟨fun | 313 => 134 | 274 => 146 | 275 => 147 | n => n, fun | 3 => 3 | 21 => 21 | 162 => 123 | 4 => 4 | 160 => 140 | 46 => 51 | 0 => 0 | 208 => 149 | 51 => 110 | 206 => 147 | n => n, fun | n => n⟩
theorem Tryd.lays313 : Go.Proofs.Lays.n313 Tryd.prog Tryd.lays313_ren := {
  mixed := by kernel_rfl
  f274 := Tryd.func146.trans (congrArg some (by kernel_rfl))
  f275 := Tryd.func147.trans (congrArg some (by kernel_rfl))
  f313 := Tryd.func134.trans (congrArg some (by kernel_rfl))
  t0 := Tryd.underlying0
  a0 := Tryd.isAgg0
  z0 := Tryd.sizeOf0
  v0 := Tryd.zeroValue0
  t3 := Tryd.underlying3
  a3 := Tryd.isAgg3
  z3 := Tryd.sizeOf3
  v3 := Tryd.zeroValue3
  t4 := Tryd.underlying4
  a4 := Tryd.isAgg4
  z4 := Tryd.sizeOf4
  v4 := Tryd.zeroValue4
  t21 := Tryd.underlying21
  a21 := Tryd.isAgg21
  z21 := Tryd.sizeOf21
  v21 := Tryd.zeroValue21
  t46 := Tryd.underlying51
  a46 := Tryd.isAgg51
  z46 := Tryd.sizeOf51
  v46 := Tryd.zeroValue51
  t51 := Tryd.underlying110
  a51 := Tryd.isAgg110
  z51 := Tryd.sizeOf110
  v51 := Tryd.zeroValue110
  t160 := Tryd.underlying140
  a160 := Tryd.isAgg140
  z160 := Tryd.sizeOf140
  v160 := Tryd.zeroValue140
  t162 := Tryd.underlying123
  a162 := Tryd.isAgg123
  z162 := Tryd.sizeOf123
  v162 := Tryd.zeroValue123
  t206 := Tryd.underlying147
  a206 := Tryd.isAgg147
  z206 := Tryd.sizeOf147
  v206 := Tryd.zeroValue147
  t208 := Tryd.underlying149
  a208 := Tryd.isAgg149
  z208 := Tryd.sizeOf149
  v208 := Tryd.zeroValue149 }
open Go.RowKit Go.Lib in
theorem Tryd.unicode_to (c : Nat) (hc : c < 3) (r : Int) (T : Array CaseRow) (R oR cap : Nat) (w : World) (hT : CaseTab R oR T w) (hok : CaseOk2 T) (hn : T.size ≤ 1000000000) :
    Calls Tryd.prog 134 #[.int .i64 c, .int .i32 r, .slice (some ⟨R, oR, none⟩) T.size cap] w fun e w' => e = .returned (.tuple #[.int .i32 (toW T c r), .bool (lookupIdx T r (T.size + 1) 0 T.size).isSome]) ∧ ∃ q, w' = w.drewN q := Any.unicode_to Tryd.lays313 c hc r T R oR cap w hT hok hn
def Tryd.lays262_ren : Go.Shelf.Ren := ⟨fun | 262 => 123 | 313 => 134 | 274 => 146 | 275 => 147 | n => n, fun | 3 => 3 | 21 => 21 | 162 => 123 | 203 => 121 | 4 => 4 | 160 => 140 | 46 => 51 | 0 => 0 | 208 => 149 | 51 => 110 | 206 => 147 | n => n, fun | 13 => 6 | n => n⟩
theorem Tryd.lays262 : Go.Proofs.Lays.n262 Tryd.prog Tryd.lays262_ren := {
  mixed := by kernel_rfl
  f262 := Tryd.func123.trans (congrArg some (by kernel_rfl))
  f274 := Tryd.func146.trans (congrArg some (by kernel_rfl))
  f275 := Tryd.func147.trans (congrArg some (by kernel_rfl))
  f313 := Tryd.func134.trans (congrArg some (by kernel_rfl))
  t0 := Tryd.underlying0
  a0 := Tryd.isAgg0
  z0 := Tryd.sizeOf0
  v0 := Tryd.zeroValue0
  t3 := Tryd.underlying3
  a3 := Tryd.isAgg3
  z3 := Tryd.sizeOf3
  v3 := Tryd.zeroValue3
  t4 := Tryd.underlying4
  a4 := Tryd.isAgg4
  z4 := Tryd.sizeOf4
  v4 := Tryd.zeroValue4
  t21 := Tryd.underlying21
  a21 := Tryd.isAgg21
  z21 := Tryd.sizeOf21
  v21 := Tryd.zeroValue21
  t46 := Tryd.underlying51
  a46 := Tryd.isAgg51
  z46 := Tryd.sizeOf51
  v46 := Tryd.zeroValue51
  t51 := Tryd.underlying110
  a51 := Tryd.isAgg110
  z51 := Tryd.sizeOf110
  v51 := Tryd.zeroValue110
  t160 := Tryd.underlying140
  a160 := Tryd.isAgg140
  z160 := Tryd.sizeOf140
  v160 := Tryd.zeroValue140
  t162 := Tryd.underlying123
  a162 := Tryd.isAgg123
  z162 := Tryd.sizeOf123
  v162 := Tryd.zeroValue123
  t203 := Tryd.underlying121
  a203 := Tryd.isAgg121
  z203 := Tryd.sizeOf121
  v203 := Tryd.zeroValue121
  t206 := Tryd.underlying147
  a206 := Tryd.isAgg147
  z206 := Tryd.sizeOf147
  v206 := Tryd.zeroValue147
  t208 := Tryd.underlying149
  a208 := Tryd.isAgg149
  z208 := Tryd.sizeOf149
  v208 := Tryd.zeroValue149
  g13 := by kernel_rfl }
open Go.RowKit Go.Lib in
theorem Tryd.unicode_To (c : Nat) (hc : c < 3) (r : Int) (T : Array CaseRow) (w : World) (hV : CaseVar 6 T w) (hok : CaseOk2 T) (hn : T.size ≤ 1000000000) :
    Calls Tryd.prog 123 #[.int .i64 c, .int .i32 r] w fun e w' => e = .returned (.int .i32 (toW T c r)) ∧ ∃ q, w' = w.drewN q := Any.unicode_To Tryd.lays262 c hc r T w hV hok hn
open Go.RowKit Go.Lib in
theorem Tryd.unicode_ToLower_any (r : Int) (T : Array CaseRow) (w : World) (hV : CaseVar 6 T w) (hok : CaseOk2 T) (hn : T.size ≤ 1000000000) :
    Calls Tryd.prog 110 #[.int .i32 r] w fun e w' => e = .returned (.int .i32 (Lib.toLowerW T r)) ∧ ∃ q, w' = w.drewN q := Any.unicode_ToLower_any Tryd.lays204 r T w hV hok hn
open Go.RowKit Go.Lib in
theorem Tryd.unicode_ToLower_laid (r : Int) (w : World) (hV : CaseVar 6 caseA w) :
    Calls Tryd.prog 110 #[.int .i32 r] w fun e w' => e = .returned (.int .i32 (toLowerU r)) ∧ ∃ q, w' = w.drewN q := Any.unicode_ToLower_laid Tryd.lays204 r w hV
def Tryd.lays270_ren : Go.Shelf.Ren := ⟨fun | 270 => 122 | n => n, fun | 70 => 58 | 3 => 3 | 0 => 0 | 72 => 60 | 37 => 36 | 5 => 5 | n => n, fun | n => n⟩
theorem Tryd.lays270 : Go.Proofs.Lays.n270 Tryd.prog Tryd.lays270_ren := {
  mixed := by kernel_rfl
  f270 := Tryd.func122.trans (congrArg some (by kernel_rfl))
  t0 := Tryd.underlying0
  a0 := Tryd.isAgg0
  z0 := Tryd.sizeOf0
  v0 := Tryd.zeroValue0
  t3 := Tryd.underlying3
  a3 := Tryd.isAgg3
  z3 := Tryd.sizeOf3
  v3 := Tryd.zeroValue3
  t37 := Tryd.underlying36
  a37 := Tryd.isAgg36
  z37 := Tryd.sizeOf36
  v37 := Tryd.zeroValue36
  t70 := Tryd.underlying58
  a70 := Tryd.isAgg58
  z70 := Tryd.sizeOf58
  v70 := Tryd.zeroValue58
  t72 := Tryd.underlying60
  a72 := Tryd.isAgg60
  z72 := Tryd.sizeOf60
  v72 := Tryd.zeroValue60 }
open Go.RowKit Go.Lib in
theorem Tryd.Builder_Cap_cell (b : Nat) (p : Option Addr) (n cap : Nat) (w : World) (c1 : w.cell? ⟨b, 1, none⟩ = some (.slice p n cap)) :
    Calls Tryd.prog 122 #[.pointer (some ⟨b, 0, none⟩)] w fun e w' => e = .returned (.int .i64 cap) ∧ w' = w := Any.Builder_Cap_cell Tryd.lays270 b p n cap w c1
def Tryd.lays230_ren : Go.Shelf.Ren := ⟨fun | 230 => 109 | 197 => 77 | 118 => 120 | 165 => 78 | 166 => 79 | 168 => 121 | 270 => 122 | 167 => 108 | 169 => 81 | 260 => 98 | 240 => 99 | 241 => 100 | 242 => 133 | 276 => 114 | 277 => 115 | 278 => 145 | n => n, fun | 107 => 94 | 9 => 9 | 72 => 60 | 0 => 0 | 4 => 4 | 3 => 3 | 21 => 21 | 105 => 61 | 76 => 66 | 5 => 5 | 75 => 65 | 70 => 58 | 20 => 20 | 37 => 36 | 127 => 82 | 119 => 96 | 46 => 51 | 139 => 100 | 138 => 99 | 164 => 101 | 51 => 110 | 80 => 69 | n => n, fun | 3 => 2 | 4 => 3 | n => n⟩
theorem Tryd.lays230 : Go.Proofs.Lays.n230 Tryd.prog Tryd.lays230_ren := {
  mixed := by kernel_rfl
  f118 := Tryd.func120.trans (congrArg some (by kernel_rfl))
  f165 := Tryd.func78.trans (congrArg some (by kernel_rfl))
  f166 := Tryd.func79.trans (congrArg some (by kernel_rfl))
  f167 := Tryd.func108.trans (congrArg some (by kernel_rfl))
  f168 := Tryd.func121.trans (congrArg some (by kernel_rfl))
  f169 := Tryd.func81.trans (congrArg some (by kernel_rfl))
  f197 := Tryd.func77.trans (congrArg some (by kernel_rfl))
  f230 := Tryd.func109.trans (congrArg some (by kernel_rfl))
  f240 := Tryd.func99.trans (congrArg some (by kernel_rfl))
  f241 := Tryd.func100.trans (congrArg some (by kernel_rfl))
  f242 := Tryd.func133.trans (congrArg some (by kernel_rfl))
  f260 := Tryd.func98.trans (congrArg some (by kernel_rfl))
  f270 := Tryd.func122.trans (congrArg some (by kernel_rfl))
  f276 := Tryd.func114.trans (congrArg some (by kernel_rfl))
  f277 := Tryd.func115.trans (congrArg some (by kernel_rfl))
  f278 := Tryd.func145.trans (congrArg some (by kernel_rfl))
  t0 := Tryd.underlying0
  a0 := Tryd.isAgg0
  z0 := Tryd.sizeOf0
  v0 := Tryd.zeroValue0
  t3 := Tryd.underlying3
  a3 := Tryd.isAgg3
  z3 := Tryd.sizeOf3
  v3 := Tryd.zeroValue3
  t4 := Tryd.underlying4
  a4 := Tryd.isAgg4
  z4 := Tryd.sizeOf4
  v4 := Tryd.zeroValue4
  t5 := Tryd.underlying5
  a5 := Tryd.isAgg5
  z5 := Tryd.sizeOf5
  v5 := Tryd.zeroValue5
  t9 := Tryd.underlying9
  a9 := Tryd.isAgg9
  z9 := Tryd.sizeOf9
  v9 := Tryd.zeroValue9
  t20 := Tryd.underlying20
  a20 := Tryd.isAgg20
  z20 := Tryd.sizeOf20
  v20 := Tryd.zeroValue20
  t21 := Tryd.underlying21
  a21 := Tryd.isAgg21
  z21 := Tryd.sizeOf21
  v21 := Tryd.zeroValue21
  t37 := Tryd.underlying36
  a37 := Tryd.isAgg36
  z37 := Tryd.sizeOf36
  v37 := Tryd.zeroValue36
  t46 := Tryd.underlying51
  a46 := Tryd.isAgg51
  z46 := Tryd.sizeOf51
  v46 := Tryd.zeroValue51
  t51 := Tryd.underlying110
  a51 := Tryd.isAgg110
  z51 := Tryd.sizeOf110
  v51 := Tryd.zeroValue110
  t70 := Tryd.underlying58
  a70 := Tryd.isAgg58
  z70 := Tryd.sizeOf58
  v70 := Tryd.zeroValue58
  t72 := Tryd.underlying60
  a72 := Tryd.isAgg60
  z72 := Tryd.sizeOf60
  v72 := Tryd.zeroValue60
  t75 := Tryd.underlying65
  a75 := Tryd.isAgg65
  z75 := Tryd.sizeOf65
  v75 := Tryd.zeroValue65
  t76 := Tryd.underlying66
  a76 := Tryd.isAgg66
  z76 := Tryd.sizeOf66
  v76 := Tryd.zeroValue66
  t105 := Tryd.underlying61
  a105 := Tryd.isAgg61
  z105 := Tryd.sizeOf61
  v105 := Tryd.zeroValue61
  t107 := Tryd.underlying94
  a107 := Tryd.isAgg94
  z107 := Tryd.sizeOf94
  v107 := Tryd.zeroValue94
  t119 := Tryd.underlying96
  a119 := Tryd.isAgg96
  z119 := Tryd.sizeOf96
  t127 := Tryd.underlying82
  a127 := Tryd.isAgg82
  z127 := Tryd.sizeOf82
  v127 := Tryd.zeroValue82
  t138 := Tryd.underlying99
  a138 := Tryd.isAgg99
  z138 := Tryd.sizeOf99
  v138 := Tryd.zeroValue99
  t139 := Tryd.underlying100
  a139 := Tryd.isAgg100
  z139 := Tryd.sizeOf100
  v139 := Tryd.zeroValue100
  t164 := Tryd.underlying101
  a164 := Tryd.isAgg101
  z164 := Tryd.sizeOf101
  v164 := Tryd.zeroValue101
  g3 := by kernel_rfl
  g4 := by kernel_rfl }
theorem Tryd.Builder_Extra_230 : Builder.Extra Tryd.prog Tryd.lays230_ren := {
  sizeBuilder := by kernel_rfl
  liesBuilder := by kernel_rfl
  t5 := Tryd.underlying5
  a5 := Tryd.isAgg5
  z5 := Tryd.sizeOf5
  v5 := Tryd.zeroValue5
  infoByte := by kernel_rfl
  cellsByte := by kernel_rfl
  sizeByte := by kernel_rfl
  neB5 := by decide }
open Go.RowKit Go.Lib in
theorem Tryd.strings_Map_runes (g : Nat) (lb : Array Value) (eg : ∀ args w, (callFunc g args).run Tryd.prog w = .ok (.enter g args) w) (f : Int → Int) (s : ByteArray) (w : World) (hs : s.size < 35184372088832) (hf : MapAtRunes Tryd.prog g lb f w) (hnn : ∀ x : Nat, x ≤ 1114111 → 0 ≤ f x ∧ f x ≤ 2147483647) (hT : Lib.Utf8Tabs 2 3 w) :
    Calls Tryd.prog 109 #[.func (.func g) #[] lb, .string s] w fun e w' => e = .returned (.string ⟨(Lib.mapD f s.data.toList).toArray⟩) ∧ Below w.heap.size w w' := Any.strings_Map_runes Tryd.lays230 Tryd.Builder_Extra_230 g lb eg f s w hs hf hnn hT
open Go.RowKit Go.Lib in
theorem Tryd.strings_ToLower_beyond (s : ByteArray) (w : World) (hs : s.size < 35184372088832) (hhigh : ∃ (j : Nat) (b : UInt8), s.data.toList[j]? = some b ∧ 128 ≤ b.toNat) (hV : CaseVar 6 caseA w) (hT : Lib.Utf8Tabs 2 3 w) :
    Calls Tryd.prog 95 #[.string s] w fun e w' => e = .returned (.string ⟨(Lib.toLowerD s.data.toList).toArray⟩) ∧ Below w.heap.size w w' := Any.strings_ToLower_beyond Tryd.lays159 Tryd.Builder_Extra_159 s w hs hhigh hV hT
open Go.RowKit Go.Lib in
theorem Tryd.strings_ToLower_any (s : ByteArray) (w : World) (hs : s.size < 35184372088832) (hV : CaseVar 6 caseA w) (hT : Lib.Utf8Tabs 2 3 w) :
    Calls Tryd.prog 95 #[.string s] w fun e w' => e = .returned (.string ⟨(Lib.toLowerD s.data.toList).toArray⟩) ∧ Below w.heap.size w w' := Any.strings_ToLower_any Tryd.lays159 Tryd.Builder_Extra_159 s w hs hV hT
open Go.RowKit Go.Lib in
theorem Tryd.unicode_is16_any (T : Array Rg) (R oR cap : Nat) (z : Nat) (w : World) (hz : z < 65536) (hT : RgTab .u16 R oR T w) (hok : RgOk 65536 T) (hn : T.size ≤ 1000000000) :
    Calls Tryd.prog 136 #[.slice (some ⟨R, oR, none⟩) T.size cap, .int .u16 z] w fun e w' => e = .returned (.bool (is16Go T z)) ∧ ∃ q, w' = w.drewN q := Any.unicode_is16_any Tryd.lays311 T R oR cap z w hz hT hok hn
def Tryd.lays312_ren : Go.Shelf.Ren := ⟨fun | 312 => 137 | n => n, fun | 194 => 125 | 51 => 110 | 4 => 4 | 3 => 3 | 0 => 0 | 227 => 144 | 201 => 133 | 46 => 51 | n => n, fun | n => n⟩
theorem Tryd.lays312 : Go.Proofs.Lays.n312 Tryd.prog Tryd.lays312_ren := {
  mixed := by kernel_rfl
  f312 := Tryd.func137.trans (congrArg some (by kernel_rfl))
  t0 := Tryd.underlying0
  a0 := Tryd.isAgg0
  z0 := Tryd.sizeOf0
  v0 := Tryd.zeroValue0
  t3 := Tryd.underlying3
  a3 := Tryd.isAgg3
  z3 := Tryd.sizeOf3
  v3 := Tryd.zeroValue3
  t4 := Tryd.underlying4
  a4 := Tryd.isAgg4
  z4 := Tryd.sizeOf4
  v4 := Tryd.zeroValue4
  t46 := Tryd.underlying51
  a46 := Tryd.isAgg51
  z46 := Tryd.sizeOf51
  v46 := Tryd.zeroValue51
  t51 := Tryd.underlying110
  a51 := Tryd.isAgg110
  z51 := Tryd.sizeOf110
  v51 := Tryd.zeroValue110
  t194 := Tryd.underlying125
  a194 := Tryd.isAgg125
  z194 := Tryd.sizeOf125
  v194 := Tryd.zeroValue125
  t201 := Tryd.underlying133
  a201 := Tryd.isAgg133
  z201 := Tryd.sizeOf133
  v201 := Tryd.zeroValue133
  t227 := Tryd.underlying144
  a227 := Tryd.isAgg144
  z227 := Tryd.sizeOf144
  v227 := Tryd.zeroValue144 }
open Go.RowKit Go.Lib in
theorem Tryd.unicode_is32_any (T : Array Rg) (R oR cap : Nat) (z : Nat) (w : World) (hz : z < 4294967296) (hT : RgTab .u32 R oR T w) (hok : RgOk 4294967296 T) (hn : T.size ≤ 1000000000) :
    Calls Tryd.prog 137 #[.slice (some ⟨R, oR, none⟩) T.size cap, .int .u32 z] w fun e w' => e = .returned (.bool (is32Go T z)) ∧ Below w.heap.size w w' := Any.unicode_is32_any Tryd.lays312 T R oR cap z w hz hT hok hn
open Go.RowKit Go.Lib in
theorem Tryd.unicode_isExcludingLatin_any (Tb oT : Nat) (T : RTab) (r : Int) (w : World) (hlo : -2147483648 ≤ r) (hhi : r ≤ 2147483647) (hA : RTabAt Tb oT T w) (hok : RTabOk T) :
    Calls Tryd.prog 125 #[.pointer (some ⟨Tb, oT, none⟩), .int .i32 r] w fun e w' => e = .returned (.bool (exclGo T r)) ∧ Below w.heap.size w w' := Any.unicode_isExcludingLatin_any Tryd.lays261 Tb oT T r w hlo hhi hA hok
def Tryd.lays115_ren : Go.Shelf.Ren := ⟨fun | 115 => 106 | n => n, fun | 37 => 36 | 4 => 4 | 9 => 9 | 5 => 5 | n => n, fun | n => n⟩
theorem Tryd.lays115 : Go.Proofs.Lays.n115 Tryd.prog Tryd.lays115_ren := {
  mixed := by kernel_rfl
  f115 := Tryd.func106.trans (congrArg some (by kernel_rfl))
  t4 := Tryd.underlying4
  a4 := Tryd.isAgg4
  z4 := Tryd.sizeOf4
  v4 := Tryd.zeroValue4
  t9 := Tryd.underlying9
  a9 := Tryd.isAgg9
  z9 := Tryd.sizeOf9
  v9 := Tryd.zeroValue9
  t37 := Tryd.underlying36
  a37 := Tryd.isAgg36
  z37 := Tryd.sizeOf36
  v37 := Tryd.zeroValue36 }
open Go.Proofs Go.RowKit Go.Lib in
theorem Tryd.bytes_Equal_strs (v1 v2 : Value) (t1 t2 : ByteArray) (w : World) (h1 : (convert 36 9 v1).run Tryd.prog w = .ok (.string t1) w) (h2 : (convert 36 9 v2).run Tryd.prog w = .ok (.string t2) w) :
    Calls Tryd.prog 106 #[v1, v2] w fun e w' => e = .returned (.bool (t1.toList == t2.toList)) ∧ w' = w := Any.bytes_Equal_strs Tryd.lays115 v1 v2 t1 t2 w h1 h2
def Tryd.laysnb117_ren : Go.Shelf.Ren := ⟨fun | 117 => 93 | 115 => 106 | n => n, fun | 37 => 36 | 4 => 4 | 3 => 3 | 9 => 9 | 5 => 5 | n => n, fun | n => n⟩
theorem Tryd.laysnb117 : Go.Proofs.Lays.nb117 Tryd.prog Tryd.laysnb117_ren := {
  mixed := by kernel_rfl
  f115 := Tryd.func106.trans (congrArg some (by kernel_rfl))
  f117 := Tryd.func93.trans (congrArg some (by kernel_rfl))
  t3 := Tryd.underlying3
  a3 := Tryd.isAgg3
  z3 := Tryd.sizeOf3
  v3 := Tryd.zeroValue3
  t4 := Tryd.underlying4
  a4 := Tryd.isAgg4
  z4 := Tryd.sizeOf4
  v4 := Tryd.zeroValue4
  t9 := Tryd.underlying9
  a9 := Tryd.isAgg9
  z9 := Tryd.sizeOf9
  v9 := Tryd.zeroValue9
  t37 := Tryd.underlying36
  a37 := Tryd.isAgg36
  z37 := Tryd.sizeOf36
  v37 := Tryd.zeroValue36
  t5 := Tryd.underlying5
  a5 := Tryd.isAgg5
  z5 := Tryd.sizeOf5
  v5 := Tryd.zeroValue5 }
theorem Tryd.bytes_HasSuffix_e2 (p1 p2 : Option Addr) (n c d : Nat) (_hnc : n ≤ c) (hbig : n ≤ 9223372036854775807) (w : World) :
    Calls Tryd.prog 93 #[.slice p1 n c, .slice p2 0 d] w fun e w' => e = .returned (.bool true) ∧ w' = w := Any.bytes_HasSuffix_e2 Tryd.laysnb117 p1 p2 n c d _hnc hbig w
theorem Tryd.bytes_HasSuffix_e1 (p1 p2 : Option Addr) (c m d : Nat) (hm : 0 < m) (w : World) :
    Calls Tryd.prog 93 #[.slice p1 0 c, .slice p2 m d] w fun e w' => e = .returned (.bool false) ∧ w' = w := Any.bytes_HasSuffix_e1 Tryd.laysnb117 p1 p2 c m d hm w
theorem Tryd.bytes_HasSuffix_all (p1 p2 : Option Addr) (n c m d : Nat) (xs ys : List Int) (w : World) (hx : xs.length = n) (hy : ys.length = m) (hnc : n ≤ c) (hbig : n ≤ 9223372036854775807) (h1 : Lib.BytesIn w p1 n xs) (h2 : Lib.BytesIn w p2 m ys) :
    Calls Tryd.prog 93 #[.slice p1 n c, .slice p2 m d] w fun e w' => e = .returned (.bool (Lib.hasSuffix (Lib.bytesOf xs) (Lib.bytesOf ys))) ∧ w' = w := Any.bytes_HasSuffix_all Tryd.laysnb117 p1 p2 n c m d xs ys w hx hy hnc hbig h1 h2
def Tryd.laysnb115_ren : Go.Shelf.Ren := ⟨fun | 115 => 106 | n => n, fun | 37 => 36 | 4 => 4 | 9 => 9 | 5 => 5 | n => n, fun | n => n⟩
theorem Tryd.laysnb115 : Go.Proofs.Lays.nb115 Tryd.prog Tryd.laysnb115_ren := {
  mixed := by kernel_rfl
  f115 := Tryd.func106.trans (congrArg some (by kernel_rfl))
  t4 := Tryd.underlying4
  a4 := Tryd.isAgg4
  z4 := Tryd.sizeOf4
  v4 := Tryd.zeroValue4
  t9 := Tryd.underlying9
  a9 := Tryd.isAgg9
  z9 := Tryd.sizeOf9
  v9 := Tryd.zeroValue9
  t37 := Tryd.underlying36
  a37 := Tryd.isAgg36
  z37 := Tryd.sizeOf36
  v37 := Tryd.zeroValue36
  t5 := Tryd.underlying5
  a5 := Tryd.isAgg5
  z5 := Tryd.sizeOf5
  v5 := Tryd.zeroValue5 }
theorem Tryd.bytes_Equal_all (p1 p2 : Option Addr) (n c m d : Nat) (xs ys : List Int) (w : World) (hx : xs.length = n) (hy : ys.length = m) (h1 : Lib.BytesIn w p1 n xs) (h2 : Lib.BytesIn w p2 m ys) :
    Calls Tryd.prog 106 #[.slice p1 n c, .slice p2 m d] w fun e w' => e = .returned (.bool (Lib.bytesOf xs == Lib.bytesOf ys)) ∧ w' = w := Any.bytes_Equal_all Tryd.laysnb115 p1 p2 n c m d xs ys w hx hy h1 h2
theorem Tryd.bytes_Equal (v1 v2 : Value) (xs ys : List Int) (w : World) (h1 : (convert 36 9 v1).run Tryd.prog w = .ok (.string (strOfNums xs)) w) (h2 : (convert 36 9 v2).run Tryd.prog w = .ok (.string (strOfNums ys)) w) :
    Calls Tryd.prog 106 #[v1, v2] w fun e w' => e = .returned (.bool (Lib.bytesOf xs == Lib.bytesOf ys)) ∧ w' = w := Any.bytes_Equal Tryd.lays115 v1 v2 xs ys w h1 h2
theorem Tryd.bytes_HasSuffix (b1 o1 n c b2 o2 m d : Nat) (xs ys : List Int) (w : World) (hx : xs.length = n) (hy : ys.length = m) (hnc : n ≤ c) (hbig : n ≤ 9223372036854775807) (hc1 : ∀ i, i < n → w.cell? ⟨b1, o1 + i, none⟩ = some (.int .u8 (xs.getD i 0))) (hc2 : ∀ i, i < m → w.cell? ⟨b2, o2 + i, none⟩ = some (.int .u8 (ys.getD i 0))) :
    Calls Tryd.prog 93 #[.slice (some ⟨b1, o1, none⟩) n c, .slice (some ⟨b2, o2, none⟩) m d] w fun e w' => e = .returned (.bool (Lib.hasSuffix (Lib.bytesOf xs) (Lib.bytesOf ys))) ∧ w' = w := Any.bytes_HasSuffix Tryd.laysnb117 b1 o1 n c b2 o2 m d xs ys w hx hy hnc hbig hc1 hc2
end Go.Proofs
