/- Plain functions that say what the reference computes: UTF-8, character references, ECMAScript and so on. No program is in sight here. -/
import Derived.Lib.DecodeN
import Derived.Laws.BitsAllLaws
import Derived.Laws.Shifts
import Derived.WalkKit
namespace Go.Proofs.YtolamblmfejhoaaDoor
open Go.Lib (decodeN)

abbrev Bytes := List UInt8

def isAlphaB (c : Nat) : Bool := (decide (97 ≤ c) && decide (c ≤ 122)) || (decide (65 ≤ c) && decide (c ≤ 90))
def isAlnumB (c : Nat) : Bool := isAlphaB c || (decide (48 ≤ c) && decide (c ≤ 57))
def digitV (c : Nat) : Nat := if 48 ≤ c ∧ c ≤ 57 then c - 48 else if 97 ≤ c ∧ c ≤ 102 then c - 87 else if 65 ≤ c ∧ c ≤ 70 then c - 55 else 99
def hasB (l : Bytes) (c : Nat) : Bool := l.any (fun b => b.toNat == c)
def hasAnyB (l m : Bytes) : Bool := l.any (fun b => hasB m b.toNat)
def wordL (l : Bytes) : Bytes := l.takeWhile (fun b => isAlnumB b.toNat)

/-- The byte at a place, as a number (0 beyond the end). -/
def at0 (l : Bytes) (i : Nat) : Nat := (l.getD i 0).toNat
/-- The first character: its number and its width. -/
def decL (l : Bytes) : Nat × Nat := decodeN l.length (at0 l 0) (at0 l 1) (at0 l 2) (at0 l 3)
/-- Its width; 0 if it is none. -/
def sizeL (l : Bytes) : Nat := if (decL l).1 = 65533 ∧ (decL l).2 = 1 then 0 else (decL l).2
def validGo : Nat → Bytes → Bool
  | 0, l => l.isEmpty
  | f + 1, l => l.isEmpty || (sizeL l != 0 && validGo f (l.drop (sizeL l)))
def validL (l : Bytes) : Bool := validGo l.length l

def ents : List (List UInt8 × List UInt8 × Bool) := [
  ([97, 109, 112], [38], true),
  ([108, 116], [60], true),
  ([103, 116], [62], true),
  ([113, 117, 111, 116], [34], true),
  ([65, 77, 80], [38], true),
  ([76, 84], [60], true),
  ([110, 98, 115, 112], [194, 160], true),
  ([99, 111, 112, 121], [194, 169], true),
  ([114, 101, 103], [194, 174], true),
  ([97, 97, 99, 117, 116, 101], [195, 161], true),
  ([65, 97, 99, 117, 116, 101], [195, 129], true),
  ([101, 97, 99, 117, 116, 101], [195, 169], true),
  ([97, 117, 109, 108], [195, 164], true),
  ([111, 117, 109, 108], [195, 182], true),
  ([117, 117, 109, 108], [195, 188], true),
  ([115, 122, 108, 105, 103], [195, 159], true),
  ([99, 99, 101, 100, 105, 108], [195, 167], true),
  ([110, 116, 105, 108, 100, 101], [195, 177], true),
  ([112, 111, 117, 110, 100], [194, 163], true),
  ([121, 101, 110], [194, 165], true),
  ([99, 101, 110, 116], [194, 162], true),
  ([115, 101, 99, 116], [194, 167], true),
  ([112, 97, 114, 97], [194, 182], true),
  ([100, 101, 103], [194, 176], true),
  ([112, 108, 117, 115, 109, 110], [194, 177], true),
  ([116, 105, 109, 101, 115], [195, 151], true),
  ([100, 105, 118, 105, 100, 101], [195, 183], true),
  ([102, 114, 97, 99, 49, 50], [194, 189], true),
  ([108, 97, 113, 117, 111], [194, 171], true),
  ([114, 97, 113, 117, 111], [194, 187], true),
  ([109, 105, 100, 100, 111, 116], [194, 183], true),
  ([109, 105, 99, 114, 111], [194, 181], true),
  ([110, 111, 116], [194, 172], true),
  ([115, 104, 121], [194, 173], true),
  ([97, 112, 111, 115], [39], false),
  ([101, 117, 114, 111], [226, 130, 172], false),
  ([104, 101, 108, 108, 105, 112], [226, 128, 166], false),
  ([109, 100, 97, 115, 104], [226, 128, 148], false),
  ([110, 100, 97, 115, 104], [226, 128, 147], false),
  ([108, 115, 113, 117, 111], [226, 128, 152], false),
  ([114, 115, 113, 117, 111], [226, 128, 153], false),
  ([108, 100, 113, 117, 111], [226, 128, 156], false),
  ([114, 100, 113, 117, 111], [226, 128, 157], false),
  ([98, 117, 108, 108], [226, 128, 162], false),
  ([97, 108, 112, 104, 97], [206, 177], false),
  ([98, 101, 116, 97], [206, 178], false),
  ([108, 97, 114, 114], [226, 134, 144], false),
  ([114, 97, 114, 114], [226, 134, 146], false),
  ([105, 110, 102, 105, 110], [226, 136, 158], false),
  ([110, 101], [226, 137, 160], false),
  ([108, 101], [226, 137, 164], false),
  ([103, 101], [226, 137, 165], false),
  ([110, 111, 116, 105, 110], [226, 136, 137], false),
  ([78, 111, 116, 69, 113, 117, 97, 108, 84, 105, 108, 100, 101], [226, 137, 130, 204, 184], false)]
def strangeL : List (List UInt8) := [
  [122, 122, 122],
  [97, 109, 112, 120],
  [108, 116, 53],
  [103, 116, 113],
  [110, 111, 116, 105, 116],
  [110, 111, 116, 120],
  [99, 111, 112, 121, 55],
  [114, 101, 103, 113],
  [121, 101, 110, 57],
  [113, 113, 113],
  [120],
  [113],
  [97, 112, 111, 115],
  [101, 117, 114, 111],
  [104, 101, 108, 108, 105, 112],
  [97, 108, 112, 104, 97],
  [110, 111, 116, 105, 110],
  [78, 111, 116, 69, 113, 117, 97, 108, 84, 105, 108, 100, 101]]

def codedL (n : Nat) : Bytes :=
  if n < 128 then [UInt8.ofNat n]
  else if n < 2048 then [UInt8.ofNat (192 + n / 64), UInt8.ofNat (128 + n % 64)]
  else if n < 65536 then [UInt8.ofNat (224 + n / 4096), UInt8.ofNat (128 + n / 64 % 64), UInt8.ofNat (128 + n % 64)]
  else [UInt8.ofNat (240 + n / 262144), UInt8.ofNat (128 + n / 4096 % 64), UInt8.ofNat (128 + n / 64 % 64), UInt8.ofNat (128 + n % 64)]
def tabC : List Nat := [0x20ac, 0x81, 0x201a, 0x192, 0x201e, 0x2026, 0x2020, 0x2021, 0x2c6, 0x2030, 0x160, 0x2039, 0x152, 0x8d, 0x17d, 0x8f,
  0x90, 0x2018, 0x2019, 0x201c, 0x201d, 0x2022, 0x2013, 0x2014, 0x2dc, 0x2122, 0x161, 0x203a, 0x153, 0x9d, 0x17e, 0x178]
def charOfN (n : Nat) : Nat :=
  if n = 0 ∨ n > 0x10ffff ∨ (0xd800 ≤ n ∧ n ≤ 0xdfff) then 0xfffd else if 0x80 ≤ n ∧ n < 0xa0 then tabC.getD (n - 0x80) 0 else n
/-- The digits of a number: the value (at most 110000 hexadecimal) and the place behind them. -/
def numGo (base : Nat) : Bytes → Nat → Nat → Nat × Nat
  | [], v, i => (v, i)
  | b :: t, v, i => if digitV b.toNat < base then numGo base t (min (v * base + digitV b.toNat) 0x110000) (i + 1) else (v, i)
def numBase (s : Bytes) : Nat := if 2 < s.length ∧ (at0 s 2 = 120 ∨ at0 s 2 = 88) then 16 else 10
def numFirst (s : Bytes) : Nat := if 2 < s.length ∧ (at0 s 2 = 120 ∨ at0 s 2 = 88) then 3 else 2
def numericL (s : Bytes) : Bytes × Nat × Bool :=
  let p := numGo (numBase s) (s.drop (numFirst s)) 0 (numFirst s)
  if p.2 = numFirst s then ([], 0, false)
  else (codedL (charOfN p.1), (if p.2 < s.length ∧ at0 s p.2 = 59 then p.2 + 1 else p.2), true)
def semiAt (s : Bytes) (long : Nat) : Bool := decide (long < s.length) && at0 s long == 59
def refSkip (s w : Bytes) (e : Bytes × Bytes × Bool) : Bool :=
  decide (w.length < e.1.length) || (w.take e.1.length != e.1) || (!semiAt s (e.1.length + 1) && !e.2.2) || (semiAt s (e.1.length + 1) && decide (e.1.length < w.length) && !e.2.2)
def refLong (s : Bytes) (e : Bytes × Bytes × Bool) : Nat := if semiAt s (e.1.length + 1) then e.1.length + 2 else e.1.length + 1
def refStep (s w : Bytes) (st : Bytes × Nat) (e : Bytes × Bytes × Bool) : Bytes × Nat :=
  if refSkip s w e = true then st else if refLong s e ≤ st.2 then st else (e.2.1, refLong s e)
def refFold (s : Bytes) : Bytes × Nat := ents.foldl (refStep s (wordL (s.drop 1))) ([], 0)
def refNone (s : Bytes) (attr : Bool) (n : Nat) : Bool :=
  n == 0 || (attr && at0 s (n - 1) != 59 && decide (n < s.length) && (at0 s n == 61 || isAlnumB (at0 s n)))
def referenceL (s : Bytes) (attr : Bool) : Bytes × Nat × Bool :=
  if s.length < 2 ∨ at0 s 0 ≠ 38 then ([], 0, false)
  else if at0 s 1 = 35 then numericL s
  else if refNone s attr (refFold s).2 = true then ([], 0, false)
  else ((refFold s).1, (refFold s).2, true)
def unescGo (attr : Bool) : Nat → Bytes → Bytes
  | 0, _ => []
  | _ + 1, [] => []
  | f + 1, b :: t => if b.toNat = 38 ∧ (referenceL (b :: t) attr).2.2 = true
      then (referenceL (b :: t) attr).1 ++ unescGo attr f ((b :: t).drop (referenceL (b :: t) attr).2.1) else b :: unescGo attr f t
def unescL (s : Bytes) (attr : Bool) : Bytes := unescGo attr s.length s
def entHit (t w : Bytes) (e : Bytes × Bytes × Bool) : Bool := e.1 == w && (e.2.2 || (decide (w.length < t.length) && at0 t w.length == 59))
def knownAt (t : Bytes) : Bool := (wordL t).isEmpty || ents.any (entHit t (wordL t)) || strangeL.any (· == wordL t)
def knownL : Bytes → Bool
  | [] => true
  | b :: t => (b.toNat != 38 || knownAt t) && knownL t
def plainL (s : Bytes) : Bool := validL s && !hasAnyB s [0, 13]
def readBad (s : Bytes) (q : Nat) : Bool := hasB s q || !validL s || !knownL s || hasAnyB s [0, 13]
/-- What a text is between marks (q: the mark that must not occur; attr: in an attribute). -/
def readL (s : Bytes) (q : Nat) (attr : Bool) : Bytes × Bool := if readBad s q = true then ([], false) else (unescL s attr, true)

/-! ### the widths of characters -/
theorem at0_lt (l : Bytes) (i : Nat) : at0 l i < 256 := (l.getD i 0).toNat_lt
theorem sizeL_1 (l : Bytes) (h : at0 l 0 < 128) : sizeL l = 1 := by
  unfold sizeL decL decodeN
  rw [if_pos h]
  simp; omega
theorem sizeL_0 (l : Bytes) (h : (128 ≤ at0 l 0 ∧ at0 l 0 < 194) ∨ 245 ≤ at0 l 0) : sizeL l = 0 := by
  have := at0_lt l 0
  unfold sizeL decL decodeN
  repeat' split
  all_goals simp_all
  all_goals omega
theorem sizeL_2 (l : Bytes) (h1 : 194 ≤ at0 l 0) (h2 : at0 l 0 < 224) : sizeL l = if 2 ≤ l.length ∧ at0 l 1 / 64 = 2 then 2 else 0 := by
  unfold sizeL decL decodeN
  repeat' split
  all_goals simp_all
  all_goals omega
theorem sizeL_3 (l : Bytes) (h1 : 224 ≤ at0 l 0) (h2 : at0 l 0 < 240) : sizeL l = if 3 ≤ l.length ∧ at0 l 1 / 64 = 2 ∧ at0 l 2 / 64 = 2 ∧ 2048 ≤ (at0 l 0 % 16 * 64 + at0 l 1 % 64) * 64 + at0 l 2 % 64 ∧ ((at0 l 0 % 16 * 64 + at0 l 1 % 64) * 64 + at0 l 2 % 64 < 55296 ∨ 57343 < (at0 l 0 % 16 * 64 + at0 l 1 % 64) * 64 + at0 l 2 % 64) then 3 else 0 := by
  unfold sizeL decL decodeN
  repeat' split
  all_goals simp_all
  all_goals omega
theorem sizeL_4 (l : Bytes) (h1 : 240 ≤ at0 l 0) (h2 : at0 l 0 < 245) : sizeL l = if 4 ≤ l.length ∧ at0 l 1 / 64 = 2 ∧ at0 l 2 / 64 = 2 ∧ at0 l 3 / 64 = 2 ∧ 65536 ≤ ((at0 l 0 % 8 * 64 + at0 l 1 % 64) * 64 + at0 l 2 % 64) * 64 + at0 l 3 % 64 ∧ ((at0 l 0 % 8 * 64 + at0 l 1 % 64) * 64 + at0 l 2 % 64) * 64 + at0 l 3 % 64 ≤ 1114111 then 4 else 0 := by
  unfold sizeL decL decodeN
  repeat' split
  all_goals simp_all
  all_goals omega

/-! ### the bits of bytes and small numbers -/
theorem ofInt_64 (a : Nat) (ha : a < 2147483648) : (BitVec.ofInt 64 (a : Int)).toNat = a := by
  rw [BitVec.ofInt_natCast, BitVec.toNat_ofNat]; exact Nat.mod_eq_of_lt (by omega)
theorem i64_and_nat (a b : Nat) (ha : a < 2147483648) (hb : b < 2147483648) : bits .and .i64 (a : Int) (b : Int) = ((a &&& b : Nat) : Int) := by
  have hx : a &&& b < 2 ^ 31 := Nat.and_lt_two_pow _ (by omega)
  show IntKind.i64.wrap ((BitVec.ofInt 64 (a : Int) &&& BitVec.ofInt 64 (b : Int)).toNat : Int) = _
  rw [BitVec.toNat_and, ofInt_64 a ha, ofInt_64 b hb, IntKind.wrap_i64]
  omega
theorem i64_or_nat (a b : Nat) (ha : a < 2147483648) (hb : b < 2147483648) : bits .or .i64 (a : Int) (b : Int) = ((a ||| b : Nat) : Int) := by
  have hx : a ||| b < 2 ^ 31 := Nat.or_lt_two_pow (by omega) (by omega)
  show IntKind.i64.wrap ((BitVec.ofInt 64 (a : Int) ||| BitVec.ofInt 64 (b : Int)).toNat : Int) = _
  rw [BitVec.toNat_or, ofInt_64 a ha, ofInt_64 b hb, IntKind.wrap_i64]
  omega
theorem and31 (a : Nat) (ha : a < 2147483648) : bits .and .i64 (a : Int) 31 = ((a % 32 : Nat) : Int) := by
  have := i64_and_nat a 31 ha (by omega); rw [nat_mask5] at this; exact this
theorem and15 (a : Nat) (ha : a < 2147483648) : bits .and .i64 (a : Int) 15 = ((a % 16 : Nat) : Int) := by
  have := i64_and_nat a 15 ha (by omega); rw [nat_mask4] at this; exact this
theorem and7 (a : Nat) (ha : a < 2147483648) : bits .and .i64 (a : Int) 7 = ((a % 8 : Nat) : Int) := by
  have := i64_and_nat a 7 ha (by omega); rw [nat_mask3] at this; exact this
theorem and63b (a : Nat) (ha : a < 256) : bits .and .u8 (a : Int) 63 = ((a % 64 : Nat) : Int) := by
  have := u8_and_nat a 63 ha (by omega); rw [nat_mask6] at this; exact this
theorem cont_test : ∀ a, a < 256 → (((a &&& 192 : Nat) : Int) != 128) = decide (a / 64 ≠ 2) := by decide +kernel
theorem and192 (a : Nat) (ha : a < 256) : (bits .and .u8 (a : Int) 192 != 128) = decide (a / 64 ≠ 2) := by
  have := u8_and_nat a 192 ha (by omega)
  rw [← cont_test a ha, ← this]; rfl
theorem or6 (a b : Nat) (ha : a < 33554432) (hb : b < 64) : bits .or .i64 ((a : Int) * 64) (b : Int) = (a : Int) * 64 + (b : Int) := by
  have h := i64_or_nat (a * 64) b (by omega) (by omega)
  rw [nat_join 6 (a * 64) b (by omega) hb] at h
  exact_mod_cast h
end Go.Proofs.YtolamblmfejhoaaDoor
