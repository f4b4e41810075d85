/- Numbers of four hexadecimal digits, as Go's library writes them. -/
import Derived.Test.YtolamblmfejhoaaDoorCom
import Derived.Test.YtolamblmfejhoaaDoorPlainH
import Derived.Shelf.Strconv.Itoa0
namespace Go.Proofs.YtolamblmfejhoaaDoor
open Go.RowKit
set_option linter.unusedVariables false
set_option linter.unusedSimpArgs false

def Bruijn (w : World) : Prop := w.cell? ⟨8, 15, none⟩ = some (.int .u8 4)
theorem pow2_16 (w : World) : Calls Tryd.prog 85 #[.int .i64 16] w fun e w' => e = .returned (.bool true) ∧ w = w' := by
  go_enter Tryd.func85, Tryd.ntmps85
  go_wp2
  go_ret
  exact ⟨rfl, rfl⟩
theorem tz64_16 (w : World) (h : Bruijn w) : Calls Tryd.prog 88 #[.int .u64 16] w fun e w' => e = .returned (.int .i64 4) ∧ w = w' := by
  unfold Bruijn at h
  have e1 : bits BinOp.and IntKind.u64 16 (IntKind.u64.wrap (-16)) = 16 := by kernel_rfl
  go_enter Tryd.func88, Tryd.ntmps88
  go_wp2
  go_ret
  exact ⟨rfl, rfl⟩
theorem tz_16 (w : World) (h : Bruijn w) : Calls Tryd.prog 86 #[.int .u64 16] w fun e w' => e = .returned (.int .i64 4) ∧ w = w' := by
  go_enter Tryd.func86, Tryd.ntmps86
  go_wp2_with (go_at_call 88; refine (tz64_16 _ h).mono ?_; rintro e w' ⟨rfl, rfl⟩)
  go_ret
  exact ⟨rfl, rfl⟩

theorem Bruijn.keep {w w' : World} (h : Bruijn w) (k : Below w.heap.size w w') : Bruijn w' :=
  (k.cell (p := ⟨8, 15, none⟩) (World.block_lt_of_cell? _ _ h)).trans h
theorem u64_and15 (a : Nat) (ha : a < 2147483648) : bits .and .u64 (a : Int) 15 = ((a % 16 : Nat) : Int) := by
  have hx : a &&& 15 < 2 ^ 31 := Nat.and_lt_two_pow _ (by omega)
  show IntKind.u64.wrap ((BitVec.ofInt 64 (a : Int) &&& BitVec.ofInt 64 ((15 : Nat) : Int)).toNat : Int) = _
  rw [BitVec.toNat_and, ofInt_64 a ha, ofInt_64 15 (by omega), IntKind.wrap_u64, nat_mask4 a]
  omega
theorem libDigit (d : Nat) (h : d < 16) (h' : d < (⟨#[48, 49, 50, 51, 52, 53, 54, 55, 56, 57, 97, 98, 99, 100, 101, 102, 103, 104, 105, 106, 107, 108, 109, 110, 111, 112, 113, 114, 115, 116, 117, 118, 119, 120, 121, 122]⟩ : ByteArray).size) :
    (⟨#[48, 49, 50, 51, 52, 53, 54, 55, 56, 57, 97, 98, 99, 100, 101, 102, 103, 104, 105, 106, 107, 108, 109, 110, 111, 112, 113, 114, 115, 116, 117, 118, 119, 120, 121, 122]⟩ : ByteArray)[d] = lowHex d := by
  match d, h with
  | 0, _ => rfl
  | 1, _ => rfl
  | 2, _ => rfl
  | 3, _ => rfl
  | 4, _ => rfl
  | 5, _ => rfl
  | 6, _ => rfl
  | 7, _ => rfl
  | 8, _ => rfl
  | 9, _ => rfl
  | 10, _ => rfl
  | 11, _ => rfl
  | 12, _ => rfl
  | 13, _ => rfl
  | 14, _ => rfl
  | 15, _ => rfl
  | n + 16, h => omega
/-- The four bytes that were written, as a string. -/
theorem conv4 (w : World) (x0 x1 x2 x3 : UInt8) :
    (convert 37 9 (.slice (some ⟨w.heap.size, 61, none⟩) 4 4)).run Tryd.prog (w.alloc (.cells ((((Tryd.zeroCells112.setIfInBounds 64 (.int .u8 x0.toNat)).setIfInBounds 63 (.int .u8 x1.toNat)).setIfInBounds 62 (.int .u8 x2.toNat)).setIfInBounds 61 (.int .u8 x3.toNat)) 112)) =
      .ok (.string ⟨#[x3, x2, x1, x0]⟩) (w.alloc (.cells ((((Tryd.zeroCells112.setIfInBounds 64 (.int .u8 x0.toNat)).setIfInBounds 63 (.int .u8 x1.toNat)).setIfInBounds 62 (.int .u8 x2.toNat)).setIfInBounds 61 (.int .u8 x3.toNat)) 112)) := by
  refine run_convert_bytes_back (P := Tryd.prog) _ 37 9 5 ⟨w.heap.size, 61, none⟩ 4 [x3, x2, x1, x0] Tryd.underlying37 Tryd.underlying5 Tryd.underlying9 (fun j hj => ?_)
  have hz : Tryd.zeroCells112.size = 65 := by kernel_rfl
  match j, hj with
  | 0, _ => rw [show (Addr.add ⟨w.heap.size, 61, none⟩ 0) = ⟨w.heap.size, 61, none⟩ from rfl, World.cell?_alloc_new]; simp [hz]
  | 1, _ => rw [show (Addr.add ⟨w.heap.size, 61, none⟩ 1) = ⟨w.heap.size, 62, none⟩ from rfl, World.cell?_alloc_new]; simp [hz]
  | 2, _ => rw [show (Addr.add ⟨w.heap.size, 61, none⟩ 2) = ⟨w.heap.size, 63, none⟩ from rfl, World.cell?_alloc_new]; simp [hz]
  | 3, _ => rw [show (Addr.add ⟨w.heap.size, 61, none⟩ 3) = ⟨w.heap.size, 64, none⟩ from rfl, World.cell?_alloc_new]; simp [hz]
  | n + 4, h => exact absurd h (by simp)
set_option maxRecDepth 100000 in
set_option maxHeartbeats 4000000 in
theorem bits_16 (r : Nat) (h1 : 4096 ≤ r) (h2 : r < 65536) (w : World) (hb : Bruijn w) :
    Calls Tryd.prog 81 #[.slice none 0 0, .int .u64 r, .int .i64 16, .bool false, .bool false] w fun e w' => e = .returned (.tuple #[.slice none 0 0, .string ⟨(hex4 r).toArray⟩]) ∧ Below w.heap.size w w' := by
  have HB := Lib.hid hb; clear hb
  have hw0 : ∀ o, Below w.heap.size w (w.alloc o) := fun o => (Below.refl _ _).alloc (Nat.le_refl _) _
  have HW := Lib.hid hw0; clear hw0
  obtain ⟨r1, hr1⟩ : ∃ a, a = r / 16 := ⟨_, rfl⟩
  obtain ⟨r2, hr2⟩ : ∃ a, a = r1 / 16 := ⟨_, rfl⟩
  obtain ⟨r3, hr3⟩ : ∃ a, a = r2 / 16 := ⟨_, rfl⟩
  obtain ⟨d0, hd0⟩ : ∃ a, a = r % 16 := ⟨_, rfl⟩
  obtain ⟨d1, hd1⟩ : ∃ a, a = r1 % 16 := ⟨_, rfl⟩
  obtain ⟨d2, hd2⟩ : ∃ a, a = r2 % 16 := ⟨_, rfl⟩
  have and0 : bits .and .u64 (r : Int) 15 = (d0 : Int) := by rw [u64_and15 r (by omega), hd0]
  have and1 : bits .and .u64 (r1 : Int) 15 = (d1 : Int) := by rw [u64_and15 r1 (by omega), hd1]
  have and2 : bits .and .u64 (r2 : Int) 15 = (d2 : Int) := by rw [u64_and15 r2 (by omega), hd2]
  have shr0 : ((r : Int) / 16) = r1 := by omega
  have shr1 : ((r1 : Int) / 16) = r2 := by omega
  have shr2 : ((r2 : Int) / 16) = r3 := by omega
  have b0 : d0 < 16 := by omega
  have b1 : d1 < 16 := by omega
  have b2 : d2 < 16 := by omega
  have b3 : r3 < 16 := by omega
  have c1 : 256 ≤ r1 := by omega
  have c2 : 16 ≤ r2 := by omega
  have HH : Hid (hex4 r = [lowHex r3, lowHex d2, lowHex d1, lowHex d0]) := Lib.hid <| by
    have e3 : r / 4096 % 16 = r3 := by omega
    have e2 : r / 256 % 16 = d2 := by omega
    have e1 : r / 16 % 16 = d1 := by omega
    unfold hex4
    rw [e3, e2, e1, ← hd0]
  clear hr1 hr2 hr3 hd0 hd1 hd2
  have hcv := conv4 w
  go_enter Tryd.func81, Tryd.ntmps81
  go_wp2_with (go_at_call 85; refine (pow2_16 _).mono ?_; rintro e w' ⟨rfl, rfl⟩)
  refine (tz_16 _ (HB.out.keep (HW.out _))).mono ?_
  rintro e w' ⟨rfl, rfl⟩
  go_wp2
  refine wp_loop_rounds 4 ?_; rw [rounds_succ]
  go_wp2
  rw [rounds_succ]
  go_wp2_with fail
  rw [rounds_succ]
  go_wp2_with fail
  rw [rounds_succ]
  go_wp2_with fail
  go_ret2
  refine ⟨?_, HW.out _⟩
  rw [HH.out, libDigit d0 b0, libDigit d1 b1, libDigit d2 b2, libDigit r3 b3]
  rfl
theorem formatInt_16 (r : Nat) (h1 : 4096 ≤ r) (h2 : r < 65536) (w : World) (hb : Bruijn w) :
    Calls Tryd.prog 76 #[.int .i64 r, .int .i64 16] w fun e w' => e = .returned (.string ⟨(hex4 r).toArray⟩) ∧ Below w.heap.size w w' := by
  have H := Lib.hid (bits_16 r h1 h2 w hb)
  have h1' : (4096 : Int) ≤ r := by omega
  have h2' : (r : Int) < 65536 := by omega
  clear h1 h2 hb
  go_enter Tryd.func76, Tryd.ntmps76
  go_wp2_with (go_at_call 81; refine H.out.mono ?_; rintro e w' ⟨rfl, hb⟩)
  go_ret
  exact ⟨rfl, hb⟩
theorem format_16 (r : Nat) (h1 : 4096 ≤ r) (h2 : r < 65536) (w : World) (hb : Bruijn w) :
    Calls Tryd.prog 72 #[.int .i64 r, .int .i64 16] w fun e w' => e = .returned (.string ⟨(hex4 r).toArray⟩) ∧ Below w.heap.size w w' := by
  have H := Lib.hid (formatInt_16 r h1 h2 w hb)
  clear h1 h2 hb
  go_enter Tryd.func72, Tryd.ntmps72
  go_wp2_with (go_at_call 76; refine H.out.mono ?_; rintro e w' ⟨rfl, hb⟩)
  go_ret
  exact ⟨rfl, hb⟩
theorem zzHex_any (r : Nat) (h1 : 4096 ≤ r) (h2 : r < 65536) (w : World) (hb : Bruijn w) :
    Calls Tryd.prog 63 #[.int .i32 r] w fun e w' => e = .returned (.string ⟨(hex4 r).toArray⟩) ∧ Below w.heap.size w w' := by
  have H := Lib.hid (format_16 r h1 h2 w hb)
  have h1' : (4096 : Int) ≤ r := by omega
  have h2' : (r : Int) < 65536 := by omega
  clear h1 h2 hb
  go_enter Tryd.func63, Tryd.ntmps63
  go_wp2_with (go_at_call 72; refine H.out.mono ?_; rintro e w' ⟨rfl, hb⟩)
  go_ret
  exact ⟨rfl, hb⟩
end Go.Proofs.YtolamblmfejhoaaDoor
