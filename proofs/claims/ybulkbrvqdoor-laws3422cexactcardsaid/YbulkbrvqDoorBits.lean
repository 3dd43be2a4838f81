/-
  Bytes and the numbers that they spell: no walk here.
-/
import Derived.Test.YbulkbrvqDoorRows
import Derived.WalkKit
import Derived.Lib.EndianBits
namespace Go.Proofs.YbulkbrvqDoor
open Go.RowKit

theorem hide {p : Prop} (h : p) : Hid p := h
theorem unhide {p : Prop} (h : Hid p) : p := h

/-- Eight bytes, the greatest first. -/
def be8 (b0 b1 b2 b3 b4 b5 b6 b7 : Int) : Int := b7 + b6 * 256 + b5 * 65536 + b4 * 16777216 + b3 * 4294967296 + b2 * 1099511627776 + b1 * 281474976710656 + b0 * 72057594037927936
def isB (x : Int) : Prop := 0 ≤ x ∧ x ≤ 255

theorem ret_int {k : IntKind} {a b : Int} (h : a = b) : Ending.returned (.int k a) = .returned (.int k b) := by rw [h]

theorem be8_or {b0 b1 b2 b3 b4 b5 b6 b7 : Int} (h0 : isB b0) (h1 : isB b1) (h2 : isB b2) (h3 : isB b3) (h4 : isB b4) (h5 : isB b5) (h6 : isB b6) (h7 : isB b7) :
    bits .or .u64 (bits .or .u64 (bits .or .u64 (bits .or .u64 (bits .or .u64 (bits .or .u64 (bits .or .u64 b7 (b6 * 256)) (b5 * 65536)) (b4 * 16777216)) (b3 * 4294967296)) (b2 * 1099511627776)) (b1 * 281474976710656)) (b0 * 72057594037927936) = be8 b0 b1 b2 b3 b4 b5 b6 b7 := by
  unfold isB at *
  simp (disch := omega) only [u64_or8, u64_or16, u64_or24, u64_or32, u64_or40, u64_or48, u64_or56]
  rfl

/-- .. and back: the bytes of the number. -/
theorem be8_bytes {b0 b1 b2 b3 b4 b5 b6 b7 : Int} (h0 : isB b0) (h1 : isB b1) (h2 : isB b2) (h3 : isB b3) (h4 : isB b4) (h5 : isB b5) (h6 : isB b6) (h7 : isB b7) :
    be8 b0 b1 b2 b3 b4 b5 b6 b7 / 72057594037927936 = b0 ∧ be8 b0 b1 b2 b3 b4 b5 b6 b7 / 281474976710656 % 256 = b1 ∧ be8 b0 b1 b2 b3 b4 b5 b6 b7 / 1099511627776 % 256 = b2 ∧ be8 b0 b1 b2 b3 b4 b5 b6 b7 / 4294967296 % 256 = b3 ∧
    be8 b0 b1 b2 b3 b4 b5 b6 b7 / 16777216 % 256 = b4 ∧ be8 b0 b1 b2 b3 b4 b5 b6 b7 / 65536 % 256 = b5 ∧ be8 b0 b1 b2 b3 b4 b5 b6 b7 / 256 % 256 = b6 ∧ be8 b0 b1 b2 b3 b4 b5 b6 b7 % 256 = b7 ∧ 0 ≤ be8 b0 b1 b2 b3 b4 b5 b6 b7 ∧ be8 b0 b1 b2 b3 b4 b5 b6 b7 < 18446744073709551616 := by
  unfold isB at *
  unfold be8
  refine ⟨?_, ?_, ?_, ?_, ?_, ?_, ?_, ?_, ?_, ?_⟩ <;> omega


/-- The number of an IPv4 address, as netip holds it. -/
def be4 (b0 b1 b2 b3 : Int) : Int := 281470681743360 + b0 * 16777216 + b1 * 65536 + b2 * 256 + b3

theorem u64_join (i : Nat) (x y : Int) (hx₀ : 0 ≤ x) (hx : x % 2 ^ i = 0) (hx₁ : x < 2 ^ 64) (hy₀ : 0 ≤ y) (hy : y < 2 ^ i) (hy₁ : y < 2 ^ 64) : bits .or .u64 x y = x + y :=
  bits_join .u64 64 (by decide) wraps_u64 i x y hx₀ hx hx₁ hy₀ hy hy₁

theorem be4_or {b0 b1 b2 b3 : Int} (h0 : isB b0) (h1 : isB b1) (h2 : isB b2) (h3 : isB b3) :
    bits .or .u64 (bits .or .u64 (bits .or .u64 (bits .or .u64 281470681743360 (b0 * 16777216)) (b1 * 65536)) (b2 * 256)) b3 = be4 b0 b1 b2 b3 := by
  unfold isB at *
  rw [u64_join 32 281470681743360 (b0 * 16777216) (by omega) (by omega) (by omega) (by omega) (by omega) (by omega)]
  rw [u64_join 24 _ (b1 * 65536) (by omega) (by omega) (by omega) (by omega) (by omega) (by omega)]
  rw [u64_join 16 _ (b2 * 256) (by omega) (by omega) (by omega) (by omega) (by omega) (by omega)]
  rw [u64_join 8 _ b3 (by omega) (by omega) (by omega) (by omega) (by omega) (by omega)]
  rfl

theorem be4_bytes {b0 b1 b2 b3 : Int} (h0 : isB b0) (h1 : isB b1) (h2 : isB b2) (h3 : isB b3) :
    be4 b0 b1 b2 b3 % 4294967296 / 16777216 = b0 ∧ be4 b0 b1 b2 b3 % 4294967296 / 65536 % 256 = b1 ∧ be4 b0 b1 b2 b3 % 4294967296 / 256 % 256 = b2 ∧ be4 b0 b1 b2 b3 % 4294967296 % 256 = b3 ∧
    0 ≤ be4 b0 b1 b2 b3 ∧ be4 b0 b1 b2 b3 < 18446744073709551616 := by
  unfold isB at *
  unfold be4
  refine ⟨?_, ?_, ?_, ?_, ?_, ?_⟩ <;> omega

end Go.Proofs.YbulkbrvqDoor
