/-
  '|' and '&' on small numbers, at three kinds of integers: as on natural numbers. Condition: both sides are below 256.
-/
import Derived.Laws.BitsAllLaws
import Derived.Laws.BitsLemmas
import Derived.WalkKit
namespace Go.Proofs.Ytejhffcjamdffaa

theorem or_lt256 {a b : Nat} (ha : a < 256) (hb : b < 256) : a ||| b < 256 := Nat.or_lt_two_pow (n := 8) ha hb
theorem and_lt256 {a b : Nat} (ha : a < 256) : a &&& b < 256 := Nat.lt_of_le_of_lt Nat.and_le_left ha

theorem ofInt_small (n a : Nat) (h : a < 2 ^ n) : (BitVec.ofInt n (a : Int)).toNat = a := by
  rw [BitVec.ofInt_natCast, BitVec.toNat_ofNat]; exact Nat.mod_eq_of_lt h

theorem or_i64 (a b : Nat) (ha : a < 256) (hb : b < 256) : bits .or .i64 (a : Int) (b : Int) = ((a ||| b : Nat) : Int) := by
  have hx := or_lt256 ha hb
  show IntKind.i64.wrap ((BitVec.ofInt 64 (a : Int) ||| BitVec.ofInt 64 (b : Int)).toNat : Int) = _
  rw [BitVec.toNat_or, ofInt_small 64 a (by omega), ofInt_small 64 b (by omega), IntKind.wrap_i64]
  omega
theorem and_i64 (a b : Nat) (ha : a < 256) (hb : b < 256) : bits .and .i64 (a : Int) (b : Int) = ((a &&& b : Nat) : Int) := by
  have hx := and_lt256 (b := b) ha
  show IntKind.i64.wrap ((BitVec.ofInt 64 (a : Int) &&& BitVec.ofInt 64 (b : Int)).toNat : Int) = _
  rw [BitVec.toNat_and, ofInt_small 64 a (by omega), ofInt_small 64 b (by omega), IntKind.wrap_i64]
  omega
theorem wrap_u8 (a : Nat) (h : a < 256) : IntKind.u8.wrap (a : Int) = a := by
  simp [IntKind.wrap, IntKind.bits, IntKind.signed]
  omega
theorem wrap_u32 (a : Nat) (h : a < 4294967296) : IntKind.u32.wrap (a : Int) = a := by
  simp [IntKind.wrap, IntKind.bits, IntKind.signed]
  omega
theorem or_u8 (a b : Nat) (ha : a < 256) (hb : b < 256) : bits .or .u8 (a : Int) (b : Int) = ((a ||| b : Nat) : Int) := by
  have hx := or_lt256 ha hb
  show IntKind.u8.wrap ((BitVec.ofInt 8 (a : Int) ||| BitVec.ofInt 8 (b : Int)).toNat : Int) = _
  rw [BitVec.toNat_or, ofInt_small 8 a (by omega), ofInt_small 8 b (by omega), wrap_u8 _ hx]
end Go.Proofs.Ytejhffcjamdffaa
