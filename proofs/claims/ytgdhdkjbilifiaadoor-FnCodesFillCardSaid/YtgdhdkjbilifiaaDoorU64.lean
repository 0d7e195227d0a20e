/- Numbers of 64 bits without a sign: what the model's operations on whole numbers come to. Plain; no program. -/
import Derived.Test.YtgdhdkjbilifiaaDoorSx
namespace Go.Sx
open Go
def vU64 (x : UInt64) : Value := .int .u64 (x.toNat : Int)
def vU8 (x : UInt8) : Value := .int .u8 (x.toNat : Int)
theorem wrap_u64_eq (n : Int) : IntKind.u64.wrap n = n % 18446744073709551616 := by
  simp [IntKind.wrap, IntKind.bits, IntKind.signed]
theorem w_add (x y : UInt64) : ((x + y).toNat : Int) = IntKind.u64.wrap ((x.toNat : Int) + (y.toNat : Int)) := by
  rw [wrap_u64_eq, UInt64.toNat_add]; omega
theorem w_mul (x y : UInt64) : ((x * y).toNat : Int) = IntKind.u64.wrap ((x.toNat : Int) * (y.toNat : Int)) := by
  rw [wrap_u64_eq, UInt64.toNat_mul]
  simp
theorem ofInt_u64 (x : UInt64) : BitVec.ofInt IntKind.u64.bits (x.toNat : Int) = x.toBitVec := by
  apply BitVec.eq_of_toNat_eq
  simp [IntKind.bits]
theorem back_u64 (b : BitVec 64) : IntKind.u64.wrap (b.toNat : Int) = (b.toNat : Int) := by
  have := b.isLt
  rw [wrap_u64_eq]; omega
theorem w_xor (x y : UInt64) : ((x ^^^ y).toNat : Int) = ixor .u64 (x.toNat : Int) (y.toNat : Int) := by
  unfold ixor
  rw [ofInt_u64, ofInt_u64]
  exact (back_u64 _).symm
theorem w_or (x y : UInt64) : ((x ||| y).toNat : Int) = ior .u64 (x.toNat : Int) (y.toNat : Int) := by
  unfold ior
  rw [ofInt_u64, ofInt_u64]
  exact (back_u64 _).symm
theorem w_and (x y : UInt64) : ((x &&& y).toNat : Int) = iand .u64 (x.toNat : Int) (y.toNat : Int) := by
  unfold iand
  rw [ofInt_u64, ofInt_u64]
  exact (back_u64 _).symm
/-- turned to the left -/
def rotl (x : UInt64) (n : Nat) : UInt64 := (UInt64.ofNat (x.toNat * 2 ^ n)) ||| (UInt64.ofNat (x.toNat / 2 ^ (64 - n)))
theorem w_shl (x : UInt64) (n : Nat) (h : n ≤ 64) : ishl .u64 (x.toNat : Int) (n : Int) = ((UInt64.ofNat (x.toNat * 2 ^ n)).toNat : Int) := by
  unfold ishl
  have : min ((n : Int).toNat) IntKind.u64.bits = n := by simp [IntKind.bits]; omega
  rw [this, wrap_u64_eq]
  simp
theorem w_shr (x : UInt64) (n : Nat) (h : n ≤ 64) : ishr .u64 (x.toNat : Int) (n : Int) = ((UInt64.ofNat (x.toNat / 2 ^ n)).toNat : Int) := by
  unfold ishr
  have : min ((n : Int).toNat) IntKind.u64.bits = n := by simp [IntKind.bits]; omega
  rw [this, Int.fdiv_eq_ediv_of_nonneg _ (by exact Int.le_of_lt (Int.pow_pos (by omega)))]
  have hx := x.toNat_lt
  have hd : x.toNat / 2 ^ n ≤ x.toNat := Nat.div_le_self _ _
  rw [UInt64.toNat_ofNat_of_lt' (by simp [UInt64.size]; omega)]
  simp
theorem w_rotl (x : UInt64) (n : Nat) (h : n ≤ 64) : ((rotl x n).toNat : Int) = ior .u64 (ishl .u64 (x.toNat : Int) (n : Int)) (ishr .u64 (x.toNat : Int) (64 - (n : Int))) := by
  unfold rotl
  rw [w_or, w_shl x n h, show (64 : Int) - (n : Int) = ((64 - n : Nat) : Int) from by omega, w_shr x (64 - n) (by omega)]
def p1 : UInt64 := 11400714785074694791
def p2 : UInt64 := 14029467366897019727
def p3 : UInt64 := 1609587929392839161
def p4 : UInt64 := 9650029242287828579
def p5 : UInt64 := 2870177450012600261
theorem p1_int : (p1.toNat : Int) = 11400714785074694791 := rfl
theorem p2_int : (p2.toNat : Int) = 14029467366897019727 := rfl
theorem p3_int : (p3.toNat : Int) = 1609587929392839161 := rfl
theorem p4_int : (p4.toNat : Int) = 9650029242287828579 := rfl
theorem p5_int : (p5.toNat : Int) = 2870177450012600261 := rfl
def roundU (v n : UInt64) : UInt64 := rotl (v + n * p2) 31 * p1
def mergeU (h v : UInt64) : UInt64 := (h ^^^ roundU 0 v) * p1 + p4
end Go.Sx
