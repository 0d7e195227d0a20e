/- Bit operations of the model on numbers that are not negative. Plain; no program. -/
import Derived.Test.YtgdhdkjbilifiaaDoorSx
namespace Go.Sx
open Go
theorem wrap_u {k : IntKind} (hk : k.signed = false) (n : Nat) : k.wrap (n : Int) = ((n % 2 ^ k.bits : Nat) : Int) := by
  unfold IntKind.wrap
  rw [hk]
  simp
theorem wrap_u_lt {k : IntKind} (hk : k.signed = false) {n : Nat} (h : n < 2 ^ k.bits) : k.wrap (n : Int) = (n : Int) := by
  rw [wrap_u hk, Nat.mod_eq_of_lt h]
theorem wrap_i64_lt {n : Nat} (h : n < 2 ^ 63) : IntKind.i64.wrap (n : Int) = (n : Int) := IntWalk.i64_in _ (by omega)
theorem ofInt_nat (m n : Nat) : (BitVec.ofInt m (n : Int)).toNat = n % 2 ^ m := by
  rw [BitVec.ofInt_natCast]; simp
theorem ior_u {k : IntKind} (hk : k.signed = false) {x y : Nat} (hx : x < 2 ^ k.bits) (hy : y < 2 ^ k.bits) : ior k x y = ((x ||| y : Nat) : Int) := by
  unfold ior
  rw [BitVec.toNat_or, ofInt_nat, ofInt_nat, Nat.mod_eq_of_lt hx, Nat.mod_eq_of_lt hy, wrap_u_lt hk (Nat.or_lt_two_pow hx hy)]
theorem iand_u {k : IntKind} (hk : k.signed = false) {x y : Nat} (hx : x < 2 ^ k.bits) (hy : y < 2 ^ k.bits) : iand k x y = ((x &&& y : Nat) : Int) := by
  unfold iand
  rw [BitVec.toNat_and, ofInt_nat, ofInt_nat, Nat.mod_eq_of_lt hx, Nat.mod_eq_of_lt hy, wrap_u_lt hk (Nat.and_lt_two_pow x hy)]
theorem ixor_u {k : IntKind} (hk : k.signed = false) {x y : Nat} (hx : x < 2 ^ k.bits) (hy : y < 2 ^ k.bits) : ixor k x y = ((x ^^^ y : Nat) : Int) := by
  unfold ixor
  rw [BitVec.toNat_xor, ofInt_nat, ofInt_nat, Nat.mod_eq_of_lt hx, Nat.mod_eq_of_lt hy, wrap_u_lt hk (Nat.xor_lt_two_pow hx hy)]
theorem ior_i64 {x y : Nat} (hx : x < 2 ^ 63) (hy : y < 2 ^ 63) : ior .i64 x y = ((x ||| y : Nat) : Int) := by
  unfold ior
  rw [BitVec.toNat_or, ofInt_nat, ofInt_nat, Nat.mod_eq_of_lt (by simp [IntKind.bits]; omega), Nat.mod_eq_of_lt (by simp [IntKind.bits]; omega), wrap_i64_lt (Nat.or_lt_two_pow hx hy)]
theorem iand_i64 {x y : Nat} (hx : x < 2 ^ 63) (hy : y < 2 ^ 63) : iand .i64 x y = ((x &&& y : Nat) : Int) := by
  unfold iand
  rw [BitVec.toNat_and, ofInt_nat, ofInt_nat, Nat.mod_eq_of_lt (by simp [IntKind.bits]; omega), Nat.mod_eq_of_lt (by simp [IntKind.bits]; omega), wrap_i64_lt (Nat.and_lt_two_pow x hy)]
theorem ishl_u {k : IntKind} (hk : k.signed = false) (x : Nat) {n : Nat} (h : n ≤ k.bits) : ishl k x n = ((x * 2 ^ n % 2 ^ k.bits : Nat) : Int) := by
  unfold ishl
  have : min ((n : Int).toNat) k.bits = n := by simp; omega
  rw [this, ← wrap_u hk]
  simp
theorem ishl_i64 {x n : Nat} (hn : n ≤ 64) (h : x * 2 ^ n < 2 ^ 63) : ishl .i64 x n = ((x * 2 ^ n : Nat) : Int) := by
  unfold ishl
  have : min ((n : Int).toNat) IntKind.i64.bits = n := by simp [IntKind.bits]; omega
  rw [this, ← wrap_i64_lt h]
  simp
theorem ishr_nat (k : IntKind) (x : Nat) {n : Nat} (h : n ≤ k.bits) : ishr k x n = ((x / 2 ^ n : Nat) : Int) := by
  unfold ishr
  have : min ((n : Int).toNat) k.bits = n := by simp; omega
  rw [this, Int.fdiv_eq_ediv_of_nonneg _ (by exact Int.le_of_lt (Int.pow_pos (by omega)))]
  simp
theorem or_add {x y i : Nat} (h : x < 2 ^ i) : x ||| y * 2 ^ i = x + y * 2 ^ i := by
  have := Nat.shiftLeft_add_eq_or_of_lt h y
  rw [Nat.shiftLeft_eq] at this
  rw [Nat.or_comm, ← this, Nat.add_comm]
/-- the number of some bytes, the lowest one first -/
def num (bs : List UInt8) : Nat := bs.foldr (fun b n => b.toNat + 256 * n) 0
theorem num_nil : num [] = 0 := rfl
theorem num_cons (b : UInt8) (bs : List UInt8) : num (b :: bs) = b.toNat + 256 * num bs := rfl
theorem num_lt : ∀ bs : List UInt8, num bs < 2 ^ (8 * bs.length)
  | [] => by simp [num]
  | b :: bs => by
    have := num_lt bs
    have hb := b.toNat_lt
    rw [num_cons, List.length_cons, Nat.mul_add, Nat.pow_add]
    omega
end Go.Sx
