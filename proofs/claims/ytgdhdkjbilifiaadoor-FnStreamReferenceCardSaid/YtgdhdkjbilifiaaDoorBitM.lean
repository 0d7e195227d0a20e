/- Bits of the number of some bytes. Plain; no program. -/
import Derived.Test.YtgdhdkjbilifiaaDoorBits
namespace Go.Sx
open Go
/-- n bits from place p on, the lowest one first -/
def bitsN (N p n : Nat) : Nat := N / 2 ^ p % 2 ^ n
theorem bitsN_lt (N p n : Nat) : bitsN N p n < 2 ^ n := Nat.mod_lt _ (Nat.two_pow_pos n)
theorem bitsN_zero (N p : Nat) : bitsN N p 0 = 0 := by simp [bitsN, Nat.mod_one]
theorem bitsN_split (N p a b : Nat) : bitsN N p (a + b) = bitsN N p a + bitsN N (p + a) b * 2 ^ a := by
  unfold bitsN
  rw [Nat.pow_add, Nat.mod_mul, Nat.pow_add, ← Nat.div_div_eq_div_mul, Nat.mul_comm (2 ^ a)]
theorem bitsN_low (N p : Nat) {b c : Nat} (h : b ≤ c) : bitsN N p c % 2 ^ b = bitsN N p b := by
  unfold bitsN
  exact Nat.mod_mod_of_dvd _ (Nat.pow_dvd_pow 2 h)
theorem bitsN_shr (N p : Nat) {b c : Nat} (h : b ≤ c) : bitsN N p c / 2 ^ b = bitsN N (p + b) (c - b) := by
  obtain ⟨d, rfl⟩ : ∃ d, c = b + d := ⟨c - b, by omega⟩
  rw [bitsN_split, Nat.add_mul_div_right _ _ (Nat.two_pow_pos b), Nat.div_eq_of_lt (bitsN_lt N p b), Nat.zero_add, Nat.add_sub_cancel_left]
theorem num_drop : ∀ (k : Nat) (bs : List UInt8), num (bs.drop k) = num bs / 2 ^ (8 * k)
  | 0, bs => by simp
  | k + 1, [] => by simp [num]
  | k + 1, b :: bs => by
    have hb := b.toNat_lt
    rw [List.drop_succ_cons, num_drop k bs, num_cons, Nat.mul_add, Nat.mul_one, Nat.add_comm (8 * k), Nat.pow_add, ← Nat.div_div_eq_div_mul]
    congr 1
    omega
theorem num_byte {bs : List UInt8} {k : Nat} (hk : k < bs.length) : bs[k].toNat = bitsN (num bs) (8 * k) 8 := by
  have hb := bs[k].toNat_lt
  have h := num_drop k bs
  rw [List.drop_eq_getElem_cons hk, num_cons] at h
  unfold bitsN
  rw [← h]
  omega
theorem byte_bit {bs : List UInt8} {q : Nat} (hk : q / 8 < bs.length) : bs[q / 8].toNat / 2 ^ (q % 8) % 2 = bitsN (num bs) q 1 := by
  rw [num_byte hk, bitsN_shr _ _ (by omega : q % 8 ≤ 8)]
  have e : 8 * (q / 8) + q % 8 = q := by omega
  rw [e]
  have := bitsN_low (num bs) q (b := 1) (c := 8 - q % 8) (by omega)
  simpa using this
theorem mod17 (n : Int) (k : Int) (hk : 0 < k) : (n.tmod k + k).tmod k = n % k := by
  rcases Int.le_total 0 n with h | h
  · rw [Int.tmod_eq_emod_of_nonneg h, Int.tmod_eq_emod_of_nonneg (by have := Int.emod_nonneg n (by omega : k ≠ 0); omega)]
    simp
  · have h1 : n.tmod k = -((-n) % k) := by
      rw [← Int.neg_neg n, Int.neg_tmod, Int.tmod_eq_emod_of_nonneg (by omega)]
      simp
    have h2 := Int.emod_lt_of_pos (-n) hk
    have h3 := Int.emod_nonneg (-n) (by omega : k ≠ 0)
    rw [h1, Int.tmod_eq_emod_of_nonneg (by omega)]
    have h4 : (-((-n) % k) + k) % k = (-((-n) % k)) % k := by simp
    have e : -((-n) % k) = n + k * ((-n) / k) := by
      have := Int.mul_ediv_add_emod (-n) k
      generalize k * ((-n) / k) = z at *
      omega
    rw [h4, e, Int.add_mul_emod_self_left]
end Go.Sx
