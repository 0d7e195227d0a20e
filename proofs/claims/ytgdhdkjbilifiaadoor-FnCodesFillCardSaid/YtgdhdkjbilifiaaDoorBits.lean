/- Bit operations of the model on numbers that are not negative. Plain; no program. Bits of the number of some bytes. Plain; no program. Bits one behind the other as a number, and bytes that are turned one by one. Plain; no program. -/
import Derived.Test.YtgdhdkjbilifiaaDoorSx
namespace Go.Sx
open Go
theorem wrap_u {k : IntKind} (hk : k.signed = false) (n : Nat) : k.wrap (n : Int) = ((n % 2 ^ k.bits : Nat) : Int) := by
  unfold IntKind.wrap
  rw [hk]
  simp
theorem wrap_u_lt {k : IntKind} (hk : k.signed = false) {n : Nat} (h : n < 2 ^ k.bits) : k.wrap (n : Int) = (n : Int) := by
  rw [wrap_u hk, Nat.mod_eq_of_lt h]
theorem wrap_i64_lt {n : Nat} (h : n < 2 ^ 63) : IntKind.i64.wrap (n : Int) = (n : Int) := IntWalk.i64_in _ (by omega)
theorem ofInt_nat (m n : Nat) : (BitVec.ofInt m (n : Int)).toNat = n % 2 ^ m := by
  rw [BitVec.ofInt_natCast]; simp
theorem ior_u {k : IntKind} (hk : k.signed = false) {x y : Nat} (hx : x < 2 ^ k.bits) (hy : y < 2 ^ k.bits) : ior k x y = ((x ||| y : Nat) : Int) := by
  unfold ior
  rw [BitVec.toNat_or, ofInt_nat, ofInt_nat, Nat.mod_eq_of_lt hx, Nat.mod_eq_of_lt hy, wrap_u_lt hk (Nat.or_lt_two_pow hx hy)]
theorem iand_u {k : IntKind} (hk : k.signed = false) {x y : Nat} (hx : x < 2 ^ k.bits) (hy : y < 2 ^ k.bits) : iand k x y = ((x &&& y : Nat) : Int) := by
  unfold iand
  rw [BitVec.toNat_and, ofInt_nat, ofInt_nat, Nat.mod_eq_of_lt hx, Nat.mod_eq_of_lt hy, wrap_u_lt hk (Nat.and_lt_two_pow x hy)]
theorem ixor_u {k : IntKind} (hk : k.signed = false) {x y : Nat} (hx : x < 2 ^ k.bits) (hy : y < 2 ^ k.bits) : ixor k x y = ((x ^^^ y : Nat) : Int) := by
  unfold ixor
  rw [BitVec.toNat_xor, ofInt_nat, ofInt_nat, Nat.mod_eq_of_lt hx, Nat.mod_eq_of_lt hy, wrap_u_lt hk (Nat.xor_lt_two_pow hx hy)]
theorem ior_i64 {x y : Nat} (hx : x < 2 ^ 63) (hy : y < 2 ^ 63) : ior .i64 x y = ((x ||| y : Nat) : Int) := by
  unfold ior
  rw [BitVec.toNat_or, ofInt_nat, ofInt_nat, Nat.mod_eq_of_lt (by simp [IntKind.bits]; omega), Nat.mod_eq_of_lt (by simp [IntKind.bits]; omega), wrap_i64_lt (Nat.or_lt_two_pow hx hy)]
theorem iand_i64 {x y : Nat} (hx : x < 2 ^ 63) (hy : y < 2 ^ 63) : iand .i64 x y = ((x &&& y : Nat) : Int) := by
  unfold iand
  rw [BitVec.toNat_and, ofInt_nat, ofInt_nat, Nat.mod_eq_of_lt (by simp [IntKind.bits]; omega), Nat.mod_eq_of_lt (by simp [IntKind.bits]; omega), wrap_i64_lt (Nat.and_lt_two_pow x hy)]
theorem ishl_u {k : IntKind} (hk : k.signed = false) (x : Nat) {n : Nat} (h : n ≤ k.bits) : ishl k x n = ((x * 2 ^ n % 2 ^ k.bits : Nat) : Int) := by
  unfold ishl
  have : min ((n : Int).toNat) k.bits = n := by simp; omega
  rw [this, ← wrap_u hk]
  simp
theorem ishl_i64 {x n : Nat} (hn : n ≤ 64) (h : x * 2 ^ n < 2 ^ 63) : ishl .i64 x n = ((x * 2 ^ n : Nat) : Int) := by
  unfold ishl
  have : min ((n : Int).toNat) IntKind.i64.bits = n := by simp [IntKind.bits]; omega
  rw [this, ← wrap_i64_lt h]
  simp
theorem ishr_nat (k : IntKind) (x : Nat) {n : Nat} (h : n ≤ k.bits) : ishr k x n = ((x / 2 ^ n : Nat) : Int) := by
  unfold ishr
  have : min ((n : Int).toNat) k.bits = n := by simp; omega
  rw [this, Int.fdiv_eq_ediv_of_nonneg _ (by exact Int.le_of_lt (Int.pow_pos (by omega)))]
  simp
theorem or_add {x y i : Nat} (h : x < 2 ^ i) : x ||| y * 2 ^ i = x + y * 2 ^ i := by
  have := Nat.shiftLeft_add_eq_or_of_lt h y
  rw [Nat.shiftLeft_eq] at this
  rw [Nat.or_comm, ← this, Nat.add_comm]
/-- the number of some bytes, the lowest one first -/
def num (bs : List UInt8) : Nat := bs.foldr (fun b n => b.toNat + 256 * n) 0
theorem num_nil : num [] = 0 := rfl
theorem num_cons (b : UInt8) (bs : List UInt8) : num (b :: bs) = b.toNat + 256 * num bs := rfl
theorem num_lt : ∀ bs : List UInt8, num bs < 2 ^ (8 * bs.length)
  | [] => by simp [num]
  | b :: bs => by
    have := num_lt bs
    have hb := b.toNat_lt
    rw [num_cons, List.length_cons, Nat.mul_add, Nat.pow_add]
    omega
end Go.Sx
namespace Go.Sx
open Go
/-- n bits from place p on, the lowest one first -/
def bitsN (N p n : Nat) : Nat := N / 2 ^ p % 2 ^ n
theorem bitsN_lt (N p n : Nat) : bitsN N p n < 2 ^ n := Nat.mod_lt _ (Nat.two_pow_pos n)
theorem bitsN_zero (N p : Nat) : bitsN N p 0 = 0 := by simp [bitsN, Nat.mod_one]
theorem bitsN_split (N p a b : Nat) : bitsN N p (a + b) = bitsN N p a + bitsN N (p + a) b * 2 ^ a := by
  unfold bitsN
  rw [Nat.pow_add, Nat.mod_mul, Nat.pow_add, ← Nat.div_div_eq_div_mul, Nat.mul_comm (2 ^ a)]
theorem bitsN_low (N p : Nat) {b c : Nat} (h : b ≤ c) : bitsN N p c % 2 ^ b = bitsN N p b := by
  unfold bitsN
  exact Nat.mod_mod_of_dvd _ (Nat.pow_dvd_pow 2 h)
theorem bitsN_shr (N p : Nat) {b c : Nat} (h : b ≤ c) : bitsN N p c / 2 ^ b = bitsN N (p + b) (c - b) := by
  obtain ⟨d, rfl⟩ : ∃ d, c = b + d := ⟨c - b, by omega⟩
  rw [bitsN_split, Nat.add_mul_div_right _ _ (Nat.two_pow_pos b), Nat.div_eq_of_lt (bitsN_lt N p b), Nat.zero_add, Nat.add_sub_cancel_left]
theorem num_drop : ∀ (k : Nat) (bs : List UInt8), num (bs.drop k) = num bs / 2 ^ (8 * k)
  | 0, bs => by simp
  | k + 1, [] => by simp [num]
  | k + 1, b :: bs => by
    have hb := b.toNat_lt
    rw [List.drop_succ_cons, num_drop k bs, num_cons, Nat.mul_add, Nat.mul_one, Nat.add_comm (8 * k), Nat.pow_add, ← Nat.div_div_eq_div_mul]
    congr 1
    omega
theorem num_byte {bs : List UInt8} {k : Nat} (hk : k < bs.length) : bs[k].toNat = bitsN (num bs) (8 * k) 8 := by
  have hb := bs[k].toNat_lt
  have h := num_drop k bs
  rw [List.drop_eq_getElem_cons hk, num_cons] at h
  unfold bitsN
  rw [← h]
  omega
theorem byte_bit {bs : List UInt8} {q : Nat} (hk : q / 8 < bs.length) : bs[q / 8].toNat / 2 ^ (q % 8) % 2 = bitsN (num bs) q 1 := by
  rw [num_byte hk, bitsN_shr _ _ (by omega : q % 8 ≤ 8)]
  have e : 8 * (q / 8) + q % 8 = q := by omega
  rw [e]
  have := bitsN_low (num bs) q (b := 1) (c := 8 - q % 8) (by omega)
  simpa using this
theorem mod17 (n : Int) (k : Int) (hk : 0 < k) : (n.tmod k + k).tmod k = n % k := by
  rcases Int.le_total 0 n with h | h
  · rw [Int.tmod_eq_emod_of_nonneg h, Int.tmod_eq_emod_of_nonneg (by have := Int.emod_nonneg n (by omega : k ≠ 0); omega)]
    simp
  · have h1 : n.tmod k = -((-n) % k) := by
      rw [← Int.neg_neg n, Int.neg_tmod, Int.tmod_eq_emod_of_nonneg (by omega)]
      simp
    have h2 := Int.emod_lt_of_pos (-n) hk
    have h3 := Int.emod_nonneg (-n) (by omega : k ≠ 0)
    rw [h1, Int.tmod_eq_emod_of_nonneg (by omega)]
    have h4 : (-((-n) % k) + k) % k = (-((-n) % k)) % k := by simp
    have e : -((-n) % k) = n + k * ((-n) / k) := by
      have := Int.mul_ediv_add_emod (-n) k
      generalize k * ((-n) / k) = z at *
      omega
    rw [h4, e, Int.add_mul_emod_self_left]
end Go.Sx
namespace Go.Sx
open Go
theorem or_bit_dec : ∀ x < 256, ∀ r < 8, x / 2 ^ r % 2 = 0 → x ||| 2 ^ r = x + 2 ^ r ∧ x + 2 ^ r < 256 := by decide +kernel
theorem num_set : ∀ {bs : List UInt8} {j : Nat} (hj : j < bs.length) (y : UInt8) (d : Nat), y.toNat = bs[j].toNat + d → num (bs.set j y) = num bs + d * 2 ^ (8 * j)
  | b :: bs, 0, _, y, d, h => by
    simp only [List.set_cons_zero, num_cons, List.getElem_cons_zero] at h ⊢
    omega
  | b :: bs, j + 1, hj, y, d, h => by
    have hj' : j < bs.length := by simpa using hj
    have h' : y.toNat = bs[j].toNat + d := by simpa using h
    have e : 2 ^ (8 * (j + 1)) = 256 * 2 ^ (8 * j) := by
      rw [show 8 * (j + 1) = 8 * j + 8 by omega, Nat.pow_add, Nat.mul_comm]
    rw [List.set_cons_succ, num_cons, num_cons, num_set hj' y d h', e]
    have : d * (256 * 2 ^ (8 * j)) = 256 * (d * 2 ^ (8 * j)) := Nat.mul_left_comm _ _ _
    omega
/-- bits, the first one the highest -/
def hiN (a : Nat) : List Int → Nat
  | [] => a
  | z :: r => hiN (2 * a + z.toNat) r
theorem hiN_snoc (a : Nat) (zs : List Int) (z : Int) : hiN a (zs ++ [z]) = 2 * hiN a zs + z.toNat := by
  induction zs generalizing a with
  | nil => rfl
  | cons x r ih => exact ih _
theorem hiN_add (a : Nat) (zs : List Int) : hiN a zs = a * 2 ^ zs.length + hiN 0 zs := by
  induction zs generalizing a with
  | nil => simp [hiN]
  | cons x r ih =>
    simp only [hiN, List.length_cons]
    rw [ih (2 * a + x.toNat), ih (2 * 0 + x.toNat), Nat.pow_succ, Nat.add_mul, Nat.mul_zero, Nat.zero_add]
    have : 2 * a * 2 ^ r.length = a * (2 ^ r.length * 2) := by rw [Nat.mul_comm 2 a, Nat.mul_assoc, Nat.mul_comm 2]
    omega
theorem hiN_lt {zs : List Int} (h : ∀ z ∈ zs, z = 0 ∨ z = 1) : hiN 0 zs < 2 ^ zs.length := by
  induction zs with
  | nil => simp [hiN]
  | cons x r ih =>
    have h1 := ih fun z hz => h z (List.mem_cons_of_mem _ hz)
    simp only [hiN, List.length_cons]
    rw [hiN_add, Nat.pow_succ]
    rcases h x List.mem_cons_self with rfl | rfl
    · simp; omega
    · simp; omega
/-- the bit of `hiN` at a place -/
theorem hiN_bit {a : Nat} {zs : List Int} (h : ∀ z ∈ zs, z = 0 ∨ z = 1) {k : Nat} (hk : k < zs.length) : bitsN (hiN a zs) (zs.length - 1 - k) 1 = zs[k].toNat := by
  have key : hiN a zs / 2 ^ (zs.length - 1 - k) = hiN a (zs.take (k + 1)) := by
    have e : zs = zs.take (k + 1) ++ zs.drop (k + 1) := (List.take_append_drop _ _).symm
    have happ : ∀ (a : Nat) (xs ys : List Int), hiN a (xs ++ ys) = hiN (hiN a xs) ys := by
      intro a xs
      induction xs generalizing a with
      | nil => intro ys; rfl
      | cons x r ih => intro ys; exact ih _ ys
    conv => lhs; rw [e]
    rw [happ, hiN_add]
    have hd : (zs.drop (k + 1)).length = zs.length - 1 - k := by simp; omega
    have hl := hiN_lt (zs := zs.drop (k + 1)) fun z hz => h z (List.mem_of_mem_drop hz)
    rw [hd] at hl ⊢
    simp only [List.length_append, List.length_take, hd]
    have e2 : min (k + 1) zs.length + (zs.length - 1 - k) - 1 - k = zs.length - 1 - k := by omega
    rw [e2, Nat.mul_comm, Nat.mul_add_div (Nat.two_pow_pos _), Nat.div_eq_of_lt hl, Nat.add_zero]
  unfold bitsN
  rw [key, List.take_succ_eq_append_getElem hk, hiN_snoc]
  rcases h _ (List.getElem_mem hk) with e | e <;> rw [e] <;> simp <;> omega
end Go.Sx
