/- Bits one behind the other as a number, and bytes that are turned one by one. Plain; no program. -/
import Derived.Test.YtgdhdkjbilifiaaDoorBitM
namespace Go.Sx
open Go
theorem or_bit_dec : ∀ x < 256, ∀ r < 8, x / 2 ^ r % 2 = 0 → x ||| 2 ^ r = x + 2 ^ r ∧ x + 2 ^ r < 256 := by decide +kernel
theorem num_set : ∀ {bs : List UInt8} {j : Nat} (hj : j < bs.length) (y : UInt8) (d : Nat), y.toNat = bs[j].toNat + d → num (bs.set j y) = num bs + d * 2 ^ (8 * j)
  | b :: bs, 0, _, y, d, h => by
    simp only [List.set_cons_zero, num_cons, List.getElem_cons_zero] at h ⊢
    omega
  | b :: bs, j + 1, hj, y, d, h => by
    have hj' : j < bs.length := by simpa using hj
    have h' : y.toNat = bs[j].toNat + d := by simpa using h
    have e : 2 ^ (8 * (j + 1)) = 256 * 2 ^ (8 * j) := by
      rw [show 8 * (j + 1) = 8 * j + 8 by omega, Nat.pow_add, Nat.mul_comm]
    rw [List.set_cons_succ, num_cons, num_cons, num_set hj' y d h', e]
    have : d * (256 * 2 ^ (8 * j)) = 256 * (d * 2 ^ (8 * j)) := Nat.mul_left_comm _ _ _
    omega
/-- bits, the first one the highest -/
def hiN (a : Nat) : List Int → Nat
  | [] => a
  | z :: r => hiN (2 * a + z.toNat) r
theorem hiN_snoc (a : Nat) (zs : List Int) (z : Int) : hiN a (zs ++ [z]) = 2 * hiN a zs + z.toNat := by
  induction zs generalizing a with
  | nil => rfl
  | cons x r ih => exact ih _
theorem hiN_add (a : Nat) (zs : List Int) : hiN a zs = a * 2 ^ zs.length + hiN 0 zs := by
  induction zs generalizing a with
  | nil => simp [hiN]
  | cons x r ih =>
    simp only [hiN, List.length_cons]
    rw [ih (2 * a + x.toNat), ih (2 * 0 + x.toNat), Nat.pow_succ, Nat.add_mul, Nat.mul_zero, Nat.zero_add]
    have : 2 * a * 2 ^ r.length = a * (2 ^ r.length * 2) := by rw [Nat.mul_comm 2 a, Nat.mul_assoc, Nat.mul_comm 2]
    omega
theorem hiN_lt {zs : List Int} (h : ∀ z ∈ zs, z = 0 ∨ z = 1) : hiN 0 zs < 2 ^ zs.length := by
  induction zs with
  | nil => simp [hiN]
  | cons x r ih =>
    have h1 := ih fun z hz => h z (List.mem_cons_of_mem _ hz)
    simp only [hiN, List.length_cons]
    rw [hiN_add, Nat.pow_succ]
    rcases h x List.mem_cons_self with rfl | rfl
    · simp; omega
    · simp; omega
/-- the bit of `hiN` at a place -/
theorem hiN_bit {a : Nat} {zs : List Int} (h : ∀ z ∈ zs, z = 0 ∨ z = 1) {k : Nat} (hk : k < zs.length) : bitsN (hiN a zs) (zs.length - 1 - k) 1 = zs[k].toNat := by
  have key : hiN a zs / 2 ^ (zs.length - 1 - k) = hiN a (zs.take (k + 1)) := by
    have e : zs = zs.take (k + 1) ++ zs.drop (k + 1) := (List.take_append_drop _ _).symm
    have happ : ∀ (a : Nat) (xs ys : List Int), hiN a (xs ++ ys) = hiN (hiN a xs) ys := by
      intro a xs
      induction xs generalizing a with
      | nil => intro ys; rfl
      | cons x r ih => intro ys; exact ih _ ys
    conv => lhs; rw [e]
    rw [happ, hiN_add]
    have hd : (zs.drop (k + 1)).length = zs.length - 1 - k := by simp; omega
    have hl := hiN_lt (zs := zs.drop (k + 1)) fun z hz => h z (List.mem_of_mem_drop hz)
    rw [hd] at hl ⊢
    simp only [List.length_append, List.length_take, hd]
    have e2 : min (k + 1) zs.length + (zs.length - 1 - k) - 1 - k = zs.length - 1 - k := by omega
    rw [e2, Nat.mul_comm, Nat.mul_add_div (Nat.two_pow_pos _), Nat.div_eq_of_lt hl, Nat.add_zero]
  unfold bitsN
  rw [key, List.take_succ_eq_append_getElem hk, hiN_snoc]
  rcases h _ (List.getElem_mem hk) with e | e <;> rw [e] <;> simp <;> omega
end Go.Sx
