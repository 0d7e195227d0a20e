/- xxHash-64 of a list of bytes: the accumulators of whole pieces of 32 bytes, the bytes behind them, and what follows. Plain; no program. -/
import Derived.Test.YtnmejcgkgimgoaaU64
import Derived.Test.YtnmejcgkgimgoaaBits
namespace Go.Sx
open Go
def num8 (bs : List UInt8) : UInt64 := UInt64.ofNat (num (bs.take 8))
structure A4 where
  a : UInt64
  b : UInt64
  c : UInt64
  d : UInt64
def stepA (s : A4) (bs : List UInt8) : A4 := ⟨roundU s.a (num8 bs), roundU s.b (num8 (bs.drop 8)), roundU s.c (num8 (bs.drop 16)), roundU s.d (num8 (bs.drop 24))⟩
def lanesN : Nat → A4 → List UInt8 → A4
  | 0, s, _ => s
  | n + 1, s, bs => lanesN n (stepA s bs) (bs.drop 32)
def lanes (s : A4) (bs : List UInt8) : A4 := lanesN (bs.length / 32) s bs
def acc0 : A4 := ⟨p1 + p2, p2, 0, 0 - p1⟩
def tl (bs : List UInt8) : List UInt8 := bs.drop (bs.length / 32 * 32)
theorem lanes_cons (s : A4) {bs : List UInt8} (h : 32 ≤ bs.length) : lanes s bs = lanes (stepA s bs) (bs.drop 32) := by
  unfold lanes
  have : bs.length / 32 = (bs.drop 32).length / 32 + 1 := by rw [List.length_drop]; omega
  rw [this]; rfl
theorem lanes_short (s : A4) {bs : List UInt8} (h : bs.length < 32) : lanes s bs = s := by
  unfold lanes
  rw [Nat.div_eq_of_lt h]; rfl
theorem stepA_app (s : A4) {xs : List UInt8} (ys : List UInt8) (h : 32 ≤ xs.length) : stepA s (xs ++ ys) = stepA s xs := by
  have e : ∀ k, k + 8 ≤ 32 → ((xs ++ ys).drop k).take 8 = (xs.drop k).take 8 := by
    intro k hk
    rw [List.drop_append_of_le_length (by omega), List.take_append_of_le_length (by rw [List.length_drop]; omega)]
  have e0 := e 0 (by omega)
  simp only [List.drop_zero] at e0
  simp only [stepA, num8, e0, e 8 (by omega), e 16 (by omega), e 24 (by omega)]
theorem lanes_app : ∀ (n : Nat) (s : A4) (xs ys : List UInt8), xs.length = 32 * n → lanes s (xs ++ ys) = lanes (lanes s xs) ys
  | 0, s, xs, ys, h => by
    have : xs = [] := List.eq_nil_of_length_eq_zero (by omega)
    subst this
    rw [lanes_short s (bs := []) (by simp)]; rfl
  | n + 1, s, xs, ys, h => by
    rw [lanes_cons s (bs := xs ++ ys) (by simp; omega), stepA_app s ys (by omega), List.drop_append_of_le_length (by omega), lanes_app n _ _ _ (by rw [List.length_drop]; omega), ← lanes_cons s (by omega)]
theorem tl_len (bs : List UInt8) : (tl bs).length = bs.length % 32 := by
  unfold tl; rw [List.length_drop]; omega
theorem pre_tl (bs : List UInt8) : bs = bs.take (bs.length / 32 * 32) ++ tl bs := (List.take_append_drop _ _).symm
theorem pre_len (bs : List UInt8) : (bs.take (bs.length / 32 * 32)).length = 32 * (bs.length / 32) := by
  rw [List.length_take]; omega
theorem lanes_pre (s : A4) (bs : List UInt8) : lanes s (bs.take (bs.length / 32 * 32)) = lanes s bs := by
  have h := lanes_app (bs.length / 32) s (bs.take (bs.length / 32 * 32)) (tl bs) (pre_len bs)
  rw [← pre_tl, lanes_short _ (bs := tl bs) (by rw [tl_len]; omega)] at h
  exact h.symm
/-- more bytes behind: only those behind the whole pieces count -/
theorem lanes_more (s : A4) (all bs : List UInt8) : lanes s (all ++ bs) = lanes (lanes s all) (tl all ++ bs) := by
  have h := lanes_app (all.length / 32) s (all.take (all.length / 32 * 32)) (tl all ++ bs) (pre_len all)
  rw [← List.append_assoc, ← pre_tl, lanes_pre] at h
  exact h
theorem tl_more (all bs : List UInt8) : tl (all ++ bs) = tl (tl all ++ bs) := by
  have e : all.length / 32 * 32 ≤ all.length := Nat.div_mul_le_self _ _
  have h1 : (tl all ++ bs).length / 32 * 32 + all.length / 32 * 32 = (all ++ bs).length / 32 * 32 := by
    rw [List.length_append, tl_len, List.length_append]; omega
  have h2 : tl all ++ bs = (all ++ bs).drop (all.length / 32 * 32) := by
    unfold tl; rw [List.drop_append_of_le_length e]
  rw [h2] at h1 ⊢
  unfold tl
  rw [List.drop_drop]
  congr 1
  omega
theorem tl_short {bs : List UInt8} (h : bs.length < 32) : tl bs = bs := by
  unfold tl; rw [Nat.div_eq_of_lt h]; simp
theorem tl_cons {bs : List UInt8} (h : 32 ≤ bs.length) : tl bs = tl (bs.drop 32) := by
  have := tl_more (bs.take 32) (bs.drop 32)
  rw [List.take_append_drop] at this
  rw [this]
  have : tl (bs.take 32) = [] := List.eq_nil_of_length_eq_zero (by rw [tl_len, List.length_take]; omega)
  rw [this]; rfl
/-! ### What follows -/
def h8 (h : UInt64) (bs : List UInt8) : UInt64 := rotl (h ^^^ roundU 0 (num8 bs)) 27 * p1 + p4
def fin8N : Nat → UInt64 → List UInt8 → UInt64 × List UInt8
  | 0, h, r => (h, r)
  | n + 1, h, r => fin8N n (h8 h r) (r.drop 8)
def fin8 (h : UInt64) (r : List UInt8) : UInt64 × List UInt8 := fin8N (r.length / 8) h r
theorem fin8_cons (h : UInt64) {r : List UInt8} (hr : 8 ≤ r.length) : fin8 h r = fin8 (h8 h r) (r.drop 8) := by
  unfold fin8
  have : r.length / 8 = (r.drop 8).length / 8 + 1 := by rw [List.length_drop]; omega
  rw [this]; rfl
theorem fin8_short (h : UInt64) {r : List UInt8} (hr : r.length < 8) : fin8 h r = (h, r) := by
  unfold fin8; rw [Nat.div_eq_of_lt hr]; rfl
def h4 (h : UInt64) (bs : List UInt8) : UInt64 := rotl (h ^^^ UInt64.ofNat (num (bs.take 4)) * p1) 23 * p2 + p3
def fin4 (x : UInt64 × List UInt8) : UInt64 × List UInt8 := if 4 ≤ x.2.length then (h4 x.1 x.2, x.2.drop 4) else x
def h1U (h : UInt64) (b : UInt8) : UInt64 := rotl (h ^^^ UInt64.ofNat b.toNat * p5) 11 * p1
def fin1 (x : UInt64 × List UInt8) : UInt64 := x.2.foldl h1U x.1
def shr (x : UInt64) (n : Nat) : UInt64 := UInt64.ofNat (x.toNat / 2 ^ n)
def last1 (h : UInt64) : UInt64 := (h ^^^ shr h 33) * p2
def last2 (h : UInt64) : UInt64 := (h ^^^ shr h 29) * p3
def last3 (h : UInt64) : UInt64 := h ^^^ shr h 32
def startU (s : A4) : UInt64 := mergeU (mergeU (mergeU (mergeU (rotl s.a 1 + rotl s.b 7 + rotl s.c 12 + rotl s.d 18) s.a) s.b) s.c) s.d
def hashU (bs : List UInt8) : UInt64 :=
  last3 (last2 (last1 (fin1 (fin4 (fin8 ((if 32 ≤ bs.length then startU (lanes acc0 bs) else p5) + UInt64.ofNat bs.length) (tl bs))))))
theorem w_shr' (x : UInt64) (n : Nat) (h : n ≤ 64) : ((shr x n).toNat : Int) = ishr .u64 (x.toNat : Int) (n : Int) := by
  unfold shr
  rw [w_shr x n h]
theorem ofNat_toNat {n : Nat} (h : n < 2 ^ 64) : ((UInt64.ofNat n).toNat : Int) = (n : Int) := by
  rw [UInt64.toNat_ofNat_of_lt' (by simpa [UInt64.size] using h)]
theorem w_len (n : Nat) : ((UInt64.ofNat n).toNat : Int) = IntKind.u64.wrap (n : Int) := by
  rw [wrap_u64_eq]; simp
theorem num_take_lt (bs : List UInt8) (k : Nat) : num (bs.take k) < 2 ^ (8 * k) := by
  refine Nat.lt_of_lt_of_le (num_lt _) (Nat.pow_le_pow_right (by omega) ?_)
  rw [List.length_take]; omega
end Go.Sx
