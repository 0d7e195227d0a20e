/- Bytes copied one by one from an offset back: the model. Plain; no program. -/
import Derived.Test.YtkdfminibmdkgaaDoorWinM
namespace Go.Sx
open Go
/-- the bytes that are copied: those from the offset on, round and round -/
def per (all : List UInt8) (o n : Nat) : List UInt8 := (List.range n).map fun t => all.getD (all.length - o + t % o) 0
theorem per_len (all : List UInt8) (o n : Nat) : (per all o n).length = n := by simp [per]
theorem per_at (all : List UInt8) (o n : Nat) {t : Nat} (h : t < n) : (per all o n)[t]? = some (all.getD (all.length - o + t % o) 0) := by simp [per, h]
theorem per_succ (all : List UInt8) (o n : Nat) : per all o (n + 1) = per all o n ++ [all.getD (all.length - o + n % o) 0] := by
  simp [per, List.range_succ]
theorem per_add (all : List UInt8) (o n : Nat) : ∀ m, per all o (n + m) = per all o n ++ (List.range m).map fun t => all.getD (all.length - o + (n + t) % o) 0
  | 0 => by simp
  | m + 1 => by rw [← Nat.add_assoc, per_succ, per_add all o n m, List.range_succ, List.map_append, List.append_assoc]; rfl
/-- the byte that stands so far back -/
theorem per_back {all : List UInt8} {o n : Nat} (h0 : 1 ≤ o) (h1 : o ≤ all.length) : (all ++ per all o n)[all.length + n - o]? = some (all.getD (all.length - o + n % o) 0) := by
  rcases Nat.lt_or_ge n o with h | h
  · rw [List.getElem?_append_left (by omega), Nat.mod_eq_of_lt h, List.getD_eq_getElem?_getD]
    have e : all.length + n - o = all.length - o + n := by omega
    rw [e, List.getElem?_eq_getElem (by omega)]
    rfl
  · rw [List.getElem?_append_right (by omega)]
    have e : all.length + n - o - all.length = n - o := by omega
    rw [e, per_at _ _ _ (by omega), Nat.mod_eq_sub_mod h]
/-- what stands in the buffer from a place on is what comes next, if the places agree -/
theorem per_copy {pre bs : List UInt8} {o d bo i0 q : Nat} (h1 : o ≤ (pre ++ bs).length) (hbo : pre.length + bo = (pre ++ bs).length - o + i0) (hd : d % o = i0 % o) (hq : bo + q ≤ bs.length + d) :
    ((bs ++ per (pre ++ bs) o d).drop bo).take q = (List.range q).map fun t => (pre ++ bs).getD ((pre ++ bs).length - o + (d + t) % o) 0 := by
  have hl : (pre ++ bs).length = pre.length + bs.length := by simp
  apply List.ext_getElem?
  intro j
  by_cases hj : j < q
  · rw [List.getElem?_take_of_lt hj, List.getElem?_drop]
    have hr : ((List.range q).map fun t => (pre ++ bs).getD ((pre ++ bs).length - o + (d + t) % o) 0)[j]? = some ((pre ++ bs).getD ((pre ++ bs).length - o + (d + j) % o) 0) := by simp [hj]
    rw [hr]
    have hmod : (d + j) % o = (i0 + j) % o := by rw [Nat.add_mod, hd, ← Nat.add_mod]
    rw [hmod]
    rcases Nat.lt_or_ge (bo + j) bs.length with h | h
    · rw [List.getElem?_append_left h]
      have hlt : i0 + j < o := by omega
      rw [Nat.mod_eq_of_lt hlt, List.getD_eq_getElem?_getD]
      have e : (pre ++ bs).length - o + (i0 + j) = pre.length + (bo + j) := by omega
      rw [e, List.getElem?_append_right (by omega), Nat.add_sub_cancel_left, List.getElem?_eq_getElem h]
      rfl
    · rw [List.getElem?_append_right h, per_at _ _ _ (by omega)]
      have hx : i0 + j = (bo + j - bs.length) + o := by omega
      rw [hx, Nat.add_mod_right]
  · rw [List.getElem?_eq_none (by simp; omega), List.getElem?_eq_none (by simp; omega)]
/-- what comes out of the window -/
theorem per_window {pre bs : List UInt8} {o q : Nat} (h0 : bs.length < o) (h1 : o ≤ (pre ++ bs).length) (hq : q ≤ o - bs.length) : (pre.drop ((pre ++ bs).length - o)).take q = per (pre ++ bs) o q := by
  have hl : (pre ++ bs).length = pre.length + bs.length := by simp
  apply List.ext_getElem?
  intro j
  by_cases hj : j < q
  · rw [List.getElem?_take_of_lt hj, List.getElem?_drop, per_at _ _ _ hj, Nat.mod_eq_of_lt (by omega), List.getD_eq_getElem?_getD, List.getElem?_append_left (by omega), List.getElem?_eq_getElem (by omega)]
    rfl
  · rw [List.getElem?_eq_none (by simp; omega), List.getElem?_eq_none (by rw [per_len]; omega)]
end Go.Sx
