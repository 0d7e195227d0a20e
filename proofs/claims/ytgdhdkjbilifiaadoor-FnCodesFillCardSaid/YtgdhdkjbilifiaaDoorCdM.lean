/- The table of a prefix code: the model, and what its filling by weights gives. -/
import Derived.Test.YtgdhdkjbilifiaaDoorWidth
namespace Go.Proofs.YtgdhdkjbilifiaaDoor
open Go Go.Sx
set_option maxRecDepth 100000
def wt (w : Nat) : Nat := if w = 0 then 0 else 2 ^ (w - 1)
def wsum (ws : List Nat) : Nat := (ws.map wt).sum
theorem wsum_snoc (ws : List Nat) (w : Nat) : wsum (ws ++ [w]) = wsum ws + wt w := by simp [wsum]
theorem wsum_mem {ws : List Nat} {w : Nat} (h : w ∈ ws) : wt w ≤ wsum ws := by
  induction ws with
  | nil => simp at h
  | cons x l ih =>
    simp only [List.mem_cons] at h
    simp only [wsum, List.map_cons, List.sum_cons] at ih ⊢
    rcases h with rfl | h
    · omega
    · have := ih h; omega
theorem wsum_le {ws : List Nat} {m : Nat} (h : ∀ w ∈ ws, w ≤ m) : wsum ws ≤ ws.length * 2 ^ (m - 1) := by
  induction ws with
  | nil => simp [wsum]
  | cons x l ih =>
    have h1 := ih fun w hw => h w (by simp [hw])
    have h2 : wt x ≤ 2 ^ (m - 1) := by
      unfold wt
      split
      · exact Nat.zero_le _
      · have := h x (by simp)
        exact Nat.pow_le_pow_right (by omega) (by omega)
    simp only [wsum, List.map_cons, List.sum_cons, List.length_cons, Nat.succ_mul] at h1 ⊢
    omega
def wholeN (ws : List Nat) : Option (List Nat × Nat) :=
  if (∀ w ∈ ws, w ≤ 11) ∧ wsum ws ≠ 0 ∧ wd (wsum ws) ≤ 11 ∧ 2 ^ wd (wsum ws) - wsum ws = 2 ^ (wd (2 ^ wd (wsum ws) - wsum ws) - 1) then some (ws ++ [wd (2 ^ wd (wsum ws) - wsum ws)], wd (wsum ws)) else none
theorem lt_wd (n : Nat) : n < 2 ^ wd n := by
  unfold wd
  split
  · subst_vars; decide
  · rename_i h
    exact Nat.lt_log2_self
theorem wd_le_self {n : Nat} (h : 0 < n) : 2 ^ (wd n - 1) ≤ n := by
  unfold wd
  rw [if_neg (by omega)]
  exact Nat.log2_self_le (by omega)
structure Whl (ws all : List Nat) (b : Nat) : Prop where
  al : all = ws ++ [wd (2 ^ b - wsum ws)]
  b0 : 1 ≤ b
  b1 : b ≤ 11
  sm : wsum all = 2 ^ b
  le : ∀ w ∈ all, w ≤ b
  hi : 1 ≤ wd (2 ^ b - wsum ws)
  sb : b = wd (wsum ws)
  lo : 2 ^ (b - 1) ≤ wsum ws
  lt : wsum ws < 2 ^ b
  el : 2 ^ b - wsum ws = 2 ^ (wd (2 ^ b - wsum ws) - 1)
theorem wholeN_facts {ws all : List Nat} {b : Nat} (h : wholeN ws = some (all, b)) : Whl ws all b := by
  unfold wholeN at h
  split at h
  rotate_left
  · cases h
  rename_i h1
  obtain ⟨g1, g2, g3, g4⟩ := h1
  injection h with h
  injection h with h h'
  subst h'
  have hlt := lt_wd (wsum ws)
  have hle := wd_le_self (n := wsum ws) (by omega)
  have hp := wd_pos (n := wsum ws) (by omega)
  have hl0 : 0 < 2 ^ wd (wsum ws) - wsum ws := by omega
  have hlp := wd_pos hl0
  have h2 : 2 ^ wd (wsum ws) = 2 * 2 ^ (wd (wsum ws) - 1) := by
    rw [← Nat.pow_succ']; congr 1; omega
  have hlast : wd (2 ^ wd (wsum ws) - wsum ws) ≤ wd (wsum ws) := by
    apply wd_lt
    omega
  refine ⟨h.symm, hp, g3, ?_, ?_, hlp, rfl, hle, hlt, g4⟩
  · rw [← h, wsum_snoc]
    unfold wt
    rw [if_neg (by omega)]
    omega
  · intro w hw
    rw [← h] at hw
    simp only [List.mem_append, List.mem_singleton] at hw
    rcases hw with hw | rfl
    · have h3 := wsum_mem hw
      unfold wt at h3
      split at h3
      · omega
      · by_cases h4 : w ≤ wd (wsum ws)
        · exact h4
        · have : 2 ^ wd (wsum ws) ≤ 2 ^ (w - 1) := Nat.pow_le_pow_right (by omega) (by omega)
          omega
    · exact hlast
/-- the entries of the symbols of one weight, from a symbol on -/
def segC (b w : Nat) : Nat → List Nat → List (Nat × Nat)
  | _, [] => []
  | i, x :: l => (if x = w then List.replicate (2 ^ (w - 1)) (i, b + 1 - w) else []) ++ segC b w (i + 1) l
theorem segC_append (b w : Nat) : ∀ (i : Nat) (l r : List Nat), segC b w i (l ++ r) = segC b w i l ++ segC b w (i + l.length) r
  | i, [], r => by simp [segC]
  | i, x :: l, r => by
    rw [List.cons_append, segC, segC_append b w (i + 1) l r, segC, List.append_assoc, List.length_cons]
    congr 3
    omega
theorem segC_snoc (b w i : Nat) (l : List Nat) (x : Nat) : segC b w i (l ++ [x]) = segC b w i l ++ (if x = w then List.replicate (2 ^ (w - 1)) (i + l.length, b + 1 - w) else []) := by
  rw [segC_append]
  simp [segC]
theorem segC_len (b w : Nat) : ∀ (i : Nat) (l : List Nat), (segC b w i l).length = l.count w * 2 ^ (w - 1)
  | _, [] => by simp [segC]
  | i, x :: l => by
    rw [segC, List.length_append, segC_len b w (i + 1) l, List.count_cons]
    by_cases h : x = w
    · subst h; simp [Nat.add_mul]; omega
    · have : (x == w) = false := by simpa using h
      simp [h]
/-- where the entries of the weight k + 1 begin -/
def baseC (all : List Nat) : Nat → Nat
  | 0 => 0
  | k + 1 => baseC all k + all.count (k + 1) * 2 ^ k
def tabC (all : List Nat) (b : Nat) : Nat → List (Nat × Nat)
  | 0 => []
  | k + 1 => tabC all b k ++ segC b (k + 1) 0 all
theorem tabC_len (all : List Nat) (b : Nat) : ∀ k, (tabC all b k).length = baseC all k
  | 0 => rfl
  | k + 1 => by rw [tabC, List.length_append, tabC_len all b k, segC_len, baseC]; rfl
theorem baseC_mono (all : List Nat) {j k : Nat} (h : j ≤ k) : baseC all j ≤ baseC all k := by
  induction k with
  | zero => have : j = 0 := by omega
            subst this; exact Nat.le_refl _
  | succ k ih =>
    by_cases h1 : j = k + 1
    · subst h1; exact Nat.le_refl _
    · have := ih (by omega)
      rw [baseC]; omega
theorem baseC_nil : ∀ k, baseC [] k = 0
  | 0 => rfl
  | k + 1 => by rw [baseC, baseC_nil k]; simp
theorem baseC_cons (x : Nat) (l : List Nat) : ∀ k, baseC (x :: l) k = baseC l k + (if x ≤ k then wt x else 0)
  | 0 => by
    show (0 : Nat) = 0 + _
    by_cases h : x ≤ 0
    · have : x = 0 := by omega
      subst this; rfl
    · rw [if_neg h]
  | k + 1 => by
    rw [baseC, baseC_cons x l k, baseC, List.count_cons]
    by_cases h : x = k + 1
    · subst h
      rw [if_neg (show ¬ k + 1 ≤ k by omega), if_pos (show k + 1 ≤ k + 1 by omega)]
      simp [wt, Nat.add_mul]; omega
    · have h' : (x == k + 1) = false := by simpa using h
      rw [h', if_neg (show ¬ (false = true) by decide), Nat.add_zero]
      by_cases h2 : x ≤ k
      · rw [if_pos h2, if_pos (show x ≤ k + 1 by omega)]; omega
      · rw [if_neg h2, if_neg (show ¬ x ≤ k + 1 by omega)]; omega
theorem baseC_all (b : Nat) : ∀ (l : List Nat), (∀ w ∈ l, w ≤ b) → baseC l b = wsum l
  | [], _ => baseC_nil b
  | x :: l, h => by
    rw [baseC_cons, baseC_all b l fun w hw => h w (by simp [hw]), if_pos (h x (by simp))]
    simp [wsum]; omega
theorem Whl.base {ws all : List Nat} {b : Nat} (h : Whl ws all b) : baseC all b = 2 ^ b := by rw [baseC_all b all h.le, h.sm]
theorem wsum_par : ∀ l : List Nat, wsum l % 2 = l.count 1 % 2
  | [] => rfl
  | x :: l => by
    have ih := wsum_par l
    rw [List.count_cons]
    simp only [wsum, List.map_cons, List.sum_cons] at ih ⊢
    unfold wt at ih ⊢
    by_cases h1 : x = 1
    · subst h1; simp; omega
    · have : (x == 1) = false := by simpa using h1
      rw [this]
      split
      · simp; exact ih
      · have : 2 ^ (x - 1) = 2 * 2 ^ (x - 2) := by rw [← Nat.pow_succ']; congr 1; omega
        rw [this]
        simp
        omega
theorem Whl.even {ws all : List Nat} {b : Nat} (h : Whl ws all b) : all.count 1 % 2 = 0 := by
  have h1 := wsum_par all
  have h0 := h.b0
  rw [h.sm] at h1
  have : 2 ^ b = 2 * 2 ^ (b - 1) := by rw [← Nat.pow_succ']; congr 1; omega
  omega
/-- what weights are read to -/
def hufS (ws : List Nat) : Option (List (Nat × Nat) × Nat) :=
  match wholeN ws with
  | none => none
  | some (all, b) => if all.count 1 < 2 then none else some (tabC all b b, b)
def pk (x : Nat × Nat) : Nat := x.1 * 256 + x.2
/-- so many entries from a place on are one value -/
def wrN (T : List Nat) (s v : Nat) : Nat → List Nat
  | 0 => T
  | j + 1 => (wrN T s v j).set (s + j) v
theorem wrN_len (T : List Nat) (s v : Nat) : ∀ j, (wrN T s v j).length = T.length
  | 0 => rfl
  | j + 1 => by rw [wrN, List.length_set, wrN_len T s v j]
theorem wrN_get (T : List Nat) (s v : Nat) : ∀ j p, (wrN T s v j)[p]? = if s ≤ p ∧ p < s + j ∧ p < T.length then some v else T[p]?
  | 0, p => by rw [if_neg (by omega)]; rfl
  | j + 1, p => by
    rw [wrN, List.getElem?_set, wrN_len, wrN_get T s v j p]
    by_cases h : s + j = p
    · subst h
      by_cases h2 : s + j < T.length
      · rw [if_pos rfl, if_pos h2, if_pos (by omega)]
      · rw [if_pos rfl, if_neg h2, if_neg (by omega), List.getElem?_eq_none (by omega)]
    · rw [if_neg h]
      by_cases h3 : s ≤ p ∧ p < s + j ∧ p < T.length
      · rw [if_pos h3, if_pos (by omega)]
      · rw [if_neg h3, if_neg (by omega)]
/-- the entries of the first i symbols stand in the table -/
def Fl (all : List Nat) (b : Nat) (T : List Nat) (i : Nat) : Prop :=
  ∀ k, k < b → ∀ j, j < (segC b (k + 1) 0 (all.take i)).length → T[baseC all k + j]? = (segC b (k + 1) 0 (all.take i))[j]?.map pk
theorem Fl.zero (all : List Nat) (b : Nat) (T : List Nat) : Fl all b T 0 := by
  intro k _ j hj
  simp [segC] at hj
theorem take_snoc : ∀ {l : List Nat} {i : Nat} (h : i < l.length), l.take (i + 1) = l.take i ++ [l[i]]
  | x :: l, 0, _ => rfl
  | x :: l, i + 1, h => by rw [List.take_succ_cons, take_snoc (l := l) (i := i) (by simpa using h)]; rfl
theorem seg_room (all : List Nat) (b k i : Nat) : baseC all k + (segC b (k + 1) 0 (all.take i)).length ≤ baseC all (k + 1) := by
  have h1 := List.take_append_drop i all
  have h2 : (segC b (k + 1) 0 (all.take i)).length ≤ (segC b (k + 1) 0 all).length := by
    conv => rhs; rw [← h1, segC_append]
    simp
  rw [segC_len b (k + 1) 0 all] at h2
  rw [baseC]
  simpa using h2
theorem seg_next {all : List Nat} {b i : Nat} (hi : i < all.length) (k : Nat) : segC b (k + 1) 0 (all.take (i + 1)) = segC b (k + 1) 0 (all.take i) ++ (if all[i] = k + 1 then List.replicate (2 ^ k) (i, b - k) else []) := by
  rw [take_snoc hi, segC_snoc, List.length_take, Nat.min_eq_left (by omega)]
  simp
theorem Fl.skip {all : List Nat} {b : Nat} {T : List Nat} {i : Nat} (h : Fl all b T i) (hi : i < all.length) (h0 : all[i] = 0) : Fl all b T (i + 1) := by
  intro k hk j hj
  have := seg_next (b := b) hi k
  rw [if_neg (by omega), List.append_nil] at this
  rw [this] at hj ⊢
  exact h k hk j hj
theorem Fl.step {all : List Nat} {b : Nat} {T : List Nat} {i k : Nat} (h : Fl all b T i) (hi : i < all.length) (hw : all[i] = k + 1) (hk : k < b) (hT : baseC all b ≤ T.length) :
    Fl all b (wrN T (baseC all k + (segC b (k + 1) 0 (all.take i)).length) (pk (i, b - k)) (2 ^ k)) (i + 1) := by
  have hroom := seg_room all b k (i + 1)
  have hsk := seg_next (b := b) hi k
  rw [if_pos hw] at hsk
  have hlen := congrArg List.length hsk
  rw [List.length_append, List.length_replicate] at hlen
  have hmk := baseC_mono all (show k + 1 ≤ b by omega)
  intro k2 hk2 j hj
  have hs2 := seg_next (b := b) hi k2
  rw [wrN_get]
  by_cases he : k2 = k
  · subst he
    rw [hsk] at hj ⊢
    rw [List.length_append, List.length_replicate] at hj
    by_cases hjl : j < (segC b (k2 + 1) 0 (all.take i)).length
    · rw [if_neg (by omega), List.getElem?_append_left hjl]
      exact h k2 hk2 j hjl
    · rw [if_pos (by omega), List.getElem?_append_right (by omega), List.getElem?_replicate, if_pos (by omega)]
      rfl
  · rw [if_neg (show ¬ all[i] = k2 + 1 by omega), List.append_nil] at hs2
    rw [hs2] at hj ⊢
    have hr2 := seg_room all b k2 i
    rw [if_neg ?_]
    · exact h k2 hk2 j hj
    · rcases Nat.lt_or_gt_of_ne he with g | g
      · have := baseC_mono all (show k2 + 1 ≤ k by omega)
        omega
      · have := baseC_mono all (show k + 1 ≤ k2 by omega)
        omega
theorem Fl.done {all : List Nat} {b : Nat} {T : List Nat} (h : Fl all b T all.length) (hT : baseC all b ≤ T.length) : T.take (baseC all b) = (tabC all b b).map pk := by
  have key : ∀ k, k ≤ b → T.take (baseC all k) = (tabC all b k).map pk := by
    intro k
    induction k with
    | zero => intro _; simp [baseC, tabC]
    | succ k ih =>
      intro hk
      have hm := baseC_mono all hk
      rw [tabC, List.map_append, ← ih (by omega)]
      have hh := h k (by omega)
      rw [List.take_length] at hh
      have hb : baseC all (k + 1) = baseC all k + (segC b (k + 1) 0 all).length := by rw [segC_len, baseC]; rfl
      apply List.ext_getElem?
      intro p
      rw [hb] at hm ⊢
      by_cases hp : p < baseC all k
      · rw [List.getElem?_take, if_pos (by omega), List.getElem?_append_left (by rw [List.length_take]; omega), List.getElem?_take, if_pos hp]
      · rw [List.getElem?_append_right (by rw [List.length_take]; omega), List.length_take, Nat.min_eq_left (by omega), List.getElem?_take, List.getElem?_map]
        by_cases hq : p < baseC all k + (segC b (k + 1) 0 all).length
        · rw [if_pos hq]
          have := hh (p - baseC all k) (by omega)
          rw [← this]
          congr 1; omega
        · rw [if_neg hq, List.getElem?_eq_none (by omega)]; rfl
  exact key b (Nat.le_refl _)
/-- the first 13 values of a function -/
def rg (f : Nat → Nat) : List Nat := (List.range 13).map f
theorem rg_len (f : Nat → Nat) : (rg f).length = 13 := by simp [rg]
theorem rg_get (f : Nat → Nat) {k : Nat} (h : k < 13) : (rg f)[k]? = some (f k) := by simp [rg, List.getElem?_range h]
theorem rg_set (f : Nat → Nat) (k v : Nat) : (rg f).set k v = rg fun x => if x = k then v else f x := by
  apply List.ext_getElem?
  intro p
  rw [List.getElem?_set, rg_len]
  by_cases hp : p < 13
  · rw [rg_get _ hp]
    by_cases h : k = p
    · subst h; rw [if_pos rfl, if_pos hp, rg_get _ hp, if_pos rfl]
    · rw [if_neg h, rg_get _ hp, if_neg (by omega)]
  · rw [List.getElem?_eq_none (l := rg fun x => if x = k then v else f x) (by rw [rg_len]; omega)]
    by_cases h : k = p
    · subst h; rw [if_pos rfl, if_neg hp]
    · rw [if_neg h, List.getElem?_eq_none (by rw [rg_len]; omega)]
end Go.Proofs.YtgdhdkjbilifiaaDoor
