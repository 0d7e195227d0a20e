/- The states of a symbol cover all states, each of them once. Plain; no program. -/
import Derived.Test.YtgdhdkjbilifiaaDoorStP
namespace Go.Proofs.YtgdhdkjbilifiaaDoor
open Go Go.Sx
set_option maxRecDepth 100000
theorem wd_div : ∀ (r X : Nat), wd (X / 2 ^ r) = wd X - r
  | 0, X => by simp
  | r + 1, X => by
    rw [Nat.pow_succ, Nat.mul_comm, ← Nat.div_div_eq_div_mul, wd_div r (X / 2)]
    rcases Nat.eq_zero_or_pos X with h | h
    · subst h; simp [wd]
    · rw [wd_half h]; omega
theorem wd_bounds {n : Nat} (h : 0 < n) : 2 ^ (wd n - 1) ≤ n ∧ n < 2 ^ wd n := by
  unfold wd
  rw [if_neg (by omega)]
  refine ⟨?_, Nat.lt_log2_self⟩
  rw [Nat.add_sub_cancel]
  exact Nat.log2_self_le (by omega)
theorem wd_eq {n b : Nat} (h1 : 2 ^ b ≤ n) (h2 : n < 2 ^ (b + 1)) : wd n = b + 1 := by
  have hp := Nat.two_pow_pos b
  have hle := wd_lt h2
  have hb := wd_bounds (show 0 < n by omega)
  apply Decidable.byContradiction
  intro hne
  have : 2 ^ wd n ≤ 2 ^ b := Nat.pow_le_pow_right (by omega) (by omega)
  omega
/-- the numbers of states: where they begin, and how many there are -/
theorem num_bounds {b n : Nat} (h1 : 1 ≤ n) (h2 : n < 2 ^ (b + 1)) : 2 ^ b ≤ n * 2 ^ readOf b n ∧ (n + 1) * 2 ^ readOf b n ≤ 2 ^ (b + 1) ∧ wd n ≤ b + 1 ∧ 1 ≤ wd n := by
  have hw := wd_lt h2
  have hp := wd_pos h1
  obtain ⟨g1, g2⟩ := wd_bounds h1
  unfold readOf
  refine ⟨?_, ?_, hw, hp⟩
  · have e : b = (wd n - 1) + (b + 1 - wd n) := by omega
    conv => lhs; rw [e, Nat.pow_add]
    exact Nat.mul_le_mul_right _ g1
  · have e : b + 1 = wd n + (b + 1 - wd n) := by omega
    conv => rhs; rw [e, Nat.pow_add]
    exact Nat.mul_le_mul_right _ g2
def stOf (b s n : Nat) : St := (s, readOf b n, ((n * 2 ^ readOf b n : Nat) : Int) - ((2 ^ b : Nat) : Int))
theorem bd_cons (b : Nat) (next : List Nat) (s : Nat) (r : List Nat) : bd b next (s :: r) = stOf b s (next.getD s 0) :: bd b (next.set s (next.getD s 0 + 1)) r := rfl
/-- numbers that are left for the symbols of a list -/
structure Nums (b : Nat) (next syms : List Nat) : Prop where
  lt : ∀ s ∈ syms, s < next.length
  pos : ∀ s ∈ syms, 1 ≤ next.getD s 0
  le : ∀ s, s < next.length → next.getD s 0 + syms.count s ≤ 2 ^ (b + 1)
theorem getD_set {l : List Nat} {s v t : Nat} (hs : s < l.length) : (l.set s v).getD t 0 = if s = t then v else l.getD t 0 := by
  simp only [List.getD_eq_getElem?_getD, List.getElem?_set]
  by_cases h : s = t
  · subst h
    simp [hs]
  · simp [h]
theorem Nums.head {b s : Nat} {next r : List Nat} (h : Nums b next (s :: r)) : s < next.length ∧ 1 ≤ next.getD s 0 ∧ next.getD s 0 < 2 ^ (b + 1) := by
  have h1 := h.lt s List.mem_cons_self
  have h2 := h.le s h1
  rw [List.count_cons_self] at h2
  exact ⟨h1, h.pos s List.mem_cons_self, by omega⟩
theorem Nums.tail {b s : Nat} {next r : List Nat} (h : Nums b next (s :: r)) : Nums b (next.set s (next.getD s 0 + 1)) r := by
  have h1 := h.lt s List.mem_cons_self
  refine ⟨fun t ht => by rw [List.length_set]; exact h.lt t (List.mem_cons_of_mem _ ht), fun t ht => ?_, fun t ht => ?_⟩
  · rw [getD_set h1]
    split
    · omega
    · exact h.pos t (List.mem_cons_of_mem _ ht)
  · rw [List.length_set] at ht
    rw [getD_set h1]
    have := h.le t ht
    split
    · rename_i e
      subst e
      rw [List.count_cons_self] at this
      omega
    · rename_i e
      rw [List.count_cons_of_ne e] at this
      exact this
theorem nums_of {zs : List Int} {b : Nat} (hc : Counts zs b) (hs : (zs.map rN).sum = 2 ^ b) : Nums b (zs.map rN) (spreadN zs b) := by
  have hget : ∀ s, s < zs.length → (zs.map rN).getD s 0 = rN (zs.getD s 0) := fun s h => by
    rw [List.getD_eq_getElem?_getD, List.getD_eq_getElem?_getD, List.getElem?_map, List.getElem?_eq_getElem h]
    rfl
  refine ⟨fun s h => by rw [List.length_map]; exact (spread_pos hc hs h).2, fun s h => ?_, fun s h => ?_⟩
  · obtain ⟨h1, h2⟩ := spread_pos hc hs h
    rw [hget s h2]
    exact h1
  · rw [List.length_map] at h
    rw [hget s h, spread_count hc hs]
    have := hc.lim _ (List.getElem_mem h)
    have hz : zs.getD s 0 = zs[s] := by rw [List.getD_eq_getElem?_getD, List.getElem?_eq_getElem h]; rfl
    rw [hz, Nat.pow_succ]
    have hp := Nat.two_pow_pos b
    unfold rN
    split <;> omega
theorem bd_mem {b : Nat} : ∀ {syms next : List Nat} {x : St}, Nums b next syms → x ∈ bd b next syms → ∃ n, 1 ≤ n ∧ n < 2 ^ (b + 1) ∧ x = stOf b x.1 n ∧ x.1 ∈ syms
  | [], _, _, _, h => by cases h
  | s :: r, next, x, hn, h => by
    rw [bd_cons] at h
    rcases List.mem_cons.1 h with rfl | h
    · exact ⟨next.getD s 0, hn.head.2.1, hn.head.2.2, rfl, List.mem_cons_self⟩
    · obtain ⟨n, h1, h2, h3, h4⟩ := bd_mem hn.tail h
      exact ⟨n, h1, h2, h3, List.mem_cons_of_mem _ h4⟩
/-- state y is reached by a state x of symbol s -/
def hitB (s y : Nat) (x : St) : Bool := x.1 == s && decide (x.2.2 ≤ (y : Int)) && decide ((y : Int) < x.2.2 + ((2 ^ x.2.1 : Nat) : Int))
def numB (b y n : Nat) : Bool := decide (n * 2 ^ readOf b n ≤ y + 2 ^ b) && decide (y + 2 ^ b < (n + 1) * 2 ^ readOf b n)
theorem hit_stOf (b s y n t : Nat) : hitB s y (stOf b t n) = (t == s && numB b y n) := by
  unfold hitB stOf numB
  dsimp only
  rw [Bool.and_assoc]
  congr 1
  have e : (n + 1) * 2 ^ readOf b n = n * 2 ^ readOf b n + 2 ^ readOf b n := Nat.succ_mul _ _
  rw [e]
  congr 1 <;> (apply decide_eq_decide.2; omega)
theorem hits_bd {b s y : Nat} : ∀ {syms next : List Nat}, (∀ t ∈ syms, t < next.length) → (bd b next syms).countP (hitB s y) = (List.range' (next.getD s 0) (syms.count s)).countP (numB b y)
  | [], _, _ => rfl
  | t :: r, next, h => by
    have h1 := h t List.mem_cons_self
    rw [bd_cons, List.countP_cons, hits_bd (fun u hu => by rw [List.length_set]; exact h u (List.mem_cons_of_mem _ hu)), hit_stOf, getD_set h1]
    by_cases e : t = s
    · subst e
      rw [if_pos rfl, List.count_cons_self, List.range'_succ, List.countP_cons]
      simp
    · have eb : (t == s) = false := by simpa using e
      rw [if_neg e, List.count_cons_of_ne e, eb]
      simp
theorem one_prefix {c : Nat} (hc : 1 ≤ c) : ∀ {X : Nat}, c ≤ X → ∃ r, c ≤ X / 2 ^ r ∧ X / 2 ^ r < 2 * c := by
  intro X
  induction X using Nat.strongRecOn with
  | _ X ih =>
    intro hX
    rcases Nat.lt_or_ge X (2 * c) with h | h
    · exact ⟨0, by simpa using hX, by simpa using h⟩
    · obtain ⟨r, h1, h2⟩ := ih (X / 2) (by omega) (by omega)
      refine ⟨r + 1, ?_, ?_⟩ <;> rw [Nat.pow_succ, Nat.mul_comm, ← Nat.div_div_eq_div_mul] <;> assumption
theorem numB_iff {b y n : Nat} : numB b y n = true ↔ (y + 2 ^ b) / 2 ^ readOf b n = n := by
  have hp := Nat.two_pow_pos (readOf b n)
  unfold numB
  simp only [Bool.and_eq_true, decide_eq_true_eq]
  constructor
  · rintro ⟨h1, h2⟩
    have g1 := (Nat.le_div_iff_mul_le hp).2 h1
    have g2 := (Nat.div_lt_iff_lt_mul hp).2 h2
    omega
  · intro h
    have h1 : n ≤ (y + 2 ^ b) / 2 ^ readOf b n := by omega
    have h2 : (y + 2 ^ b) / 2 ^ readOf b n < n + 1 := by omega
    exact ⟨(Nat.le_div_iff_mul_le hp).1 h1, (Nat.div_lt_iff_lt_mul hp).1 h2⟩
theorem hits_one {b y c : Nat} (hy : y < 2 ^ b) (hc : 1 ≤ c) (hcM : c ≤ 2 ^ b) : (List.range' c c).countP (numB b y) = 1 := by
  have hX1 : 2 ^ b ≤ y + 2 ^ b := by omega
  have hX2 : y + 2 ^ b < 2 ^ (b + 1) := by rw [Nat.pow_succ]; omega
  have hwX := wd_eq hX1 hX2
  obtain ⟨X, hX⟩ : ∃ X, y + 2 ^ b = X := ⟨_, rfl⟩
  have hiff : ∀ n, numB b y n = true ↔ X / 2 ^ readOf b n = n := fun n => by rw [numB_iff, hX]
  rw [hX] at hX1 hX2 hwX
  obtain ⟨r, h1, h2⟩ := one_prefix hc (show c ≤ X by omega)
  obtain ⟨n0, hn0⟩ : ∃ n0, X / 2 ^ r = n0 := ⟨_, rfl⟩
  rw [hn0] at h1 h2
  have hr : r < b + 1 := by
    apply Decidable.byContradiction
    intro hn
    have : 2 ^ (b + 1) ≤ 2 ^ r := Nat.pow_le_pow_right (by omega) (by omega)
    rw [Nat.div_eq_of_lt (by omega)] at hn0
    omega
  have hread0 : readOf b n0 = r := by
    unfold readOf
    rw [← hn0, wd_div, hwX]
    omega
  have key : ∀ n ∈ List.range' c c, (numB b y n = true ↔ (n == n0) = true) := by
    intro n hn
    have hn := List.mem_range'_1.1 hn
    rw [hiff, beq_iff_eq]
    constructor
    · intro he
      have hrn : readOf b n = b + 1 - wd n := rfl
      rcases Nat.lt_trichotomy (readOf b n) r with h | h | h
      · have e : r = readOf b n + 1 + (r - readOf b n - 1) := by omega
        have h3 : X / 2 ^ r ≤ n / 2 := by
          rw [e, Nat.pow_add, Nat.pow_succ, ← Nat.div_div_eq_div_mul, ← Nat.div_div_eq_div_mul, he]
          exact Nat.div_le_self _ _
        omega
      · rw [h, hn0] at he; exact he.symm
      · have e : readOf b n = r + 1 + (readOf b n - r - 1) := by omega
        have h3 : X / 2 ^ readOf b n ≤ n0 / 2 := by
          rw [e, Nat.pow_add, Nat.pow_succ, ← Nat.div_div_eq_div_mul, ← Nat.div_div_eq_div_mul, hn0]
          exact Nat.div_le_self _ _
        omega
    · intro he
      subst he
      rw [hread0, hn0]
  rw [List.countP_congr key, ← List.count_eq_countP, List.Nodup.count List.nodup_range', if_pos (List.mem_range'_1.2 (by omega))]
/-- each state is reached by just one state of a symbol that there is -/
theorem build_hits {zs : List Int} {b s y : Nat} (hc : Counts zs b) (hs : (zs.map rN).sum = 2 ^ b) (hsl : s < zs.length) (hz : zs.getD s 0 ≠ 0) (hy : y < 2 ^ b) : (buildN zs b).countP (hitB s y) = 1 := by
  have hget : (zs.map rN).getD s 0 = rN (zs.getD s 0) := by
    rw [List.getD_eq_getElem?_getD, List.getD_eq_getElem?_getD, List.getElem?_map, List.getElem?_eq_getElem hsl]
    rfl
  have hzs : zs.getD s 0 = zs[s] := by rw [List.getD_eq_getElem?_getD, List.getElem?_eq_getElem hsl]; rfl
  have hl := hc.lim _ (List.getElem_mem hsl)
  have hM := hc.M
  unfold buildN
  rw [hits_bd (nums_of hc hs).lt, hget, spread_count hc hs]
  refine hits_one hy ?_ ?_ <;> unfold rN <;> split <;> omega
theorem build_len {zs : List Int} {b : Nat} (hc : Counts zs b) (hs : (zs.map rN).sum = 2 ^ b) : (buildN zs b).length = 2 ^ b := by
  have : ∀ (syms next : List Nat), (bd b next syms).length = syms.length := by
    intro syms
    induction syms with
    | nil => intro _; rfl
    | cons s r ih => intro next; rw [bd_cons, List.length_cons, List.length_cons, ih]
  unfold buildN
  rw [this, spread_len hc hs]
theorem build_syms {b : Nat} : ∀ (syms next : List Nat), (bd b next syms).map (·.1) = syms
  | [], _ => rfl
  | s :: r, next => by
    rw [bd_cons, List.map_cons, build_syms r]
    rfl
theorem build_count {zs : List Int} {b : Nat} (hc : Counts zs b) (hs : (zs.map rN).sum = 2 ^ b) (s : Nat) : ((buildN zs b).map (·.1)).count s = rN (zs.getD s 0) := by
  unfold buildN
  rw [build_syms, spread_count hc hs]
/-- the states of a table are those of bytes, and of two bytes; what they reach are states -/
theorem build_mem {zs : List Int} {b : Nat} (hc : Counts zs b) (hs : (zs.map rN).sum = 2 ^ b) {x : St} (h : x ∈ buildN zs b) : x.1 < zs.length ∧ x.2.1 ≤ b ∧ 0 ≤ x.2.2 ∧ x.2.2 + ((2 ^ x.2.1 : Nat) : Int) ≤ ((2 ^ b : Nat) : Int) := by
  obtain ⟨n, h1, h2, h3, h4⟩ := bd_mem (nums_of hc hs) h
  obtain ⟨g1, g2, g3, g4⟩ := num_bounds h1 h2
  have hlt := (spread_pos hc hs h4).2
  rw [h3]
  unfold stOf
  dsimp only
  rw [Nat.succ_mul, Nat.pow_succ] at g2
  refine ⟨hlt, by unfold readOf; omega, by omega, by omega⟩
end Go.Proofs.YtgdhdkjbilifiaaDoor
