/- How the states of a table are laid out: the model of the reference. Plain; no program. -/
import Derived.Test.YtgdhdkjbilifiaaDoorSize
namespace Go.Sx
open Go
/-- on to the next place that is free -/
def skip (M step high : Nat) : Nat → Nat → Nat
  | 0, a => a
  | f + 1, a => if high ≤ a ∧ 0 < a then skip M step high f ((a + step) % M) else a
/-- so many steps lead to place 0 -/
def Back (M step a k : Nat) : Prop := a < M ∧ (a + k * step) % M = 0
theorem Back.next {M step a k : Nat} (h : Back M step a (k + 1)) : Back M step ((a + step) % M) k := by
  refine ⟨Nat.mod_lt _ (by have := h.1; omega), ?_⟩
  rw [Nat.mod_add_mod, ← h.2, Nat.succ_mul]
  congr 1
  omega
theorem Back.pos {M step a : Nat} (h : Back M step a 0) : a = 0 := by
  have := h.2
  rw [Nat.zero_mul, Nat.add_zero, Nat.mod_eq_of_lt h.1] at this
  exact this
theorem skip_zero (M step high : Nat) : ∀ f, skip M step high f 0 = 0
  | 0 => rfl
  | f + 1 => by rw [skip, if_neg (by omega)]
theorem skip_same {M step high : Nat} : ∀ {k a f : Nat}, Back M step a k → k ≤ f → skip M step high f a = skip M step high k a
  | 0, a, f, h, _ => by rw [h.pos, skip_zero, skip_zero]
  | k + 1, a, 0, _, h => by omega
  | k + 1, a, f + 1, h, hf => by
    rw [skip, skip]
    split
    · exact skip_same h.next (by omega)
    · rfl
theorem skip_lt {M step high : Nat} (hM : 0 < M) : ∀ {f a : Nat}, a < M → skip M step high f a < M
  | 0, a, h => h
  | f + 1, a, h => by
    rw [skip]
    split
    · exact skip_lt hM (Nat.mod_lt _ hM)
    · exact h
/-- a place is reached by some number of steps from 0 -/
def Reach (M step a : Nat) : Prop := ∃ j, a = j * step % M
theorem Reach.zero (M step : Nat) : Reach M step 0 := ⟨0, by simp⟩
theorem Reach.next {M step a : Nat} (h : Reach M step a) : Reach M step ((a + step) % M) := by
  obtain ⟨j, rfl⟩ := h
  exact ⟨j + 1, by rw [Nat.mod_add_mod, Nat.succ_mul]⟩
theorem Reach.skip {M step high : Nat} : ∀ {f a : Nat}, Reach M step a → Reach M step (skip M step high f a)
  | 0, a, h => h
  | f + 1, a, h => by
    rw [Sx.skip]
    split
    · exact Reach.skip h.next
    · exact h
theorem Reach.back {M step a : Nat} (hM : 0 < M) (h : Reach M step a) : ∃ k, k ≤ M ∧ Back M step a k := by
  obtain ⟨j, rfl⟩ := h
  refine ⟨M - j % M, Nat.sub_le _ _, Nat.mod_lt _ hM, ?_⟩
  rw [Nat.mod_add_mod, ← Nat.add_mul]
  have hj := Nat.mod_lt j hM
  have e : j + (M - j % M) = M * (j / M + 1) := by
    have := Nat.div_add_mod j M
    rw [Nat.mul_add, Nat.mul_one]
    omega
  rw [e, Nat.mul_assoc]
  exact Nat.mul_mod_right _ _
/-- symbols with -1 from the end on -/
def sp1 (s : Nat) (syms : List Nat) (high : Nat) : List Int → List Nat × Nat
  | [] => (syms, high)
  | n :: r => if n = -1 then sp1 (s + 1) (syms.set (high - 1) s) (high - 1) r else sp1 (s + 1) syms high r
def negs : List Int → Nat
  | [] => 0
  | n :: r => if n = -1 then negs r + 1 else negs r
def put1 (M step high s : Nat) (st : List Nat × Nat) : List Nat × Nat := (st.1.set st.2 s, skip M step high M ((st.2 + step) % M))
def putN (M step high s : Nat) : Nat → List Nat × Nat → List Nat × Nat
  | 0, st => st
  | k + 1, st => putN M step high s k (put1 M step high s st)
def sp2 (M step high : Nat) (s : Nat) (st : List Nat × Nat) : List Int → List Nat × Nat
  | [] => st
  | n :: r => sp2 M step high (s + 1) (putN M step high s n.toNat st) r
def stepOf (M : Nat) : Nat := M / 2 + M / 8 + 3
def spreadN (counts : List Int) (bits : Nat) : List Nat :=
  (sp2 (2 ^ bits) (stepOf (2 ^ bits)) (sp1 0 (List.replicate (2 ^ bits) 0) (2 ^ bits) counts).2 0 ((sp1 0 (List.replicate (2 ^ bits) 0) (2 ^ bits) counts).1, 0) counts).1
theorem sp1_facts {N : Nat} : ∀ {counts : List Int} {s : Nat} {syms : List Nat} {high : Nat}, negs counts ≤ high → high ≤ syms.length → s + counts.length ≤ N → (∀ x ∈ syms, x < N) →
    (sp1 s syms high counts).1.length = syms.length ∧ (sp1 s syms high counts).2 + negs counts = high ∧ ∀ x ∈ (sp1 s syms high counts).1, x < N
  | [], s, syms, high, _, _, _, h => ⟨rfl, by simp [sp1, negs], h⟩
  | n :: r, s, syms, high, h1, h2, h3, h4 => by
    simp only [negs, List.length_cons] at h1 h3
    simp only [sp1, negs]
    split
    · rename_i hn
      rw [if_pos hn] at h1
      have := sp1_facts (N := N) (counts := r) (s := s + 1) (syms := syms.set (high - 1) s) (high := high - 1) (by omega) (by rw [List.length_set]; omega) (by omega) (fun x hx => by
        rcases List.mem_or_eq_of_mem_set hx with hx | hx
        · exact h4 x hx
        · omega)
      rw [List.length_set] at this
      exact ⟨this.1, by omega, this.2.2⟩
    · rename_i hn
      rw [if_neg hn] at h1
      have := sp1_facts (N := N) (counts := r) (s := s + 1) (syms := syms) (high := high) h1 h2 (by omega) h4
      exact ⟨this.1, by omega, this.2.2⟩
/-- what stays true of the states that are laid -/
structure Laying (M step N : Nat) (st : List Nat × Nat) : Prop where
  len : st.1.length = M
  lt : st.2 < M
  re : Reach M step st.2
  sy : ∀ x ∈ st.1, x < N
theorem Laying.put1 {M step high N s : Nat} {st : List Nat × Nat} (h : Laying M step N st) (hs : s < N) : Laying M step N (put1 M step high s st) := by
  have hM : 0 < M := by have := h.lt; omega
  refine ⟨by simp [Sx.put1, h.len], skip_lt hM (Nat.mod_lt _ hM), Reach.skip h.re.next, fun x hx => ?_⟩
  rcases List.mem_or_eq_of_mem_set hx with hx | hx
  · exact h.sy x hx
  · omega
theorem Laying.putN {M step high N s : Nat} (hs : s < N) : ∀ {k : Nat} {st : List Nat × Nat}, Laying M step N st → Laying M step N (putN M step high s k st)
  | 0, _, h => h
  | k + 1, st, h => by
    show Laying M step N (Sx.putN M step high s k (Sx.put1 M step high s st))
    exact Laying.putN hs (h.put1 hs)
end Go.Sx
