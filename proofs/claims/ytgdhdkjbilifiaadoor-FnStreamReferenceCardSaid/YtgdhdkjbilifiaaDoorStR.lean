/- Counts that are read: a model of the reader, and of the reference. Plain; no program. -/
import Derived.Test.YtgdhdkjbilifiaaDoorStQ
import Derived.Test.YtgdhdkjbilifiaaDoorBitM
namespace Go.Proofs.YtgdhdkjbilifiaaDoor
open Go Go.Sx
set_option maxRecDepth 100000
/-- the value of a count, and how many bits it takes -/
def cntV (N p left : Nat) : Nat × Nat :=
  if bitsN N p (wd (left + 1) - 1) < 2 ^ wd (left + 1) - 2 - left then (bitsN N p (wd (left + 1) - 1), wd (left + 1) - 1)
  else (if 2 ^ (wd (left + 1) - 1) ≤ bitsN N p (wd (left + 1)) then bitsN N p (wd (left + 1)) - (2 ^ wd (left + 1) - 2 - left) else bitsN N p (wd (left + 1)), wd (left + 1))
theorem wd_around (left : Nat) : 1 ≤ wd (left + 1) ∧ 2 ^ (wd (left + 1) - 1) ≤ left + 1 ∧ left + 1 < 2 ^ wd (left + 1) ∧ 2 ^ wd (left + 1) = 2 * 2 ^ (wd (left + 1) - 1) := by
  obtain ⟨h1, h2⟩ := wd_bounds (show 0 < left + 1 by omega)
  have h3 := wd_pos (show 0 < left + 1 by omega)
  refine ⟨h3, h1, h2, ?_⟩
  conv => lhs; rw [show wd (left + 1) = (wd (left + 1) - 1) + 1 by omega, Nat.pow_succ]
  omega
theorem cntV_le (N p left : Nat) : (cntV N p left).1 ≤ left + 1 ∧ wd (left + 1) - 1 ≤ (cntV N p left).2 ∧ (cntV N p left).2 ≤ wd (left + 1) := by
  obtain ⟨h1, h2, h3, h4⟩ := wd_around left
  have b1 := bitsN_lt N p (wd (left + 1) - 1)
  have b2 := bitsN_lt N p (wd (left + 1))
  unfold cntV
  split
  · dsimp only; omega
  · dsimp only
    split <;> omega
def intV (v : Nat) : Int := (v : Int) - 1
theorem rN_intV {v left : Nat} (h : v ≤ left + 1) (h0 : 0 < left) : rN (intV v) ≤ left ∧ -1 ≤ intV v ∧ intV v ≤ (left : Int) ∧ (intV v ≠ 0 → 0 < rN (intV v)) ∧ (intV v = 0 → rN (intV v) = 0) := by
  unfold rN intV
  split <;> omega
/-- flags of zeros: how many symbols more, and the place behind; none at the end of the data -/
def flags (N L : Nat) : Nat → Nat → Nat → Option (Nat × Nat)
  | 0, _, _ => none
  | f + 1, p, acc => if bitsN N p 2 = 3 then (if p + 18 ≤ 8 * L then flags N L f (p + 2) (acc + 3) else none) else some (acc + bitsN N p 2, p + 2)
def flagsS (N L : Nat) : Nat → Nat → Nat → Option (Nat × Nat)
  | 0, _, _ => none
  | f + 1, p, acc => if 8 * L < p + 2 then none else if bitsN N p 2 = 3 then flagsS N L f (p + 2) (acc + 3) else some (acc + bitsN N p 2, p + 2)
theorem flagsS_flags {N L : Nat} : ∀ {f p acc k p' : Nat}, flagsS N L f p acc = some (k, p') → p' + 32 ≤ 8 * L → p < p' ∧ acc ≤ k ∧ ∀ f2, 8 * L ≤ f2 + p → flags N L f2 p acc = some (k, p')
  | 0, _, _, _, _, h, _ => by cases h
  | f + 1, p, acc, k, p', h, hp => by
    rw [flagsS] at h
    split at h
    · cases h
    · split at h
      · rename_i h3
        obtain ⟨h1, h2, h4⟩ := flagsS_flags h hp
        refine ⟨by omega, by omega, fun f2 hf => ?_⟩
        obtain ⟨f3, rfl⟩ : ∃ f3, f2 = f3 + 1 := ⟨f2 - 1, by omega⟩
        rw [flags, if_pos h3, if_pos (by omega)]
        exact h4 f3 (by omega)
      · rename_i h3
        injection h with h
        injection h with e1 e2
        refine ⟨by omega, by omega, fun f2 hf => ?_⟩
        obtain ⟨f3, rfl⟩ : ∃ f3, f2 = f3 + 1 := ⟨f2 - 1, by omega⟩
        rw [flags, if_neg h3, e1, e2]
/-- six flags at once -/
theorem flags_six {N L f p acc : Nat} (h : bitsN N p 12 = 4095) : flags N L (f + 6) p acc = if p + 28 ≤ 8 * L then flags N L f (p + 12) (acc + 18) else none := by
  have two : ∀ q, q ≤ 5 → bitsN N (p + 2 * q) 2 = 3 := by
    intro q hq
    have e1 := bitsN_shr N p (b := 2 * q) (c := 12) (by omega)
    have e2 := bitsN_low N (p + 2 * q) (b := 2) (c := 12 - 2 * q) (by omega)
    rw [← e2, ← e1, h]
    obtain rfl | rfl | rfl | rfl | rfl | rfl : q = 0 ∨ q = 1 ∨ q = 2 ∨ q = 3 ∨ q = 4 ∨ q = 5 := by omega
    all_goals rfl
  have h0 := two 0 (by omega)
  have h1 := two 1 (by omega)
  have h2 := two 2 (by omega)
  have h3 := two 3 (by omega)
  have h4 := two 4 (by omega)
  have h5 := two 5 (by omega)
  simp only [Nat.mul_zero, Nat.add_zero, Nat.mul_one] at h0 h1
  rw [flags, if_pos h0]
  split
  · rw [flags, if_pos h1]
    split
    · rw [flags, if_pos (by rw [Nat.add_assoc]; exact h2)]
      split
      · rw [flags, if_pos (by rw [Nat.add_assoc, Nat.add_assoc]; exact h3)]
        split
        · rw [flags, if_pos (by rw [Nat.add_assoc, Nat.add_assoc, Nat.add_assoc]; exact h4)]
          split
          · rw [flags, if_pos (by rw [Nat.add_assoc, Nat.add_assoc, Nat.add_assoc, Nat.add_assoc]; exact h5)]
          · rw [if_neg (by omega)]
        · rw [if_neg (by omega)]
      · rw [if_neg (by omega)]
    · rw [if_neg (by omega)]
  · rw [if_neg (by omega)]
/-- the reader: `z`: the count ahead was 0 -/
def rdS (N L most : Nat) : Nat → Bool → Nat → Nat → List Int → Option (List Int × Nat)
  | 0, _, _, _, _ => none
  | f + 1, z, p, left, cs =>
    if left = 0 then some (cs, p)
    else if most < cs.length then none
    else if 8 * L < p + 16 then none
    else if z = true then
      match flags N L (8 * L) p 0 with
      | none => none
      | some (k, p') => if most < cs.length + k then none else rdS N L most f false p' left (cs ++ List.replicate k 0)
    else rdS N L most f (intV (cntV N p left).1 == 0) (p + (cntV N p left).2) (left - rN (intV (cntV N p left).1)) (cs ++ [intV (cntV N p left).1])
inductive Told where
  | right (cs : List Int) (p : Nat)
  | wrong
  | unsaid
/-- the reference -/
def spS (N L most : Nat) : Nat → Nat → Nat → List Int → Told
  | 0, _, _, _ => .unsaid
  | f + 1, p, left, cs =>
    if left = 0 then (if 8 * L < p + 32 then .unsaid else if cs.length ≤ most + 1 then .right cs p else .wrong)
    else if most < cs.length then (if 8 * L < p + 32 then .unsaid else .wrong)
    else if 8 * L < p + (cntV N p left).2 then .unsaid
    else if intV (cntV N p left).1 = 0 then
      match flagsS N L (8 * L) (p + (cntV N p left).2) 0 with
      | none => .unsaid
      | some (k, p') => spS N L most f p' left (cs ++ [0] ++ List.replicate k 0)
    else spS N L most f (p + (cntV N p left).2) (left - rN (intV (cntV N p left).1)) (cs ++ [intV (cntV N p left).1])
theorem spS_room {N L most : Nat} : ∀ {f p left : Nat} {cs : List Int}, spS N L most f p left cs ≠ .unsaid → p + 32 ≤ 8 * L
  | 0, _, _, _, h => by simp [spS] at h
  | f + 1, p, left, cs, h => by
    rw [spS] at h
    split at h
    · split at h
      · exact absurd rfl h
      · omega
    · split at h
      · split at h
        · exact absurd rfl h
        · omega
      · split at h
        · exact absurd rfl h
        · split at h
          · split at h
            · exact absurd rfl h
            · rename_i k p' hk
              have h1 := spS_room h
              have h2 := (flagsS_flags hk h1).1
              omega
          · have := spS_room h
            omega
theorem spS_rdS {N L most : Nat} : ∀ {f p left : Nat} {cs : List Int} (f2 : Nat), 2 * (most + 1 - cs.length) + 1 ≤ f2 → (left = 0 → cs.length ≤ most + 1) → cs.length ≤ most + 1 ∨ 0 < left →
    (∀ cs' p', spS N L most f p left cs = .right cs' p' → rdS N L most f2 false p left cs = some (cs', p')) ∧ (spS N L most f p left cs = .wrong → rdS N L most f2 false p left cs = none)
  | 0, _, _, _, _, _, _, _ => by simp [spS]
  | f + 1, p, left, cs, f2, hf2, hlen, _ => by
    obtain ⟨f3, rfl⟩ : ∃ f3, f2 = f3 + 1 := ⟨f2 - 1, by omega⟩
    by_cases hun : spS N L most (f + 1) p left cs = .unsaid
    · rw [hun]
      exact ⟨fun _ _ h => (by cases h), fun h => by cases h⟩
    have hroom := spS_room hun
    rw [spS] at hun ⊢
    rw [rdS]
    by_cases h0 : left = 0
    · rw [if_pos h0, if_neg (by omega), if_pos (hlen h0), if_pos h0]
      exact ⟨fun cs' p' h => by injection h with e1 e2; rw [e1, e2], fun h => by cases h⟩
    rw [if_neg h0] at hun ⊢
    rw [if_neg h0]
    by_cases h1 : most < cs.length
    · rw [if_pos h1, if_neg (by omega), if_pos h1]
      exact ⟨fun _ _ h => (by cases h), fun _ => rfl⟩
    rw [if_neg h1] at hun ⊢
    rw [if_neg h1, if_neg (show ¬ 8 * L < p + 16 by omega), if_neg (show ¬ (false = true) by simp)]
    by_cases h2 : 8 * L < p + (cntV N p left).2
    · rw [if_pos h2] at hun
      exact absurd rfl hun
    rw [if_neg h2] at hun ⊢
    by_cases h3 : intV (cntV N p left).1 = 0
    · rw [if_pos h3] at hun ⊢
      have hr0 : rN (intV (cntV N p left).1) = 0 := by rw [h3]; rfl
      rw [hr0, Nat.sub_zero, h3]
      obtain ⟨f4, rfl⟩ : ∃ f4, f3 = f4 + 1 := ⟨f3 - 1, by omega⟩
      cases hk : flagsS N L (8 * L) (p + (cntV N p left).2) 0 with
      | none => rw [hk] at hun; exact absurd rfl hun
      | some kp =>
        obtain ⟨k, p'⟩ := kp
        rw [hk] at hun
        simp only at hun ⊢
        have g1 := spS_room hun
        obtain ⟨g2, g3, g4⟩ := flagsS_flags hk g1
        have hfl := g4 (8 * L) (by omega)
        have heq : ((0 : Int) == 0) = true := rfl
        rw [heq, rdS, if_neg h0]
        have hl : (cs ++ [0]).length = cs.length + 1 := by simp
        rw [hl]
        by_cases h4 : most < cs.length + 1 + k
        · -- too many symbols: both refuse
          obtain ⟨f', rfl⟩ | rfl : (∃ f', f = f' + 1) ∨ f = 0 := by
            cases f with
            | zero => exact .inr rfl
            | succ f' => exact .inl ⟨f', rfl⟩
          · have hw : spS N L most (f' + 1) p' left (cs ++ [0] ++ List.replicate k 0) = .wrong := by
              rw [spS, if_neg h0, if_pos (by simp; omega), if_neg (by omega)]
            rw [hw]
            refine ⟨fun _ _ h => (by cases h), fun _ => ?_⟩
            by_cases h5 : most < cs.length + 1
            · rw [if_pos h5]
            · rw [if_neg h5, if_neg (by omega), if_pos rfl, hfl]
              simp only
              rw [if_pos h4]
          · exact absurd rfl hun
        · rw [if_neg (by omega), if_neg (by omega), if_pos rfl, hfl]
          simp only
          rw [if_neg h4]
          exact spS_rdS f4 (by simp; omega) (fun h => absurd h h0) (.inr (by omega))
    · rw [if_neg h3] at hun ⊢
      have hb : (intV (cntV N p left).1 == 0) = false := by simpa using h3
      rw [hb]
      exact spS_rdS f3 (by simp; omega) (fun _ => by simp; omega) (.inl (by simp; omega))
/-! ### What comes of reading -/
theorem rdS_facts {N L most : Nat} : ∀ {f : Nat} {z : Bool} {p left : Nat} {cs cs' : List Int} {p' : Nat}, rdS N L most f z p left cs = some (cs', p') → (left = 0 → cs.length ≤ most + 1) → left ≤ 512 →
    (∀ x ∈ cs, -1 ≤ x) → (∀ x ∈ cs', -1 ≤ x) ∧ cs'.length ≤ most + 1 ∧ (cs'.map rN).sum = (cs.map rN).sum + left ∧ p ≤ p' ∧ (p' ≤ p ∨ p' ≤ 8 * L)
  | 0, _, _, _, _, _, _, h, _, _, _ => by cases h
  | f + 1, z, p, left, cs, cs', p', h, hl, h512, hx => by
    rw [rdS] at h
    split at h
    · rename_i h0
      injection h with h
      injection h with e1 e2
      subst e1 e2
      exact ⟨hx, hl h0, by omega, Nat.le_refl _, .inl (Nat.le_refl _)⟩
    rename_i h0
    split at h
    · cases h
    rename_i h1
    split at h
    · cases h
    rename_i h2
    split at h
    · split at h
      · cases h
      rename_i k p1 hk
      split at h
      · cases h
      rename_i h4
      have hfl : ∀ {f p acc k p1 : Nat}, flags N L f p acc = some (k, p1) → p + 16 ≤ 8 * L → p ≤ p1 ∧ p1 ≤ 8 * L := by
        intro f
        induction f with
        | zero => intro p acc k p1 h _; cases h
        | succ f ih =>
          intro p acc k p1 h hp
          rw [flags] at h
          split at h
          · split at h
            · have := ih h (by omega); omega
            · cases h
          · injection h with h; injection h with _ e; omega
      obtain ⟨g1, g2⟩ := hfl hk (by omega)
      obtain ⟨a1, a2, a3, a4, a5⟩ := rdS_facts h (fun e => absurd e h0) h512 (fun x hx' => by
        rcases List.mem_append.1 hx' with hx' | hx'
        · exact hx x hx'
        · rw [List.eq_of_mem_replicate hx']; omega)
      refine ⟨a1, a2, ?_, by omega, by omega⟩
      have hz : ∀ k, ((List.replicate k (0 : Int)).map rN).sum = 0 := by
        intro k
        induction k with
        | zero => rfl
        | succ k ih => simp only [List.replicate_succ, List.map_cons, List.sum_cons, ih]; rfl
      rw [a3, List.map_append, List.sum_append, hz]
      omega
    · obtain ⟨c1, c2, c3⟩ := cntV_le N p left
      obtain ⟨r1, r2, r3, r4, r5⟩ := rN_intV c1 (by omega)
      obtain ⟨a1, a2, a3, a4, a5⟩ := rdS_facts h (fun _ => by simp; omega) (by omega) (fun x hx' => by
        rcases List.mem_append.1 hx' with hx' | hx'
        · exact hx x hx'
        · rcases List.mem_singleton.1 hx' with rfl
          exact r2)
      refine ⟨a1, a2, ?_, by omega, ?_⟩
      · rw [a3, List.map_append, List.sum_append]
        simp only [List.map_cons, List.map_nil, List.sum_cons, List.sum_nil]
        omega
      · have hw : wd (left + 1) ≤ 10 := wd_lt (by omega)
        omega
end Go.Proofs.YtgdhdkjbilifiaaDoor
