/- Tables of prefix codes whose entries stand at all their places; streams that are read with them. Plain; no program. -/
import Derived.Test.YtgdhdkjbilifiaaDoorCdB
import Derived.Test.YtgdhdkjbilifiaaDoorBitS
namespace Go.Proofs.YtgdhdkjbilifiaaDoor
open Go Go.Sx
set_option maxRecDepth 100000
/-- each entry stands at all places that begin with its code -/
def Al (b : Nat) (T : List Cd) : Prop := ∀ i x, T[i]? = some x → ∀ j, j / 2 ^ (b - x.2) = i / 2 ^ (b - x.2) → T[j]? = some x
theorem segC_blk (b w : Nat) : ∀ (l : List Nat) (i p q : Nat), p / 2 ^ (w - 1) = q / 2 ^ (w - 1) → (segC b w i l)[p]? = (segC b w i l)[q]?
  | [], i, p, q, _ => by simp [segC]
  | x :: l, i, p, q, h => by
    rw [segC]
    have hp := Nat.two_pow_pos (w - 1)
    by_cases hx : x = w
    · rw [if_pos hx]
      by_cases h1 : p < 2 ^ (w - 1)
      · have h2 : q < 2 ^ (w - 1) := by
          rw [Nat.div_eq_of_lt h1] at h
          exact (Nat.div_eq_zero_iff_lt hp).1 h.symm
        rw [List.getElem?_append_left (by simpa using h1), List.getElem?_append_left (by simpa using h2), List.getElem?_replicate, List.getElem?_replicate, if_pos h1, if_pos h2]
      · have h2 : ¬ q < 2 ^ (w - 1) := fun h2 => h1 (by rw [Nat.div_eq_of_lt h2] at h; exact (Nat.div_eq_zero_iff_lt hp).1 h)
        rw [List.getElem?_append_right (by simp; omega), List.getElem?_append_right (by simp; omega), List.length_replicate]
        apply segC_blk
        obtain ⟨p', rfl⟩ : ∃ p', p = 2 ^ (w - 1) + p' := ⟨p - 2 ^ (w - 1), by omega⟩
        obtain ⟨q', rfl⟩ : ∃ q', q = 2 ^ (w - 1) + q' := ⟨q - 2 ^ (w - 1), by omega⟩
        rw [Nat.add_div_left _ hp, Nat.add_div_left _ hp] at h
        rw [Nat.add_sub_cancel_left, Nat.add_sub_cancel_left]
        omega
    · rw [if_neg hx, List.nil_append]
      exact segC_blk b w l (i + 1) p q h
theorem base_dvd {ws all : List Nat} {b : Nat} (hW : Whl ws all b) : ∀ (d k : Nat), k + d = b → 2 ^ k ∣ baseC all k
  | 0, k, h => by
    have : k = b := by omega
    subst this
    rw [hW.base]
    exact Nat.dvd_refl _
  | d + 1, k, h => by
    have ih := base_dvd hW d (k + 1) (by omega)
    rw [baseC] at ih
    have h1 : 2 ^ k ∣ baseC all k + all.count (k + 1) * 2 ^ k := Nat.dvd_trans (Nat.pow_dvd_pow 2 (Nat.le_succ k)) ih
    exact (Nat.dvd_add_iff_left (Nat.dvd_mul_left _ _)).2 h1
theorem tabC_al {all : List Nat} {b : Nat} (hd : ∀ k, k ≤ b → 2 ^ k ∣ baseC all k) : ∀ m, m ≤ b → ∀ i x, (tabC all b m)[i]? = some x → ∀ j, j / 2 ^ (b - x.2) = i / 2 ^ (b - x.2) → (tabC all b m)[j]? = some x
  | 0, _, i, x, h, j, _ => by simp [tabC] at h
  | m + 1, hm, i, x, h, j, hj => by
    rw [tabC] at h ⊢
    by_cases hi : i < (tabC all b m).length
    · rw [List.getElem?_append_left hi] at h
      have ih := tabC_al hd m (by omega) i x h j hj
      have hjl := (List.getElem?_eq_some_iff.1 ih).1
      rw [List.getElem?_append_left hjl]
      exact ih
    · rw [List.getElem?_append_right (by omega)] at h
      have hx := (segC_mem (List.mem_of_getElem? h)).2.2
      have hbx : b - x.2 = m := by omega
      rw [hbx] at hj
      have hp := Nat.two_pow_pos m
      obtain ⟨t, ht⟩ := hd m (by omega)
      have hl := tabC_len all b m
      rw [ht] at hl
      have hti : t ≤ i / 2 ^ m := by
        rw [Nat.le_div_iff_mul_le hp, Nat.mul_comm]
        omega
      have hjt : 2 ^ m * t ≤ j := by
        rw [← hj, Nat.le_div_iff_mul_le hp, Nat.mul_comm] at hti
        exact hti
      rw [List.getElem?_append_right (by omega), hl]
      rw [hl] at h
      rw [← h]
      apply segC_blk
      rw [Nat.add_sub_cancel, Nat.sub_mul_div, Nat.sub_mul_div, hj]
theorem Whl.al_ {ws all : List Nat} {b : Nat} (h : Whl ws all b) : Al b (tabC all b b) :=
  tabC_al (fun k hk => base_dvd h (b - k) k (by omega)) b (Nat.le_refl b)
theorem Whl.len_ {ws all : List Nat} {b : Nat} (h : Whl ws all b) : (tabC all b b).length = 2 ^ b := by rw [tabC_len, h.base]
theorem Whl.mem_ {ws all : List Nat} {b : Nat} (_ : Whl ws all b) : ∀ x ∈ tabC all b b, x.1 < all.length ∧ 1 ≤ x.2 ∧ x.2 ≤ b := fun x hx => by
  obtain ⟨h1, h2, h3⟩ := tabC_mem hx
  exact ⟨h1, by omega, h3⟩
/-- a table of codes, whole -/
structure Tb (b : Nat) (T : List Cd) : Prop where
  b0 : 1 ≤ b
  b1 : b ≤ 11
  len : T.length = 2 ^ b
  mem : ∀ x ∈ T, x.1 < 256 ∧ 1 ≤ x.2 ∧ x.2 ≤ b
  al : Al b T
theorem Whl.tb {ws all : List Nat} {b : Nat} (h : Whl ws all b) (hl : all.length ≤ 256) : Tb b (tabC all b b) :=
  ⟨h.b0, h.b1, h.len_, fun x hx => by have := h.mem_ x hx; exact ⟨by omega, this.2⟩, h.al_⟩
def ent (T : List Cd) (i : Nat) : Cd := T.getD i (0, 0)
theorem ent_at {T : List Cd} {i : Nat} (h : i < T.length) : T[i]? = some (ent T i) := by simp [ent, h]
theorem ent_of {T : List Cd} {i : Nat} {x : Cd} (h : T[i]? = some x) : ent T i = x := by simp [ent, h]
theorem Tb.ent {b : Nat} {T : List Cd} (h : Tb b T) {i : Nat} (hi : i < 2 ^ b) : (ent T i).1 < 256 ∧ 1 ≤ (ent T i).2 ∧ (ent T i).2 ≤ b :=
  h.mem _ (List.mem_of_getElem? (ent_at (by rw [h.len]; exact hi)))
/-- so many literals are told by a stream that goes down to a place -/
def litS (N st b : Nat) (T : List Cd) : Nat → Nat → List UInt8 → Option (List UInt8 × Nat)
  | 0, p, acc => some (acc, p)
  | m + 1, p, acc =>
    if min b (p - 8 * st) < (ent T (bitsN N (p - min b (p - 8 * st)) (min b (p - 8 * st)) * 2 ^ (b - min b (p - 8 * st)))).2 then none
    else litS N st b T m (p - (ent T (bitsN N (p - min b (p - 8 * st)) (min b (p - 8 * st)) * 2 ^ (b - min b (p - 8 * st)))).2)
      (acc ++ [UInt8.ofNat (ent T (bitsN N (p - min b (p - 8 * st)) (min b (p - 8 * st)) * 2 ^ (b - min b (p - 8 * st)))).1])
/-- the same, by as many bits as the table has, each time -/
def litI (N st b : Nat) (T : List Cd) : Nat → Nat → List UInt8 → Option (List UInt8)
  | 0, _, acc => some acc
  | m + 1, p, acc => if p < 8 * st + b then none else litI N st b T m (p - (ent T (bitsN N (p - b) b)).2) (acc ++ [UInt8.ofNat (ent T (bitsN N (p - b) b)).1])
/-- what stands at a place is what its first bits tell -/
theorem Tb.low {b : Nat} {T : List Cd} (h : Tb b T) {N p n : Nat} (hn : n ≤ b) (hp : b ≤ p) {i : Nat} (hi : i < 2 ^ b) (he : i / 2 ^ (b - n) = bitsN N (p - n) n) (hx : (Go.Proofs.YtgdhdkjbilifiaaDoor.ent T i).2 ≤ n) : Go.Proofs.YtgdhdkjbilifiaaDoor.ent T (bitsN N (p - b) b) = Go.Proofs.YtgdhdkjbilifiaaDoor.ent T i := by
  have h1 := bitsN_shr N (p - b) (b := b - n) (c := b) (by omega)
  rw [show p - b + (b - n) = p - n by omega, show b - (b - n) = n by omega, ← he] at h1
  have h2 := ent_at (T := T) (i := i) (by rw [h.len]; exact hi)
  refine ent_of (h.al i _ h2 _ ?_)
  have e : b - (Go.Proofs.YtgdhdkjbilifiaaDoor.ent T i).2 = (b - n) + (n - (Go.Proofs.YtgdhdkjbilifiaaDoor.ent T i).2) := by omega
  rw [e, Nat.pow_add, ← Nat.div_div_eq_div_mul, ← Nat.div_div_eq_div_mul, h1]
theorem litS_litI {b : Nat} {T : List Cd} (h : Tb b T) {N st : Nat} (hs : 2 ≤ st) : ∀ (m p : Nat) (acc l : List UInt8) (q : Nat), 8 * st ≤ p → litS N st b T m p acc = some (l, q) → litI N (st - 2) b T m p acc = some l
  | 0, p, acc, l, q, _, hr => by
    simp only [litS, Option.some.injEq, Prod.mk.injEq] at hr
    rw [litI, hr.1]
  | m + 1, p, acc, l, q, hp, hr => by
    have hb := h.b1
    rw [litS] at hr
    rw [litI, if_neg (by omega)]
    obtain ⟨n, hn⟩ : ∃ n, min b (p - 8 * st) = n := ⟨_, rfl⟩
    rw [hn] at hr
    have hnb : n ≤ b := by omega
    have hlt := bitsN_lt N (p - n) n
    have hpw : 2 ^ b = 2 ^ n * 2 ^ (b - n) := by rw [← Nat.pow_add]; congr 1; omega
    have hi : bitsN N (p - n) n * 2 ^ (b - n) < 2 ^ b := by
      rw [hpw]
      exact Nat.mul_lt_mul_of_pos_right hlt (Nat.two_pow_pos _)
    split at hr
    · cases hr
    · rename_i g
      have := h.low (N := N) (p := p) hnb (by omega) hi (Nat.mul_div_cancel _ (Nat.two_pow_pos _)) (by omega)
      rw [this]
      exact litS_litI h hs m _ _ l q (by omega) hr
theorem litS_len {N st b : Nat} {T : List Cd} : ∀ (m p : Nat) (acc l : List UInt8) (q : Nat), litS N st b T m p acc = some (l, q) → l.length = acc.length + m
  | 0, p, acc, l, q, hr => by
    simp only [litS, Option.some.injEq, Prod.mk.injEq] at hr
    rw [← hr.1]; rfl
  | m + 1, p, acc, l, q, hr => by
    rw [litS] at hr
    split at hr
    · cases hr
    · have := litS_len m _ _ l q hr
      rw [this, List.length_append, List.length_singleton]; omega
end Go.Proofs.YtgdhdkjbilifiaaDoor
