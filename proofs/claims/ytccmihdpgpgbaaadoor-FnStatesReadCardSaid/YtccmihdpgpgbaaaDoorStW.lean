/- Counts that are written are read back. Plain; no program. -/
import Derived.Test.YtccmihdpgpgbaaaDoorStR
namespace Go.Proofs.YtccmihdpgpgbaaaDoor
open Go Go.Sx
set_option maxRecDepth 100000
/-- these numbers, each of so many bits, stand from a place on -/
def Has (N : Nat) : Nat → List (Nat × Nat) → Prop
  | _, [] => True
  | p, (m, v) :: r => bitsN N p m = v ∧ Has N (p + m) r
def lenB : List (Nat × Nat) → Nat
  | [] => 0
  | (m, _) :: r => m + lenB r
def enc : List (Nat × Nat) → Nat
  | [] => 0
  | (m, v) :: r => v + 2 ^ m * enc r
theorem lenB_append : ∀ (a b : List (Nat × Nat)), lenB (a ++ b) = lenB a + lenB b
  | [], b => by simp [lenB]
  | (m, v) :: a, b => by
    have := lenB_append a b
    simp only [List.cons_append, lenB, this]
    omega
theorem enc_append : ∀ (a b : List (Nat × Nat)), enc (a ++ b) = enc a + 2 ^ lenB a * enc b
  | [], b => by simp [enc, lenB]
  | (m, v) :: a, b => by
    have := enc_append a b
    simp only [List.cons_append, enc, lenB, this, Nat.pow_add, Nat.mul_add, Nat.mul_assoc]
    omega
theorem Has.split {N : Nat} : ∀ {a b : List (Nat × Nat)} {p : Nat}, Has N p (a ++ b) → Has N p a ∧ Has N (p + lenB a) b
  | [], b, p, h => ⟨trivial, by simpa [lenB] using h⟩
  | (m, v) :: a, b, p, h => by
    obtain ⟨h1, h2⟩ := h
    obtain ⟨h3, h4⟩ := Has.split (a := a) h2
    exact ⟨⟨h1, h3⟩, by rw [lenB, ← Nat.add_assoc]; exact h4⟩
theorem Has.cons {N p : Nat} {x : Nat × Nat} {r : List (Nat × Nat)} (h : Has N p (x :: r)) : bitsN N p x.1 = x.2 ∧ Has N (p + x.1) r := by
  obtain ⟨m, v⟩ := x
  exact h
theorem lenB_cons (x : Nat × Nat) (r : List (Nat × Nat)) : lenB (x :: r) = x.1 + lenB r := rfl
def Small (ps : List (Nat × Nat)) : Prop := ∀ x ∈ ps, x.2 < 2 ^ x.1
theorem enc_lt : ∀ {ps : List (Nat × Nat)}, Small ps → enc ps < 2 ^ lenB ps
  | [], _ => by simp [enc, lenB]
  | (m, v) :: r, h => by
    have h1 := h (m, v) List.mem_cons_self
    have h2 := enc_lt (ps := r) fun x hx => h x (List.mem_cons_of_mem _ hx)
    simp only at h1
    simp only [enc, lenB, Nat.pow_add]
    have h3 : 2 ^ m * (enc r + 1) ≤ 2 ^ m * 2 ^ lenB r := Nat.mul_le_mul_left _ h2
    rw [Nat.mul_add] at h3
    omega
theorem has_enc {N : Nat} : ∀ {ps : List (Nat × Nat)} {p : Nat}, Small ps → bitsN N p (lenB ps) = enc ps → Has N p ps
  | [], _, _, _ => trivial
  | (m, v) :: r, p, h, he => by
    have h1 := h (m, v) List.mem_cons_self
    simp only at h1
    rw [lenB, enc, bitsN_split] at he
    have hb := bitsN_lt N p m
    have e1 : bitsN N p m = v := by
      have := congrArg (· % 2 ^ m) he
      simp only [Nat.add_mul_mod_self_right, Nat.add_mul_mod_self_left] at this
      rw [Nat.mod_eq_of_lt hb, Nat.mod_eq_of_lt h1] at this
      exact this
    refine ⟨e1, has_enc (fun x hx => h x (List.mem_cons_of_mem _ hx)) ?_⟩
    rw [e1, Nat.mul_comm] at he
    exact Nat.eq_of_mul_eq_mul_left (Nat.two_pow_pos m) (Nat.add_left_cancel he)
/-- a count, written -/
def piece (left : Nat) (z : Int) : Nat × Nat :=
  if (z + 1).toNat < 2 ^ wd (left + 1) - 2 - left then (wd (left + 1) - 1, (z + 1).toNat)
  else if (z + 1).toNat < 2 ^ (wd (left + 1) - 1) then (wd (left + 1), (z + 1).toNat) else (wd (left + 1), (z + 1).toNat + (2 ^ wd (left + 1) - 2 - left))
theorem piece_facts {left : Nat} {z : Int} (h1 : -1 ≤ z) (h2 : z ≤ (left : Int)) : (piece left z).2 < 2 ^ (piece left z).1 ∧
    ∀ N p, bitsN N p (piece left z).1 = (piece left z).2 → cntV N p left = ((z + 1).toNat, (piece left z).1) ∧ intV (cntV N p left).1 = z := by
  obtain ⟨w1, w2, w3, w4⟩ := wd_around left
  obtain ⟨v, hv⟩ : ∃ v, (z + 1).toNat = v := ⟨_, rfl⟩
  have hvl : v ≤ left + 1 := by omega
  have hiv : intV v = z := by unfold intV; omega
  have fin : ∀ {N p m : Nat}, cntV N p left = (v, m) → cntV N p left = (v, m) ∧ intV (cntV N p left).1 = z := fun h => ⟨h, by rw [h]; exact hiv⟩
  have hcv : ∀ N p, cntV N p left = (if bitsN N p (wd (left + 1) - 1) < 2 ^ wd (left + 1) - 2 - left then (bitsN N p (wd (left + 1) - 1), wd (left + 1) - 1)
      else (if 2 ^ (wd (left + 1) - 1) ≤ bitsN N p (wd (left + 1)) then bitsN N p (wd (left + 1)) - (2 ^ wd (left + 1) - 2 - left) else bitsN N p (wd (left + 1)), wd (left + 1))) := fun N p => rfl
  have hlow : ∀ N p, bitsN N p (wd (left + 1) - 1) = bitsN N p (wd (left + 1)) % 2 ^ (wd (left + 1) - 1) := fun N p => (bitsN_low N p (by omega)).symm
  unfold piece
  rw [hv]
  generalize wd (left + 1) = n at *
  by_cases g1 : v < 2 ^ n - 2 - left
  · rw [if_pos g1]
    refine ⟨by simp only; omega, fun N p hb => fin ?_⟩
    simp only at hb
    rw [hcv, hb, if_pos g1]
  · rw [if_neg g1]
    by_cases g2 : v < 2 ^ (n - 1)
    · rw [if_pos g2]
      refine ⟨by simp only; omega, fun N p hb => fin ?_⟩
      simp only at hb
      rw [hcv, hlow, hb, Nat.mod_eq_of_lt g2, if_neg g1, if_neg (by omega)]
    · rw [if_neg g2]
      refine ⟨by simp only; omega, fun N p hb => fin ?_⟩
      simp only at hb
      have hm : (v + (2 ^ n - 2 - left)) % 2 ^ (n - 1) = v + (2 ^ n - 2 - left) - 2 ^ (n - 1) := by
        rw [Nat.mod_eq_sub_mod (by omega), Nat.mod_eq_of_lt (by omega)]
      rw [hcv, hlow, hb, hm, if_neg (by omega), if_pos (by omega)]
      congr 1
      omega
/-- how many zeros follow, in flags -/
def flagP (k : Nat) : List (Nat × Nat) := List.replicate (k / 3) (2, 3) ++ [(2, k % 3)]
theorem flagP_small (k : Nat) : Small (flagP k) := by
  intro x hx
  rcases List.mem_append.1 hx with hx | hx
  · rw [List.eq_of_mem_replicate hx]; decide
  · rcases List.mem_singleton.1 hx with rfl
    have := Nat.mod_lt k (show 0 < 3 by omega)
    show k % 3 < 4
    omega
theorem flags_rep {N L m : Nat} (hm : m < 3) : ∀ {q p f acc : Nat}, Has N p (List.replicate q (2, 3) ++ [(2, m)]) → p + 2 * q + 34 ≤ 8 * L → 8 * L ≤ f + p → flags N L f p acc = some (acc + 3 * q + m, p + 2 * q + 2)
  | 0, p, f, acc, h, hp, hf => by
    obtain ⟨f', rfl⟩ : ∃ f', f = f' + 1 := ⟨f - 1, by omega⟩
    have h1 : bitsN N p 2 = m := h.1
    rw [flags, if_neg (by omega), h1]
    simp
  | q + 1, p, f, acc, h, hp, hf => by
    obtain ⟨f', rfl⟩ : ∃ f', f = f' + 1 := ⟨f - 1, by omega⟩
    obtain ⟨h1, h2⟩ := h
    rw [flags, if_pos h1, if_pos (by omega), flags_rep hm (q := q) (f := f') h2 (by omega) (by omega)]
    congr 2 <;> omega
theorem lenB_flagP (k : Nat) : lenB (flagP k) = 2 * (k / 3) + 2 := by
  have : ∀ q, lenB (List.replicate q (2, 3)) = 2 * q := by
    intro q
    induction q with
    | zero => rfl
    | succ q ih => rw [List.replicate_succ, lenB, ih]; omega
  rw [flagP, lenB_append, this]
  rfl
theorem flags_flagP {N L k p f acc : Nat} (h : Has N p (flagP k)) (hp : p + lenB (flagP k) + 32 ≤ 8 * L) (hf : 8 * L ≤ f + p) : flags N L f p acc = some (acc + k, p + lenB (flagP k)) := by
  rw [lenB_flagP] at hp ⊢
  rw [flags_rep (Nat.mod_lt k (by omega)) h (by omega) hf]
  congr 2 <;> omega
/-- what is written of counts; `some k`: behind a count 0, of which k more were seen -/
def wrS : Option Nat → Nat → List Int → List (Nat × Nat)
  | none, _, [] => []
  | some k, _, [] => flagP k
  | none, left, z :: r => if left = 0 then [] else piece left z :: (if z = 0 then wrS (some 0) left r else wrS none (left - rN z) r)
  | some k, left, z :: r => if z = 0 then wrS (some (k + 1)) left r else flagP k ++ (if left = 0 then [] else piece left z :: (if z = 0 then wrS (some 0) left r else wrS none (left - rN z) r))
theorem wrS_some (left : Nat) : ∀ (zs : List Int) (k : Nat), ∃ q r, zs = List.replicate q 0 ++ r ∧ wrS (some k) left zs = flagP (k + q) ++ wrS none left r
  | [], k => ⟨0, [], rfl, by simp [wrS]⟩
  | z :: r, k => by
    by_cases hz : z = 0
    · subst hz
      obtain ⟨q, r', h1, h2⟩ := wrS_some left r (k + 1)
      refine ⟨q + 1, r', by rw [h1]; rfl, ?_⟩
      rw [wrS, if_pos rfl, h2]
      congr 2
      omega
    · exact ⟨0, z :: r, rfl, by rw [wrS, wrS, if_neg hz, Nat.add_zero, if_neg hz]⟩
def sumR (zs : List Int) : Nat := (zs.map rN).sum
theorem sumR_zeros (q : Nat) (r : List Int) : sumR (List.replicate q 0 ++ r) = sumR r := by
  unfold sumR
  rw [List.map_append, List.sum_append]
  have : ∀ q, ((List.replicate q (0 : Int)).map rN).sum = 0 := by
    intro q
    induction q with
    | zero => rfl
    | succ q ih => rw [List.replicate_succ, List.map_cons, List.sum_cons, ih]; rfl
  rw [this]; omega
/-- the last one is not 0 -/
def NZ (zs : List Int) : Prop := ∀ z, zs.getLast? = some z → z ≠ 0
theorem NZ.tail {a r : List Int} (h : NZ (a ++ r)) : NZ r := by
  intro z hz
  refine h z ?_
  rw [List.getLast?_append, hz]
  rfl
theorem NZ.pos : ∀ {zs : List Int}, NZ zs → (∀ z ∈ zs, -1 ≤ z) → zs ≠ [] → 0 < sumR zs
  | [], _, _, h => absurd rfl h
  | [z], h, hz, _ => by
    have h1 := h z rfl
    have h2 := hz z List.mem_cons_self
    unfold sumR rN
    simp only [List.map_cons, List.map_nil, List.sum_cons, List.sum_nil]
    split <;> omega
  | z :: y :: r, h, hz, _ => by
    have := NZ.pos (zs := y :: r) (NZ.tail (a := [z]) h) (fun x hx => hz x (List.mem_cons_of_mem _ hx)) (by simp)
    unfold sumR at *
    simp only [List.map_cons, List.sum_cons] at *
    omega
theorem rd_written {N L most : Nat} : ∀ (n : Nat) {zs cs : List Int} {p left f : Nat}, zs.length ≤ n → sumR zs = left → (∀ z ∈ zs, -1 ≤ z) → NZ zs → Has N p (wrS none left zs) → p + lenB (wrS none left zs) + 32 ≤ 8 * L →
    cs.length + zs.length ≤ most + 1 → 2 * zs.length + 1 ≤ f → rdS N L most f false p left cs = some (cs ++ zs, p + lenB (wrS none left zs)) := by
  intro n
  induction n with
  | zero =>
    intro zs cs p left f hn hs _ _ _ _ _ hf
    have : zs = [] := List.eq_nil_of_length_eq_zero (by omega)
    subst this
    obtain ⟨f', rfl⟩ : ∃ f', f = f' + 1 := ⟨f - 1, by omega⟩
    have h0 : left = 0 := hs.symm
    rw [rdS, if_pos h0]
    simp [wrS, lenB]
  | succ n ih =>
    intro zs cs p left f hn hs hz hnz hh hp hcs hf
    obtain ⟨f', rfl⟩ : ∃ f', f = f' + 1 := ⟨f - 1, by omega⟩
    cases zs with
    | nil =>
      have h0 : left = 0 := hs.symm
      rw [rdS, if_pos h0]
      simp [wrS, lenB]
    | cons z r =>
      have hpos := NZ.pos hnz hz (by simp)
      have hz1 := hz z List.mem_cons_self
      have hs' : rN z + sumR r = left := hs
      have hzl : z ≤ (left : Int) := by
        unfold rN at hs'
        split at hs' <;> omega
      have h0 : left ≠ 0 := by omega
      rw [wrS, if_neg h0] at hh hp ⊢
      obtain ⟨hh1, hh2⟩ := hh.cons
      obtain ⟨_, hpc⟩ := piece_facts hz1 hzl
      obtain ⟨c1, c2⟩ := hpc N p hh1
      rw [lenB_cons] at hp ⊢
      simp only [List.length_cons] at hn hcs hf
      rw [rdS, if_neg h0, if_neg (by omega), if_neg (by omega), if_neg (by simp), c2, c1]
      dsimp only
      by_cases hz0 : z = 0
      · subst hz0
        rw [if_pos rfl] at hh2 hp ⊢
        have hr0 : rN 0 = 0 := rfl
        rw [hr0] at hs' ⊢
        obtain ⟨q, r', e1, e2⟩ := wrS_some left r 0
        rw [e2, Nat.zero_add] at hh2 hp ⊢
        rw [lenB_append] at hp ⊢
        subst e1
        simp only [List.length_append, List.length_replicate] at hn hcs hf
        obtain ⟨g1, g2⟩ := hh2.split
        have hfl := flags_flagP (L := L) (f := 8 * L) (acc := 0) g1 (by omega) (by omega)
        rw [Nat.zero_add] at hfl
        obtain ⟨f2, rfl⟩ : ∃ f2, f' = f2 + 1 := ⟨f' - 1, by omega⟩
        have heq : ((0 : Int) == 0) = true := rfl
        rw [Nat.sub_zero, heq, rdS, if_neg h0]
        have hl : (cs ++ [0]).length = cs.length + 1 := by simp
        have hr' : r' ≠ [] := by
          rintro rfl
          have := sumR_zeros q []
          simp only [sumR, List.map_nil, List.sum_nil] at this hs'
          omega
        have hr'' : 0 < r'.length := List.length_pos_iff.2 hr'
        rw [hl, if_neg (by omega), if_neg (by omega), if_pos rfl, hfl]
        simp only
        rw [if_neg (by omega)]
        have := ih (zs := r') (cs := cs ++ [0] ++ List.replicate q 0) (f := f2) (by omega) (by rw [sumR_zeros] at hs'; omega) (fun x hx => hz x (List.mem_cons_of_mem _ (List.mem_append_right _ hx)))
          (NZ.tail (a := [0] ++ List.replicate q 0) (by simpa using hnz)) g2 (by omega) (by simp; omega) (by omega)
        rw [this]
        congr 2
        · simp
        · omega
      · rw [if_neg hz0] at hh2 hp ⊢
        have hb : (z == 0) = false := by simpa using hz0
        rw [hb]
        have := ih (zs := r) (cs := cs ++ [z]) (f := f') (p := p + (piece left z).1) (left := left - rN z) (by omega) (by omega) (fun x hx => hz x (List.mem_cons_of_mem _ hx)) (NZ.tail (a := [z]) hnz) hh2 (by omega) (by simp; omega) (by omega)
        rw [this]
        congr 2
        · simp
        · omega
theorem wrS_small : ∀ {zs : List Int} {o : Option Nat} {left : Nat}, (∀ z ∈ zs, -1 ≤ z) → sumR zs ≤ left → Small (wrS o left zs)
  | [], none, _, _, _ => fun x hx => by cases hx
  | [], some k, _, _, _ => flagP_small k
  | z :: r, o, left, hz, hs => by
    have hz1 := hz z List.mem_cons_self
    have hs' : rN z + sumR r ≤ left := hs
    have hzl : z ≤ (left : Int) := by
      unfold rN at hs'
      split at hs' <;> omega
    have hp := (piece_facts hz1 hzl).1
    have hr : ∀ x ∈ r, -1 ≤ x := fun x hx => hz x (List.mem_cons_of_mem _ hx)
    have base : Small (if left = 0 then [] else piece left z :: (if z = 0 then wrS (some 0) left r else wrS none (left - rN z) r)) := by
      split
      · intro x hx; cases hx
      · intro x hx
        rcases List.mem_cons.1 hx with rfl | hx
        · exact hp
        · split at hx
          · exact wrS_small (o := some 0) hr (by omega) x hx
          · exact wrS_small (o := none) hr (by omega) x hx
    cases o with
    | none => exact base
    | some k =>
      rw [wrS]
      split
      · exact wrS_small hr (by omega)
      · rename_i hz0
        intro x hx
        rcases List.mem_append.1 hx with hx | hx
        · exact flagP_small k x hx
        · rw [if_neg hz0] at base
          exact base x hx
/-- with a smaller greatest symbol nothing else is read -/
theorem rdS_mono {N L m1 m2 : Nat} (h : m1 ≤ m2) : ∀ {f : Nat} {z : Bool} {p left : Nat} {cs : List Int} {R : List Int × Nat}, rdS N L m1 f z p left cs = some R → rdS N L m2 f z p left cs = some R
  | 0, _, _, _, _, _, hr => by cases hr
  | f + 1, z, p, left, cs, R, hr => by
    rw [rdS] at hr ⊢
    by_cases h0 : left = 0
    · rw [if_pos h0] at hr ⊢; exact hr
    rw [if_neg h0] at hr ⊢
    by_cases h1 : m1 < cs.length
    · rw [if_pos h1] at hr; cases hr
    rw [if_neg h1] at hr
    rw [if_neg (by omega)]
    by_cases h2 : 8 * L < p + 16
    · rw [if_pos h2] at hr; cases hr
    rw [if_neg h2] at hr ⊢
    by_cases h3 : z = true
    · rw [if_pos h3] at hr ⊢
      cases hk : flags N L (8 * L) p 0 with
      | none => rw [hk] at hr; cases hr
      | some kp =>
        rw [hk] at hr
        simp only at hr ⊢
        by_cases h4 : m1 < cs.length + kp.1
        · rw [if_pos h4] at hr; cases hr
        rw [if_neg h4] at hr
        rw [if_neg (by omega)]
        exact rdS_mono h hr
    · rw [if_neg h3] at hr ⊢
      exact rdS_mono h hr
theorem rdS_fuel {N L most : Nat} : ∀ {f f2 : Nat} {z : Bool} {p left : Nat} {cs : List Int} {R : List Int × Nat}, rdS N L most f z p left cs = some R → f ≤ f2 → rdS N L most f2 z p left cs = some R
  | 0, _, _, _, _, _, _, hr, _ => by cases hr
  | f + 1, f2, z, p, left, cs, R, hr, hf => by
    obtain ⟨f3, rfl⟩ : ∃ f3, f2 = f3 + 1 := ⟨f2 - 1, by omega⟩
    rw [rdS] at hr ⊢
    by_cases h0 : left = 0
    · rw [if_pos h0] at hr ⊢; exact hr
    rw [if_neg h0] at hr ⊢
    by_cases h1 : most < cs.length
    · rw [if_pos h1] at hr; cases hr
    rw [if_neg h1] at hr ⊢
    by_cases h2 : 8 * L < p + 16
    · rw [if_pos h2] at hr; cases hr
    rw [if_neg h2] at hr ⊢
    by_cases h3 : z = true
    · rw [if_pos h3] at hr ⊢
      cases hk : flags N L (8 * L) p 0 with
      | none => rw [hk] at hr; cases hr
      | some kp =>
        rw [hk] at hr
        simp only at hr ⊢
        by_cases h4 : most < cs.length + kp.1
        · rw [if_pos h4] at hr; cases hr
        rw [if_neg h4] at hr ⊢
        exact rdS_fuel hr (by omega)
    · rw [if_neg h3] at hr ⊢
      exact rdS_fuel hr (by omega)
end Go.Proofs.YtccmihdpgpgbaaaDoor
