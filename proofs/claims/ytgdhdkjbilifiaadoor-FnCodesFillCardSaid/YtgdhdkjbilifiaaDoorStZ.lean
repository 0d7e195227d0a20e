/- Counts with zeros behind them; counts in an array. Plain; no program. -/
import Derived.Test.YtgdhdkjbilifiaaDoorStP
namespace Go.Proofs.YtgdhdkjbilifiaaDoor
open Go Go.Sx
set_option maxRecDepth 100000
theorem negs_zeros (k : Nat) : ∀ zs : List Int, negs (zs ++ List.replicate k 0) = negs zs
  | [] => by
    rw [List.nil_append]
    induction k with
    | zero => rfl
    | succ k ih => rw [List.replicate_succ]; simp only [negs]; rw [if_neg (by omega), ih]; rfl
  | z :: r => by
    have := negs_zeros k r
    simp only [List.cons_append, negs, this]
theorem sp1_zeros (k : Nat) : ∀ (zs : List Int) (s : Nat) (syms : List Nat) (high : Nat), sp1 s syms high (zs ++ List.replicate k 0) = sp1 s syms high zs
  | [], s, syms, high => by
    rw [List.nil_append]
    induction k generalizing s with
    | zero => rfl
    | succ k ih => rw [List.replicate_succ]; simp only [sp1]; rw [if_neg (by omega), ih]; rfl
  | z :: r, s, syms, high => by
    simp only [List.cons_append, sp1]
    split <;> exact sp1_zeros k r _ _ _
theorem sp2_zeros (k M step high : Nat) : ∀ (zs : List Int) (s : Nat) (st : List Nat × Nat), sp2 M step high s st (zs ++ List.replicate k 0) = sp2 M step high s st zs
  | [], s, st => by
    rw [List.nil_append]
    induction k generalizing s with
    | zero => rfl
    | succ k ih =>
      rw [List.replicate_succ]
      simp only [sp2]
      rw [show (0 : Int).toNat = 0 from rfl, putN, ih]
      rfl
  | z :: r, s, st => by
    simp only [List.cons_append, sp2]
    exact sp2_zeros k M step high r _ _
theorem sum_zeros (zs : List Int) (k : Nat) : ((zs ++ List.replicate k 0).map rN).sum = (zs.map rN).sum := by
  rw [List.map_append, List.sum_append]
  have : ((List.replicate k (0 : Int)).map rN).sum = 0 := by
    induction k with
    | zero => rfl
    | succ k ih => rw [List.replicate_succ, List.map_cons, List.sum_cons, ih]; rfl
  rw [this]; omega
theorem Counts.zeros {zs : List Int} {b : Nat} (h : Counts zs b) {k : Nat} (hk : zs.length + k ≤ 256) : Counts (zs ++ List.replicate k 0) b := by
  refine ⟨h.b5, h.b9, by simp; omega, fun z hz => ?_, by rw [negs_zeros]; exact h.neg⟩
  rcases List.mem_append.1 hz with hz | hz
  · exact h.lim z hz
  · rw [List.eq_of_mem_replicate hz]
    have := Nat.two_pow_pos b
    omega
theorem bd_more {b k : Nat} : ∀ {syms next : List Nat}, (∀ s ∈ syms, s < next.length) → bd b (next ++ List.replicate k 0) syms = bd b next syms
  | [], _, _ => rfl
  | s :: r, next, h => by
    have h1 := h s List.mem_cons_self
    have e : (next ++ List.replicate k 0).getD s 0 = next.getD s 0 := by
      rw [List.getD_eq_getElem?_getD, List.getD_eq_getElem?_getD, List.getElem?_append_left h1]
    rw [bd_cons, bd_cons, e, List.set_append_left _ _ h1, bd_more (fun t ht => by rw [List.length_set]; exact h t (List.mem_cons_of_mem _ ht))]
/-- zeros behind the counts change nothing -/
theorem build_zeros {zs : List Int} {b : Nat} (hc : Counts zs b) (hs : (zs.map rN).sum = 2 ^ b) (k : Nat) : buildN (zs ++ List.replicate k 0) b = buildN zs b := by
  have e : spreadN (zs ++ List.replicate k 0) b = spreadN zs b := by
    unfold spreadN
    rw [sp1_zeros, sp2_zeros]
  unfold buildN
  rw [e, List.map_append, List.map_replicate, show rN 0 = 0 from rfl]
  exact bd_more (nums_of hc hs).lt
/-- counts at the beginning of an array -/
def normC (cs : List Int) : List Int := cs ++ List.replicate (256 - cs.length) 0
theorem normC_len {cs : List Int} (h : cs.length ≤ 256) : (normC cs).length = 256 := by simp [normC]; omega
theorem normC_set {cs : List Int} (h : cs.length < 256) (x : Int) : (normC cs).set cs.length x = normC (cs ++ [x]) := by
  unfold normC
  rw [List.set_append_right _ _ (Nat.le_refl _), Nat.sub_self, List.length_append, List.length_singleton]
  have e : 256 - cs.length = (256 - (cs.length + 1)) + 1 := by omega
  rw [e, List.replicate_succ, List.set_cons_zero, List.append_assoc]
  rfl
theorem normC_take {cs : List Int} {m : Nat} (h1 : cs.length ≤ m) (h2 : m ≤ 256) : (normC cs).take m = cs ++ List.replicate (m - cs.length) 0 := by
  unfold normC
  rw [List.take_append, List.take_of_length_le h1, List.take_replicate]
  congr 2
  omega
theorem rep_snoc (cs : List Int) (k : Nat) : cs ++ List.replicate k 0 ++ [0] = cs ++ List.replicate (k + 1) 0 := by
  rw [List.append_assoc, List.replicate_succ']
/-- what the reader tells: counts, the number of bits, the place behind; none where it refuses -/
def rfS (N L off most bits : Nat) : Option (List Int × Nat × Nat) :=
  if 8 * L < 8 * off + 16 then none
  else if bits < bitsN N (8 * off) 4 + 5 then none
  else match rdS N L most (2 * most + 5) false (8 * off + 4) (2 ^ (bitsN N (8 * off) 4 + 5)) [] with
    | none => none
    | some (cs, p) => some (cs, bitsN N (8 * off) 4 + 5, p)
/-- counts that were read fill a table -/
theorem rfS_facts {N L off most bits : Nat} {cs : List Int} {n p : Nat} (h : rfS N L off most bits = some (cs, n, p)) (hm : most ≤ 255) (hb : bits ≤ 9) :
    Counts cs n ∧ (cs.map rN).sum = 2 ^ n ∧ cs.length ≤ most + 1 ∧ n ≤ bits ∧ 8 * off < p ∧ p ≤ 8 * L := by
  unfold rfS at h
  split at h
  · cases h
  rename_i h1
  split at h
  · cases h
  rename_i h2
  obtain ⟨b, hb'⟩ : ∃ b, bitsN N (8 * off) 4 + 5 = b := ⟨_, rfl⟩
  rw [hb'] at h h2
  split at h
  · cases h
  rename_i cs' p' hr
  injection h with h
  injection h with e1 h
  injection h with e2 e3
  subst e1 e2 e3
  have hM : 2 ^ b ≤ 2 ^ 9 := Nat.pow_le_pow_right (by omega) (by omega)
  obtain ⟨a1, a2, a3, a4, a5⟩ := rdS_facts hr (fun h => by have := Nat.two_pow_pos b; omega) (by omega) (fun x hx => by cases hx)
  have hs : (cs'.map rN).sum = 2 ^ b := by simpa using a3
  have hz : ∀ z ∈ cs', rN z ≤ 2 ^ b := by
    rw [← hs]
    intro z hz
    have : ∀ (l : List Int), z ∈ l → rN z ≤ (l.map rN).sum := by
      intro l
      induction l with
      | nil => intro h; cases h
      | cons y r ih =>
        intro h
        simp only [List.map_cons, List.sum_cons]
        rcases List.mem_cons.1 h with rfl | h
        · omega
        · have := ih h; omega
    exact this cs' hz
  refine ⟨⟨by omega, by omega, by omega, fun z hz' => ?_, ?_⟩, hs, a2, by omega, by omega, by omega⟩
  · have h1 := a1 z hz'
    have h2 := hz z hz'
    unfold rN at h2
    split at h2 <;> omega
  · have := negs_le cs'
    omega
end Go.Proofs.YtgdhdkjbilifiaaDoor
