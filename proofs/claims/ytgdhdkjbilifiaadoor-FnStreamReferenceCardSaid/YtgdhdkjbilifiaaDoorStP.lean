/- The layout fills the table: each place is written once. Plain; no program. -/
import Derived.Test.YtgdhdkjbilifiaaDoorStC
namespace Go.Proofs.YtgdhdkjbilifiaaDoor
open Go Go.Sx
set_option maxRecDepth 100000
theorem perm_range {l : List Nat} {M : Nat} (hn : l.Nodup) (hl : l.length = M) (hlt : ∀ x ∈ l, x < M) : l.Perm (List.range M) := by
  refine (List.perm_ext_iff_of_nodup hn List.nodup_range).2 fun a => ⟨fun h => List.mem_range.2 (hlt a h), fun h => ?_⟩
  apply Decidable.byContradiction
  intro hna
  have := List.Nodup.length_le_of_subset (l₁ := a :: l) (l₂ := List.range M) (List.nodup_cons.2 ⟨hna, hn⟩) (fun x hx => by
    rcases List.mem_cons.1 hx with rfl | hx
    · exact h
    · exact List.mem_range.2 (hlt x hx))
  simp at this
  omega
/-- symbols written at places, one behind the other -/
def wr : List Nat → List Nat → List Nat → List Nat
  | p :: ps, s :: ss, l => wr ps ss (l.set p s)
  | _, _, l => l
theorem wr_append : ∀ {p1 s1 p2 s2 l : List Nat}, p1.length = s1.length → wr (p1 ++ p2) (s1 ++ s2) l = wr p2 s2 (wr p1 s1 l)
  | [], [], _, _, _, _ => rfl
  | p :: p1, s :: s1, p2, s2, l, h => by
    have := wr_append (p1 := p1) (s1 := s1) (p2 := p2) (s2 := s2) (l := l.set p s) (by simpa using h)
    simpa [wr] using this
theorem wr_len : ∀ {ps ss l : List Nat}, (wr ps ss l).length = l.length
  | [], _, _ => by simp [wr]
  | _ :: _, [], _ => by simp [wr]
  | p :: ps, s :: ss, l => by
    have := wr_len (ps := ps) (ss := ss) (l := l.set p s)
    simpa [wr] using this
theorem wr_other : ∀ {ps ss l : List Nat} {x : Nat}, x ∉ ps → (wr ps ss l)[x]? = l[x]?
  | [], _, _, _, _ => by simp [wr]
  | _ :: _, [], _, _, _ => by simp [wr]
  | p :: ps, s :: ss, l, x, h => by
    simp only [List.mem_cons, not_or] at h
    have := wr_other (ps := ps) (ss := ss) (l := l.set p s) h.2
    rw [wr, this, List.getElem?_set_ne (fun e => h.1 e.symm)]
theorem wr_map : ∀ {ps ss l : List Nat}, ps.Nodup → ps.length = ss.length → (∀ p ∈ ps, p < l.length) → ps.map (fun p => (wr ps ss l).getD p 0) = ss
  | [], [], _, _, _, _ => rfl
  | p :: ps, s :: ss, l, hn, hl, hp => by
    obtain ⟨h1, h2⟩ := List.nodup_cons.1 hn
    have ih := wr_map (ps := ps) (ss := ss) (l := l.set p s) h2 (by simpa using hl) (fun q hq => by simpa using hp q (List.mem_cons_of_mem _ hq))
    have h3 := hp p List.mem_cons_self
    simp only [wr, List.map_cons]
    rw [ih]
    congr 1
    rw [List.getD_eq_getElem?_getD, wr_other h1]
    simp [h3]
theorem wr_perm {ps ss l : List Nat} {M : Nat} (hp : ps.Perm (List.range M)) (hl : ps.length = ss.length) (hM : l.length = M) : (wr ps ss l).Perm ss := by
  have hn : ps.Nodup := hp.nodup_iff.2 List.nodup_range
  have h1 := wr_map (l := l) hn hl (fun p h => by have := List.mem_range.1 (hp.mem_iff.1 h); omega)
  have h2 : wr ps ss l = (List.range M).map (fun p => (wr ps ss l).getD p 0) := by
    apply List.ext_getElem
    · simp [wr_len, hM]
    · intro i g1 g2
      simp only [List.getElem_map, List.getElem_range]
      rw [List.getD_eq_getElem?_getD, List.getElem?_eq_getElem g1]
      rfl
  rw [h2]
  refine (hp.symm.map _).trans ?_
  rw [h1]
/-! ### The symbols with -1 -/
def negP (high : Nat) : List Int → List Nat
  | [] => []
  | n :: r => if n = -1 then (high - 1) :: negP (high - 1) r else negP high r
def negS (s : Nat) : List Int → List Nat
  | [] => []
  | n :: r => if n = -1 then s :: negS (s + 1) r else negS (s + 1) r
theorem sp1_wr : ∀ {zs : List Int} {s : Nat} {syms : List Nat} {high : Nat}, sp1 s syms high zs = (wr (negP high zs) (negS s zs) syms, high - negs zs)
  | [], s, syms, high => rfl
  | n :: r, s, syms, high => by
    simp only [sp1, negP, negS, negs]
    split
    · rw [sp1_wr]
      simp only [wr]
      congr 1
      omega
    · rw [sp1_wr]
theorem negP_facts : ∀ {zs : List Int} {high : Nat} (s : Nat), negs zs ≤ high → (negP high zs).Nodup ∧ (∀ p ∈ negP high zs, high - negs zs ≤ p ∧ p < high) ∧ (negP high zs).length = negs zs ∧ (negS s zs).length = negs zs
  | [], high, s, _ => ⟨List.nodup_nil, fun p h => (by cases h), rfl, rfl⟩
  | n :: r, high, s, h => by
    simp only [negP, negS, negs] at h ⊢
    split
    · rename_i hn
      rw [if_pos hn] at h
      obtain ⟨h1, h2, h3, h4⟩ := negP_facts (zs := r) (high := high - 1) (s + 1) (by omega)
      refine ⟨List.nodup_cons.2 ⟨fun hm => ?_, h1⟩, fun p hp => ?_, by simp [h3], by simp [h4]⟩
      · have := h2 _ hm; omega
      · rcases List.mem_cons.1 hp with rfl | hp
        · omega
        · have := h2 _ hp; omega
    · rename_i hn
      rw [if_neg hn] at h
      exact negP_facts (s + 1) h
/-! ### The others, in steps -/
def cyc (M step : Nat) : List Nat := (List.range M).map fun j => j * step % M
theorem cyc_len (M step : Nat) : (cyc M step).length = M := by simp [cyc]
theorem cyc_perm {M step : Nat} (hM : 0 < M) (hc : Nat.Coprime M step) : (cyc M step).Perm (List.range M) := by
  refine perm_range ?_ (cyc_len M step) fun x hx => ?_
  · unfold cyc
    unfold List.Nodup
    rw [List.pairwise_map]
    refine (List.nodup_range (n := M)).imp_of_mem fun {a b} ha hb hne he => hne ?_
    have ha := List.mem_range.1 ha
    have hb := List.mem_range.1 hb
    have key : ∀ {a b : Nat}, a < M → b < M → a ≤ b → a * step % M = b * step % M → a = b := by
      intro a b ha hb hle he
      have h1 := Nat.sub_mod_eq_zero_of_mod_eq he.symm
      rw [← Nat.sub_mul] at h1
      have h2 := Nat.Coprime.dvd_of_dvd_mul_right hc (Nat.dvd_of_mod_eq_zero h1)
      have := Nat.eq_zero_of_dvd_of_lt h2 (by omega)
      omega
    rcases Nat.le_total a b with h | h
    · exact key ha hb h he
    · exact (key hb ha h he.symm).symm
  · obtain ⟨j, _, rfl⟩ := List.mem_map.1 hx
    exact Nat.mod_lt _ hM
/-- what is still to be written, from the j-th place of the cycle on -/
def todo (M step high j : Nat) : List Nat := ((cyc M step).drop j).filter fun a => decide (a < high)
theorem todo_cons {M step high j : Nat} (hj : j < M) : todo M step high j = if j * step % M < high then (j * step % M) :: todo M step high (j + 1) else todo M step high (j + 1) := by
  have hl : j < (cyc M step).length := by rw [cyc_len]; exact hj
  unfold todo
  rw [List.drop_eq_getElem_cons hl, List.filter_cons]
  simp [cyc]
theorem todo_end (M step high : Nat) : todo M step high M = [] := by
  unfold todo
  rw [List.drop_of_length_le (by rw [cyc_len]; exact Nat.le_refl _)]
  rfl
theorem todo_len {M step high : Nat} (hM : 0 < M) (hc : Nat.Coprime M step) (hh : high ≤ M) : (todo M step high 0).length = high ∧ (todo M step high 0).Nodup ∧ ∀ p ∈ todo M step high 0, p < high := by
  have h1 : (todo M step high 0).Perm ((List.range M).filter fun a => decide (a < high)) := by
    unfold todo
    rw [List.drop_zero]
    exact (cyc_perm hM hc).filter _
  have hn : ((List.range M).filter fun a => decide (a < high)).Nodup := List.Nodup.sublist List.filter_sublist List.nodup_range
  have h2 : ((List.range M).filter fun a => decide (a < high)).Perm (List.range high) := by
    refine (List.perm_ext_iff_of_nodup hn List.nodup_range).2 fun a => ?_
    simp only [List.mem_filter, List.mem_range, decide_eq_true_eq]
    omega
  refine ⟨by rw [(h1.trans h2).length_eq]; simp, h1.nodup_iff.2 hn, fun p hp => ?_⟩
  exact List.mem_range.1 ((h1.trans h2).mem_iff.1 hp)
/-- where the next symbol goes, and what is still to be written -/
def Ready (M step high a : Nat) (R : List Nat) : Prop := ∃ j, j ≤ M ∧ a = j * step % M ∧ R = todo M step high j ∧ (j < M → a < high)
theorem Ready.head {M step high a : Nat} {R : List Nat} (h : Ready M step high a R) : (R = [] ∧ a = 0) ∨ ∃ R', R = a :: R' ∧ a < high := by
  obtain ⟨j, hj, ha, hR, hlt⟩ := h
  rcases Nat.lt_or_ge j M with h1 | h1
  · right
    have := hlt h1
    rw [todo_cons h1, if_pos (by omega)] at hR
    exact ⟨_, by rw [hR, ha], this⟩
  · left
    have e : j = M := by omega
    subst e
    rw [todo_end] at hR
    exact ⟨hR, by rw [ha]; exact Nat.mul_mod_right _ _⟩
theorem skip_ready {M step high : Nat} (hh : 0 < high) : ∀ {f j : Nat}, j ≤ M → M - j ≤ f → Ready M step high (skip M step high f (j * step % M)) (todo M step high j)
  | 0, j, hj, hf => by
    have e : j = M := by omega
    subst e
    exact ⟨j, Nat.le_refl _, rfl, rfl, fun h => absurd h (Nat.lt_irrefl _)⟩
  | f + 1, j, hj, hf => by
    rw [skip]
    split
    · rename_i hc
      have hlt : j < M := by
        rcases Nat.lt_or_ge j M with h | h
        · exact h
        · have e : j = M := by omega
          subst e
          have := hc.2
          rw [Nat.mul_mod_right] at this
          omega
      have ih := skip_ready (step := step) hh (f := f) (j := j + 1) hlt (by omega)
      rw [todo_cons hlt, if_neg (by omega), Nat.mod_add_mod, ← Nat.succ_mul]
      exact ih
    · rename_i hc
      exact ⟨j, hj, rfl, rfl, fun _ => by omega⟩
theorem put1_ready {M step high s a : Nat} {R syms : List Nat} (hh : 0 < high) (h : Ready M step high a (a :: R)) : (put1 M step high s (syms, a)).1 = syms.set a s ∧ Ready M step high (put1 M step high s (syms, a)).2 R := by
  obtain ⟨j, hj, ha, hR, hlt⟩ := h
  have h1 : j < M := by
    rcases Nat.lt_or_ge j M with h | h
    · exact h
    · have e : j = M := by omega
      subst e
      rw [todo_end] at hR
      cases hR
  rw [todo_cons h1, if_pos (by have := hlt h1; omega)] at hR
  injection hR with _ hR
  refine ⟨rfl, ?_⟩
  have := skip_ready (step := step) hh (f := M) (j := j + 1) h1 (by omega)
  rw [← hR] at this
  simp only [put1]
  rw [ha, Nat.mod_add_mod, ← Nat.succ_mul]
  exact this
theorem putN_ready {M step high s : Nat} (hh : 0 < high) : ∀ {k a : Nat} {R syms : List Nat}, k ≤ R.length → Ready M step high a R →
    (putN M step high s k (syms, a)).1 = wr (R.take k) (List.replicate k s) syms ∧ Ready M step high (putN M step high s k (syms, a)).2 (R.drop k)
  | 0, a, R, syms, _, h => ⟨rfl, by simpa [putN] using h⟩
  | k + 1, a, R, syms, hk, h => by
    rcases h.head with ⟨rfl, _⟩ | ⟨R', rfl, _⟩
    · simp at hk
    · obtain ⟨h1, h2⟩ := put1_ready (s := s) (syms := syms) hh h
      rw [putN]
      obtain ⟨x, hx⟩ : ∃ x, put1 M step high s (syms, a) = x := ⟨_, rfl⟩
      rw [hx] at h1 h2 ⊢
      obtain ⟨x1, x2⟩ := x
      simp only at h1 h2
      obtain ⟨h3, h4⟩ := putN_ready (s := s) (k := k) (syms := x1) hh (by simpa using hk) h2
      refine ⟨?_, by simpa using h4⟩
      rw [h3, h1, List.take_succ_cons, List.replicate_succ, wr]
def posS (s : Nat) : List Int → List Nat
  | [] => []
  | n :: r => List.replicate n.toNat s ++ posS (s + 1) r
theorem sp2_ready {M step high : Nat} (hh : 0 < high) : ∀ {zs : List Int} {s a : Nat} {R syms : List Nat}, (posS s zs).length ≤ R.length → Ready M step high a R →
    (sp2 M step high s (syms, a) zs).1 = wr (R.take (posS s zs).length) (posS s zs) syms ∧ Ready M step high (sp2 M step high s (syms, a) zs).2 (R.drop (posS s zs).length)
  | [], s, a, R, syms, _, h => ⟨by simp [sp2, posS, wr], by simpa [sp2, posS] using h⟩
  | n :: r, s, a, R, syms, hk, h => by
    simp only [posS, List.length_append, List.length_replicate] at hk ⊢
    obtain ⟨h1, h2⟩ := putN_ready (s := s) (k := n.toNat) (syms := syms) hh (by omega) h
    rw [sp2]
    obtain ⟨x, hx⟩ : ∃ x, putN M step high s n.toNat (syms, a) = x := ⟨_, rfl⟩
    rw [hx] at h1 h2 ⊢
    obtain ⟨x1, x2⟩ := x
    simp only at h1 h2
    obtain ⟨h3, h4⟩ := sp2_ready (zs := r) (s := s + 1) (syms := x1) hh (by rw [List.length_drop]; omega) h2
    refine ⟨?_, by rw [List.drop_drop] at h4; exact h4⟩
    rw [h3, h1, ← wr_append (by simp; omega)]
    congr 1
    exact List.take_add.symm
theorem sp2_none {M step high : Nat} : ∀ {zs : List Int} {s : Nat} {st : List Nat × Nat}, (posS s zs).length = 0 → sp2 M step high s st zs = st
  | [], _, _, _ => rfl
  | n :: r, s, st, h => by
    simp only [posS, List.length_append, List.length_replicate] at h
    have e : n.toNat = 0 := by omega
    rw [sp2, e, putN]
    exact sp2_none (by omega)
theorem count_sum : ∀ (zs : List Int) (s : Nat), negs zs + (posS s zs).length = (zs.map rN).sum
  | [], _ => rfl
  | n :: r, s => by
    have := count_sum r (s + 1)
    simp only [negs, posS, List.length_append, List.length_replicate, List.map_cons, List.sum_cons, rN]
    split
    · rename_i h
      subst h
      have : (-1 : Int).toNat = 0 := rfl
      omega
    · omega
theorem stepOf_coprime {b : Nat} (h5 : 5 ≤ b) (h9 : b ≤ 9) : Nat.Coprime (2 ^ b) (stepOf (2 ^ b)) := by
  obtain rfl | rfl | rfl | rfl | rfl : b = 5 ∨ b = 6 ∨ b = 7 ∨ b = 8 ∨ b = 9 := by omega
  all_goals (unfold Nat.Coprime; decide +kernel)
/-- the layout is complete: it ends at place 0, and holds each symbol as often as it was told -/
theorem spread_perm {zs : List Int} {b : Nat} (hc : Counts zs b) (hs : (zs.map rN).sum = 2 ^ b) :
    (spreadN zs b).Perm (negS 0 zs ++ posS 0 zs) ∧
    (sp2 (2 ^ b) (stepOf (2 ^ b)) (sp1 0 (List.replicate (2 ^ b) 0) (2 ^ b) zs).2 0 ((sp1 0 (List.replicate (2 ^ b) 0) (2 ^ b) zs).1, 0) zs).2 = 0 := by
  obtain ⟨hM1, hM2⟩ := hc.M
  have hcop := stepOf_coprime hc.b5 hc.b9
  have hneg := hc.neg
  have hsum := count_sum zs 0
  rw [hs] at hsum
  unfold spreadN
  generalize stepOf (2 ^ b) = step at *
  generalize 2 ^ b = M at *
  obtain ⟨n1, n2, n3, n4⟩ := negP_facts (zs := zs) (high := M) 0 hneg
  rw [sp1_wr]
  dsimp only
  obtain ⟨high, hhigh⟩ : ∃ high, M - negs zs = high := ⟨_, rfl⟩
  rw [hhigh] at n2 ⊢
  obtain ⟨t1, t2, t3⟩ := todo_len (step := step) (high := high) (by omega) hcop (by omega)
  have hperm : (negP M zs ++ todo M step high 0).Perm (List.range M) := by
    refine perm_range (List.nodup_append.2 ⟨n1, t2, fun a ha b hb e => ?_⟩) (by rw [List.length_append, n3, t1]; omega) fun x hx => ?_
    · have := n2 a ha
      have := t3 b hb
      omega
    · rcases List.mem_append.1 hx with hx | hx
      · exact (n2 x hx).2
      · have := t3 x hx; omega
  have hlen : (negP M zs ++ todo M step high 0).length = (negS 0 zs ++ posS 0 zs).length := by
    rw [List.length_append, List.length_append, n3, n4, t1]; omega
  rcases Nat.eq_zero_or_pos high with h0 | h0
  · rw [sp2_none (by omega)]
    refine ⟨?_, rfl⟩
    have hp0 : posS 0 zs = [] := List.eq_nil_of_length_eq_zero (by omega)
    have ht0 : todo M step high 0 = [] := List.eq_nil_of_length_eq_zero (by omega)
    rw [hp0, List.append_nil] at hlen ⊢
    rw [ht0, List.append_nil] at hlen hperm
    exact wr_perm hperm hlen (by simp)
  · have hr : Ready M step high 0 (todo M step high 0) := ⟨0, Nat.zero_le _, by simp, rfl, fun _ => h0⟩
    obtain ⟨h1, h2⟩ := sp2_ready (zs := zs) (s := 0) (syms := wr (negP M zs) (negS 0 zs) (List.replicate M 0)) h0 (by omega) hr
    have hl : (posS 0 zs).length = (todo M step high 0).length := by omega
    rw [hl, List.drop_of_length_le (Nat.le_refl _)] at h2
    rw [hl, List.take_of_length_le (Nat.le_refl _), ← wr_append (by omega)] at h1
    refine ⟨?_, ?_⟩
    · rw [h1]
      exact wr_perm hperm hlen (by simp)
    · rcases h2.head with h | ⟨R', h, _⟩
      · exact h.2
      · cases h
theorem count_syms : ∀ (zs : List Int) (s0 s : Nat), (negS s0 zs ++ posS s0 zs).count s = if s0 ≤ s then rN (zs.getD (s - s0) 0) else 0
  | [], s0, s => by simp [negS, posS, rN]
  | n :: r, s0, s => by
    have ih := count_syms r (s0 + 1) s
    rw [List.count_append] at ih ⊢
    simp only [negS, posS, List.count_append, List.count_replicate]
    by_cases hs : s0 = s
    · subst hs
      rw [if_neg (by omega)] at ih
      rw [if_pos (Nat.le_refl _), Nat.sub_self]
      simp only [List.getD_cons_zero, beq_self_eq_true, if_true, rN]
      split
      · rename_i h
        subst h
        have : (-1 : Int).toNat = 0 := rfl
        rw [List.count_cons_self]
        omega
      · omega
    · have hb : (s0 == s) = false := by simpa using hs
      rw [hb]
      have e1 : (if n = -1 then s0 :: negS (s0 + 1) r else negS (s0 + 1) r).count s = (negS (s0 + 1) r).count s := by
        split
        · exact List.count_cons_of_ne hs
        · rfl
      rw [e1]
      by_cases hle : s0 ≤ s
      · obtain ⟨d, hd⟩ : ∃ d, s - s0 = d + 1 := ⟨s - s0 - 1, by omega⟩
        rw [if_pos (by omega), show s - (s0 + 1) = d by omega] at ih
        rw [if_pos hle, hd, List.getD_cons_succ]
        simp only [Bool.false_eq_true, if_false]
        omega
      · rw [if_neg (by omega)] at ih
        rw [if_neg hle]
        simp only [Bool.false_eq_true, if_false]
        omega
theorem spread_count {zs : List Int} {b : Nat} (hc : Counts zs b) (hs : (zs.map rN).sum = 2 ^ b) (s : Nat) : (spreadN zs b).count s = rN (zs.getD s 0) := by
  rw [(spread_perm hc hs).1.count_eq, count_syms, if_pos (Nat.zero_le _), Nat.sub_zero]
theorem spread_len {zs : List Int} {b : Nat} (hc : Counts zs b) (hs : (zs.map rN).sum = 2 ^ b) : (spreadN zs b).length = 2 ^ b := by
  have := negP_facts (zs := zs) (high := 2 ^ b) 0 hc.neg
  have h2 := count_sum zs 0
  rw [(spread_perm hc hs).1.length_eq, List.length_append, this.2.2.2, h2, hs]
/-- a symbol in the table has a count -/
theorem spread_pos {zs : List Int} {b : Nat} (hc : Counts zs b) (hs : (zs.map rN).sum = 2 ^ b) {s : Nat} (h : s ∈ spreadN zs b) : 0 < rN (zs.getD s 0) ∧ s < zs.length := by
  have h1 := List.count_pos_iff.2 h
  rw [spread_count hc hs] at h1
  refine ⟨h1, ?_⟩
  apply Decidable.byContradiction
  intro hn
  rw [List.getD_eq_getElem?_getD, List.getElem?_eq_none (by omega)] at h1
  simp [rN] at h1
end Go.Proofs.YtgdhdkjbilifiaaDoor
