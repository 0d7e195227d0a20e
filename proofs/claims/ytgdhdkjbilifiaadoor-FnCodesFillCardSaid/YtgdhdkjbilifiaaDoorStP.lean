/- The layout fills the table: each place is written once. Plain; no program. The states of a symbol cover all states, each of them once. Plain; no program. Counts that are read: a model of the reader, and of the reference. Plain; no program. -/
import Derived.Test.YtgdhdkjbilifiaaDoorStM
import Derived.Test.YtgdhdkjbilifiaaDoorBits
namespace Go.Proofs.YtgdhdkjbilifiaaDoor
open Go Go.Sx
set_option maxRecDepth 100000
theorem perm_range {l : List Nat} {M : Nat} (hn : l.Nodup) (hl : l.length = M) (hlt : ∀ x ∈ l, x < M) : l.Perm (List.range M) := by
  refine (List.perm_ext_iff_of_nodup hn List.nodup_range).2 fun a => ⟨fun h => List.mem_range.2 (hlt a h), fun h => ?_⟩
  apply Decidable.byContradiction
  intro hna
  have := List.Nodup.length_le_of_subset (l₁ := a :: l) (l₂ := List.range M) (List.nodup_cons.2 ⟨hna, hn⟩) (fun x hx => by
    rcases List.mem_cons.1 hx with rfl | hx
    · exact h
    · exact List.mem_range.2 (hlt x hx))
  simp at this
  omega
/-- symbols written at places, one behind the other -/
def wr : List Nat → List Nat → List Nat → List Nat
  | p :: ps, s :: ss, l => wr ps ss (l.set p s)
  | _, _, l => l
theorem wr_append : ∀ {p1 s1 p2 s2 l : List Nat}, p1.length = s1.length → wr (p1 ++ p2) (s1 ++ s2) l = wr p2 s2 (wr p1 s1 l)
  | [], [], _, _, _, _ => rfl
  | p :: p1, s :: s1, p2, s2, l, h => by
    have := wr_append (p1 := p1) (s1 := s1) (p2 := p2) (s2 := s2) (l := l.set p s) (by simpa using h)
    simpa [wr] using this
theorem wr_len : ∀ {ps ss l : List Nat}, (wr ps ss l).length = l.length
  | [], _, _ => by simp [wr]
  | _ :: _, [], _ => by simp [wr]
  | p :: ps, s :: ss, l => by
    have := wr_len (ps := ps) (ss := ss) (l := l.set p s)
    simpa [wr] using this
theorem wr_other : ∀ {ps ss l : List Nat} {x : Nat}, x ∉ ps → (wr ps ss l)[x]? = l[x]?
  | [], _, _, _, _ => by simp [wr]
  | _ :: _, [], _, _, _ => by simp [wr]
  | p :: ps, s :: ss, l, x, h => by
    simp only [List.mem_cons, not_or] at h
    have := wr_other (ps := ps) (ss := ss) (l := l.set p s) h.2
    rw [wr, this, List.getElem?_set_ne (fun e => h.1 e.symm)]
theorem wr_map : ∀ {ps ss l : List Nat}, ps.Nodup → ps.length = ss.length → (∀ p ∈ ps, p < l.length) → ps.map (fun p => (wr ps ss l).getD p 0) = ss
  | [], [], _, _, _, _ => rfl
  | p :: ps, s :: ss, l, hn, hl, hp => by
    obtain ⟨h1, h2⟩ := List.nodup_cons.1 hn
    have ih := wr_map (ps := ps) (ss := ss) (l := l.set p s) h2 (by simpa using hl) (fun q hq => by simpa using hp q (List.mem_cons_of_mem _ hq))
    have h3 := hp p List.mem_cons_self
    simp only [wr, List.map_cons]
    rw [ih]
    congr 1
    rw [List.getD_eq_getElem?_getD, wr_other h1]
    simp [h3]
theorem wr_perm {ps ss l : List Nat} {M : Nat} (hp : ps.Perm (List.range M)) (hl : ps.length = ss.length) (hM : l.length = M) : (wr ps ss l).Perm ss := by
  have hn : ps.Nodup := hp.nodup_iff.2 List.nodup_range
  have h1 := wr_map (l := l) hn hl (fun p h => by have := List.mem_range.1 (hp.mem_iff.1 h); omega)
  have h2 : wr ps ss l = (List.range M).map (fun p => (wr ps ss l).getD p 0) := by
    apply List.ext_getElem
    · simp [wr_len, hM]
    · intro i g1 g2
      simp only [List.getElem_map, List.getElem_range]
      rw [List.getD_eq_getElem?_getD, List.getElem?_eq_getElem g1]
      rfl
  rw [h2]
  refine (hp.symm.map _).trans ?_
  rw [h1]
/-! ### The symbols with -1 -/
def negP (high : Nat) : List Int → List Nat
  | [] => []
  | n :: r => if n = -1 then (high - 1) :: negP (high - 1) r else negP high r
def negS (s : Nat) : List Int → List Nat
  | [] => []
  | n :: r => if n = -1 then s :: negS (s + 1) r else negS (s + 1) r
theorem sp1_wr : ∀ {zs : List Int} {s : Nat} {syms : List Nat} {high : Nat}, sp1 s syms high zs = (wr (negP high zs) (negS s zs) syms, high - negs zs)
  | [], s, syms, high => rfl
  | n :: r, s, syms, high => by
    simp only [sp1, negP, negS, negs]
    split
    · rw [sp1_wr]
      simp only [wr]
      congr 1
      omega
    · rw [sp1_wr]
theorem negP_facts : ∀ {zs : List Int} {high : Nat} (s : Nat), negs zs ≤ high → (negP high zs).Nodup ∧ (∀ p ∈ negP high zs, high - negs zs ≤ p ∧ p < high) ∧ (negP high zs).length = negs zs ∧ (negS s zs).length = negs zs
  | [], high, s, _ => ⟨List.nodup_nil, fun p h => (by cases h), rfl, rfl⟩
  | n :: r, high, s, h => by
    simp only [negP, negS, negs] at h ⊢
    split
    · rename_i hn
      rw [if_pos hn] at h
      obtain ⟨h1, h2, h3, h4⟩ := negP_facts (zs := r) (high := high - 1) (s + 1) (by omega)
      refine ⟨List.nodup_cons.2 ⟨fun hm => ?_, h1⟩, fun p hp => ?_, by simp [h3], by simp [h4]⟩
      · have := h2 _ hm; omega
      · rcases List.mem_cons.1 hp with rfl | hp
        · omega
        · have := h2 _ hp; omega
    · rename_i hn
      rw [if_neg hn] at h
      exact negP_facts (s + 1) h
/-! ### The others, in steps -/
def cyc (M step : Nat) : List Nat := (List.range M).map fun j => j * step % M
theorem cyc_len (M step : Nat) : (cyc M step).length = M := by simp [cyc]
theorem cyc_perm {M step : Nat} (hM : 0 < M) (hc : Nat.Coprime M step) : (cyc M step).Perm (List.range M) := by
  refine perm_range ?_ (cyc_len M step) fun x hx => ?_
  · unfold cyc
    unfold List.Nodup
    rw [List.pairwise_map]
    refine (List.nodup_range (n := M)).imp_of_mem fun {a b} ha hb hne he => hne ?_
    have ha := List.mem_range.1 ha
    have hb := List.mem_range.1 hb
    have key : ∀ {a b : Nat}, a < M → b < M → a ≤ b → a * step % M = b * step % M → a = b := by
      intro a b ha hb hle he
      have h1 := Nat.sub_mod_eq_zero_of_mod_eq he.symm
      rw [← Nat.sub_mul] at h1
      have h2 := Nat.Coprime.dvd_of_dvd_mul_right hc (Nat.dvd_of_mod_eq_zero h1)
      have := Nat.eq_zero_of_dvd_of_lt h2 (by omega)
      omega
    rcases Nat.le_total a b with h | h
    · exact key ha hb h he
    · exact (key hb ha h he.symm).symm
  · obtain ⟨j, _, rfl⟩ := List.mem_map.1 hx
    exact Nat.mod_lt _ hM
/-- what is still to be written, from the j-th place of the cycle on -/
def todo (M step high j : Nat) : List Nat := ((cyc M step).drop j).filter fun a => decide (a < high)
theorem todo_cons {M step high j : Nat} (hj : j < M) : todo M step high j = if j * step % M < high then (j * step % M) :: todo M step high (j + 1) else todo M step high (j + 1) := by
  have hl : j < (cyc M step).length := by rw [cyc_len]; exact hj
  unfold todo
  rw [List.drop_eq_getElem_cons hl, List.filter_cons]
  simp [cyc]
theorem todo_end (M step high : Nat) : todo M step high M = [] := by
  unfold todo
  rw [List.drop_of_length_le (by rw [cyc_len]; exact Nat.le_refl _)]
  rfl
theorem todo_len {M step high : Nat} (hM : 0 < M) (hc : Nat.Coprime M step) (hh : high ≤ M) : (todo M step high 0).length = high ∧ (todo M step high 0).Nodup ∧ ∀ p ∈ todo M step high 0, p < high := by
  have h1 : (todo M step high 0).Perm ((List.range M).filter fun a => decide (a < high)) := by
    unfold todo
    rw [List.drop_zero]
    exact (cyc_perm hM hc).filter _
  have hn : ((List.range M).filter fun a => decide (a < high)).Nodup := List.Nodup.sublist List.filter_sublist List.nodup_range
  have h2 : ((List.range M).filter fun a => decide (a < high)).Perm (List.range high) := by
    refine (List.perm_ext_iff_of_nodup hn List.nodup_range).2 fun a => ?_
    simp only [List.mem_filter, List.mem_range, decide_eq_true_eq]
    omega
  refine ⟨by rw [(h1.trans h2).length_eq]; simp, h1.nodup_iff.2 hn, fun p hp => ?_⟩
  exact List.mem_range.1 ((h1.trans h2).mem_iff.1 hp)
/-- where the next symbol goes, and what is still to be written -/
def Ready (M step high a : Nat) (R : List Nat) : Prop := ∃ j, j ≤ M ∧ a = j * step % M ∧ R = todo M step high j ∧ (j < M → a < high)
theorem Ready.head {M step high a : Nat} {R : List Nat} (h : Ready M step high a R) : (R = [] ∧ a = 0) ∨ ∃ R', R = a :: R' ∧ a < high := by
  obtain ⟨j, hj, ha, hR, hlt⟩ := h
  rcases Nat.lt_or_ge j M with h1 | h1
  · right
    have := hlt h1
    rw [todo_cons h1, if_pos (by omega)] at hR
    exact ⟨_, by rw [hR, ha], this⟩
  · left
    have e : j = M := by omega
    subst e
    rw [todo_end] at hR
    exact ⟨hR, by rw [ha]; exact Nat.mul_mod_right _ _⟩
theorem skip_ready {M step high : Nat} (hh : 0 < high) : ∀ {f j : Nat}, j ≤ M → M - j ≤ f → Ready M step high (skip M step high f (j * step % M)) (todo M step high j)
  | 0, j, hj, hf => by
    have e : j = M := by omega
    subst e
    exact ⟨j, Nat.le_refl _, rfl, rfl, fun h => absurd h (Nat.lt_irrefl _)⟩
  | f + 1, j, hj, hf => by
    rw [skip]
    split
    · rename_i hc
      have hlt : j < M := by
        rcases Nat.lt_or_ge j M with h | h
        · exact h
        · have e : j = M := by omega
          subst e
          have := hc.2
          rw [Nat.mul_mod_right] at this
          omega
      have ih := skip_ready (step := step) hh (f := f) (j := j + 1) hlt (by omega)
      rw [todo_cons hlt, if_neg (by omega), Nat.mod_add_mod, ← Nat.succ_mul]
      exact ih
    · rename_i hc
      exact ⟨j, hj, rfl, rfl, fun _ => by omega⟩
theorem put1_ready {M step high s a : Nat} {R syms : List Nat} (hh : 0 < high) (h : Ready M step high a (a :: R)) : (put1 M step high s (syms, a)).1 = syms.set a s ∧ Ready M step high (put1 M step high s (syms, a)).2 R := by
  obtain ⟨j, hj, ha, hR, hlt⟩ := h
  have h1 : j < M := by
    rcases Nat.lt_or_ge j M with h | h
    · exact h
    · have e : j = M := by omega
      subst e
      rw [todo_end] at hR
      cases hR
  rw [todo_cons h1, if_pos (by have := hlt h1; omega)] at hR
  injection hR with _ hR
  refine ⟨rfl, ?_⟩
  have := skip_ready (step := step) hh (f := M) (j := j + 1) h1 (by omega)
  rw [← hR] at this
  simp only [put1]
  rw [ha, Nat.mod_add_mod, ← Nat.succ_mul]
  exact this
theorem putN_ready {M step high s : Nat} (hh : 0 < high) : ∀ {k a : Nat} {R syms : List Nat}, k ≤ R.length → Ready M step high a R →
    (putN M step high s k (syms, a)).1 = wr (R.take k) (List.replicate k s) syms ∧ Ready M step high (putN M step high s k (syms, a)).2 (R.drop k)
  | 0, a, R, syms, _, h => ⟨rfl, by simpa [putN] using h⟩
  | k + 1, a, R, syms, hk, h => by
    rcases h.head with ⟨rfl, _⟩ | ⟨R', rfl, _⟩
    · simp at hk
    · obtain ⟨h1, h2⟩ := put1_ready (s := s) (syms := syms) hh h
      rw [putN]
      obtain ⟨x, hx⟩ : ∃ x, put1 M step high s (syms, a) = x := ⟨_, rfl⟩
      rw [hx] at h1 h2 ⊢
      obtain ⟨x1, x2⟩ := x
      simp only at h1 h2
      obtain ⟨h3, h4⟩ := putN_ready (s := s) (k := k) (syms := x1) hh (by simpa using hk) h2
      refine ⟨?_, by simpa using h4⟩
      rw [h3, h1, List.take_succ_cons, List.replicate_succ, wr]
def posS (s : Nat) : List Int → List Nat
  | [] => []
  | n :: r => List.replicate n.toNat s ++ posS (s + 1) r
theorem sp2_ready {M step high : Nat} (hh : 0 < high) : ∀ {zs : List Int} {s a : Nat} {R syms : List Nat}, (posS s zs).length ≤ R.length → Ready M step high a R →
    (sp2 M step high s (syms, a) zs).1 = wr (R.take (posS s zs).length) (posS s zs) syms ∧ Ready M step high (sp2 M step high s (syms, a) zs).2 (R.drop (posS s zs).length)
  | [], s, a, R, syms, _, h => ⟨by simp [sp2, posS, wr], by simpa [sp2, posS] using h⟩
  | n :: r, s, a, R, syms, hk, h => by
    simp only [posS, List.length_append, List.length_replicate] at hk ⊢
    obtain ⟨h1, h2⟩ := putN_ready (s := s) (k := n.toNat) (syms := syms) hh (by omega) h
    rw [sp2]
    obtain ⟨x, hx⟩ : ∃ x, putN M step high s n.toNat (syms, a) = x := ⟨_, rfl⟩
    rw [hx] at h1 h2 ⊢
    obtain ⟨x1, x2⟩ := x
    simp only at h1 h2
    obtain ⟨h3, h4⟩ := sp2_ready (zs := r) (s := s + 1) (syms := x1) hh (by rw [List.length_drop]; omega) h2
    refine ⟨?_, by rw [List.drop_drop] at h4; exact h4⟩
    rw [h3, h1, ← wr_append (by simp; omega)]
    congr 1
    exact List.take_add.symm
theorem sp2_none {M step high : Nat} : ∀ {zs : List Int} {s : Nat} {st : List Nat × Nat}, (posS s zs).length = 0 → sp2 M step high s st zs = st
  | [], _, _, _ => rfl
  | n :: r, s, st, h => by
    simp only [posS, List.length_append, List.length_replicate] at h
    have e : n.toNat = 0 := by omega
    rw [sp2, e, putN]
    exact sp2_none (by omega)
theorem count_sum : ∀ (zs : List Int) (s : Nat), negs zs + (posS s zs).length = (zs.map rN).sum
  | [], _ => rfl
  | n :: r, s => by
    have := count_sum r (s + 1)
    simp only [negs, posS, List.length_append, List.length_replicate, List.map_cons, List.sum_cons, rN]
    split
    · rename_i h
      subst h
      have : (-1 : Int).toNat = 0 := rfl
      omega
    · omega
theorem stepOf_coprime {b : Nat} (h5 : 5 ≤ b) (h9 : b ≤ 9) : Nat.Coprime (2 ^ b) (stepOf (2 ^ b)) := by
  obtain rfl | rfl | rfl | rfl | rfl : b = 5 ∨ b = 6 ∨ b = 7 ∨ b = 8 ∨ b = 9 := by omega
  all_goals (unfold Nat.Coprime; decide +kernel)
/-- the layout is complete: it ends at place 0, and holds each symbol as often as it was told -/
theorem spread_perm {zs : List Int} {b : Nat} (hc : Counts zs b) (hs : (zs.map rN).sum = 2 ^ b) :
    (spreadN zs b).Perm (negS 0 zs ++ posS 0 zs) ∧
    (sp2 (2 ^ b) (stepOf (2 ^ b)) (sp1 0 (List.replicate (2 ^ b) 0) (2 ^ b) zs).2 0 ((sp1 0 (List.replicate (2 ^ b) 0) (2 ^ b) zs).1, 0) zs).2 = 0 := by
  obtain ⟨hM1, hM2⟩ := hc.M
  have hcop := stepOf_coprime hc.b5 hc.b9
  have hneg := hc.neg
  have hsum := count_sum zs 0
  rw [hs] at hsum
  unfold spreadN
  generalize stepOf (2 ^ b) = step at *
  generalize 2 ^ b = M at *
  obtain ⟨n1, n2, n3, n4⟩ := negP_facts (zs := zs) (high := M) 0 hneg
  rw [sp1_wr]
  dsimp only
  obtain ⟨high, hhigh⟩ : ∃ high, M - negs zs = high := ⟨_, rfl⟩
  rw [hhigh] at n2 ⊢
  obtain ⟨t1, t2, t3⟩ := todo_len (step := step) (high := high) (by omega) hcop (by omega)
  have hperm : (negP M zs ++ todo M step high 0).Perm (List.range M) := by
    refine perm_range (List.nodup_append.2 ⟨n1, t2, fun a ha b hb e => ?_⟩) (by rw [List.length_append, n3, t1]; omega) fun x hx => ?_
    · have := n2 a ha
      have := t3 b hb
      omega
    · rcases List.mem_append.1 hx with hx | hx
      · exact (n2 x hx).2
      · have := t3 x hx; omega
  have hlen : (negP M zs ++ todo M step high 0).length = (negS 0 zs ++ posS 0 zs).length := by
    rw [List.length_append, List.length_append, n3, n4, t1]; omega
  rcases Nat.eq_zero_or_pos high with h0 | h0
  · rw [sp2_none (by omega)]
    refine ⟨?_, rfl⟩
    have hp0 : posS 0 zs = [] := List.eq_nil_of_length_eq_zero (by omega)
    have ht0 : todo M step high 0 = [] := List.eq_nil_of_length_eq_zero (by omega)
    rw [hp0, List.append_nil] at hlen ⊢
    rw [ht0, List.append_nil] at hlen hperm
    exact wr_perm hperm hlen (by simp)
  · have hr : Ready M step high 0 (todo M step high 0) := ⟨0, Nat.zero_le _, by simp, rfl, fun _ => h0⟩
    obtain ⟨h1, h2⟩ := sp2_ready (zs := zs) (s := 0) (syms := wr (negP M zs) (negS 0 zs) (List.replicate M 0)) h0 (by omega) hr
    have hl : (posS 0 zs).length = (todo M step high 0).length := by omega
    rw [hl, List.drop_of_length_le (Nat.le_refl _)] at h2
    rw [hl, List.take_of_length_le (Nat.le_refl _), ← wr_append (by omega)] at h1
    refine ⟨?_, ?_⟩
    · rw [h1]
      exact wr_perm hperm hlen (by simp)
    · rcases h2.head with h | ⟨R', h, _⟩
      · exact h.2
      · cases h
theorem count_syms : ∀ (zs : List Int) (s0 s : Nat), (negS s0 zs ++ posS s0 zs).count s = if s0 ≤ s then rN (zs.getD (s - s0) 0) else 0
  | [], s0, s => by simp [negS, posS, rN]
  | n :: r, s0, s => by
    have ih := count_syms r (s0 + 1) s
    rw [List.count_append] at ih ⊢
    simp only [negS, posS, List.count_append, List.count_replicate]
    by_cases hs : s0 = s
    · subst hs
      rw [if_neg (by omega)] at ih
      rw [if_pos (Nat.le_refl _), Nat.sub_self]
      simp only [List.getD_cons_zero, beq_self_eq_true, if_true, rN]
      split
      · rename_i h
        subst h
        have : (-1 : Int).toNat = 0 := rfl
        rw [List.count_cons_self]
        omega
      · omega
    · have hb : (s0 == s) = false := by simpa using hs
      rw [hb]
      have e1 : (if n = -1 then s0 :: negS (s0 + 1) r else negS (s0 + 1) r).count s = (negS (s0 + 1) r).count s := by
        split
        · exact List.count_cons_of_ne hs
        · rfl
      rw [e1]
      by_cases hle : s0 ≤ s
      · obtain ⟨d, hd⟩ : ∃ d, s - s0 = d + 1 := ⟨s - s0 - 1, by omega⟩
        rw [if_pos (by omega), show s - (s0 + 1) = d by omega] at ih
        rw [if_pos hle, hd, List.getD_cons_succ]
        simp only [Bool.false_eq_true, if_false]
        omega
      · rw [if_neg (by omega)] at ih
        rw [if_neg hle]
        simp only [Bool.false_eq_true, if_false]
        omega
theorem spread_count {zs : List Int} {b : Nat} (hc : Counts zs b) (hs : (zs.map rN).sum = 2 ^ b) (s : Nat) : (spreadN zs b).count s = rN (zs.getD s 0) := by
  rw [(spread_perm hc hs).1.count_eq, count_syms, if_pos (Nat.zero_le _), Nat.sub_zero]
theorem spread_len {zs : List Int} {b : Nat} (hc : Counts zs b) (hs : (zs.map rN).sum = 2 ^ b) : (spreadN zs b).length = 2 ^ b := by
  have := negP_facts (zs := zs) (high := 2 ^ b) 0 hc.neg
  have h2 := count_sum zs 0
  rw [(spread_perm hc hs).1.length_eq, List.length_append, this.2.2.2, h2, hs]
/-- a symbol in the table has a count -/
theorem spread_pos {zs : List Int} {b : Nat} (hc : Counts zs b) (hs : (zs.map rN).sum = 2 ^ b) {s : Nat} (h : s ∈ spreadN zs b) : 0 < rN (zs.getD s 0) ∧ s < zs.length := by
  have h1 := List.count_pos_iff.2 h
  rw [spread_count hc hs] at h1
  refine ⟨h1, ?_⟩
  apply Decidable.byContradiction
  intro hn
  rw [List.getD_eq_getElem?_getD, List.getElem?_eq_none (by omega)] at h1
  simp [rN] at h1
end Go.Proofs.YtgdhdkjbilifiaaDoor
namespace Go.Proofs.YtgdhdkjbilifiaaDoor
open Go Go.Sx
set_option maxRecDepth 100000
theorem wd_div : ∀ (r X : Nat), wd (X / 2 ^ r) = wd X - r
  | 0, X => by simp
  | r + 1, X => by
    rw [Nat.pow_succ, Nat.mul_comm, ← Nat.div_div_eq_div_mul, wd_div r (X / 2)]
    rcases Nat.eq_zero_or_pos X with h | h
    · subst h; simp [wd]
    · rw [wd_half h]; omega
theorem wd_bounds {n : Nat} (h : 0 < n) : 2 ^ (wd n - 1) ≤ n ∧ n < 2 ^ wd n := by
  unfold wd
  rw [if_neg (by omega)]
  refine ⟨?_, Nat.lt_log2_self⟩
  rw [Nat.add_sub_cancel]
  exact Nat.log2_self_le (by omega)
theorem wd_eq {n b : Nat} (h1 : 2 ^ b ≤ n) (h2 : n < 2 ^ (b + 1)) : wd n = b + 1 := by
  have hp := Nat.two_pow_pos b
  have hle := wd_lt h2
  have hb := wd_bounds (show 0 < n by omega)
  apply Decidable.byContradiction
  intro hne
  have : 2 ^ wd n ≤ 2 ^ b := Nat.pow_le_pow_right (by omega) (by omega)
  omega
/-- the numbers of states: where they begin, and how many there are -/
theorem num_bounds {b n : Nat} (h1 : 1 ≤ n) (h2 : n < 2 ^ (b + 1)) : 2 ^ b ≤ n * 2 ^ readOf b n ∧ (n + 1) * 2 ^ readOf b n ≤ 2 ^ (b + 1) ∧ wd n ≤ b + 1 ∧ 1 ≤ wd n := by
  have hw := wd_lt h2
  have hp := wd_pos h1
  obtain ⟨g1, g2⟩ := wd_bounds h1
  unfold readOf
  refine ⟨?_, ?_, hw, hp⟩
  · have e : b = (wd n - 1) + (b + 1 - wd n) := by omega
    conv => lhs; rw [e, Nat.pow_add]
    exact Nat.mul_le_mul_right _ g1
  · have e : b + 1 = wd n + (b + 1 - wd n) := by omega
    conv => rhs; rw [e, Nat.pow_add]
    exact Nat.mul_le_mul_right _ g2
def stOf (b s n : Nat) : St := (s, readOf b n, ((n * 2 ^ readOf b n : Nat) : Int) - ((2 ^ b : Nat) : Int))
theorem bd_cons (b : Nat) (next : List Nat) (s : Nat) (r : List Nat) : bd b next (s :: r) = stOf b s (next.getD s 0) :: bd b (next.set s (next.getD s 0 + 1)) r := rfl
/-- numbers that are left for the symbols of a list -/
structure Nums (b : Nat) (next syms : List Nat) : Prop where
  lt : ∀ s ∈ syms, s < next.length
  pos : ∀ s ∈ syms, 1 ≤ next.getD s 0
  le : ∀ s, s < next.length → next.getD s 0 + syms.count s ≤ 2 ^ (b + 1)
theorem getD_set {l : List Nat} {s v t : Nat} (hs : s < l.length) : (l.set s v).getD t 0 = if s = t then v else l.getD t 0 := by
  simp only [List.getD_eq_getElem?_getD, List.getElem?_set]
  by_cases h : s = t
  · subst h
    simp [hs]
  · simp [h]
theorem Nums.head {b s : Nat} {next r : List Nat} (h : Nums b next (s :: r)) : s < next.length ∧ 1 ≤ next.getD s 0 ∧ next.getD s 0 < 2 ^ (b + 1) := by
  have h1 := h.lt s List.mem_cons_self
  have h2 := h.le s h1
  rw [List.count_cons_self] at h2
  exact ⟨h1, h.pos s List.mem_cons_self, by omega⟩
theorem Nums.tail {b s : Nat} {next r : List Nat} (h : Nums b next (s :: r)) : Nums b (next.set s (next.getD s 0 + 1)) r := by
  have h1 := h.lt s List.mem_cons_self
  refine ⟨fun t ht => by rw [List.length_set]; exact h.lt t (List.mem_cons_of_mem _ ht), fun t ht => ?_, fun t ht => ?_⟩
  · rw [getD_set h1]
    split
    · omega
    · exact h.pos t (List.mem_cons_of_mem _ ht)
  · rw [List.length_set] at ht
    rw [getD_set h1]
    have := h.le t ht
    split
    · rename_i e
      subst e
      rw [List.count_cons_self] at this
      omega
    · rename_i e
      rw [List.count_cons_of_ne e] at this
      exact this
theorem nums_of {zs : List Int} {b : Nat} (hc : Counts zs b) (hs : (zs.map rN).sum = 2 ^ b) : Nums b (zs.map rN) (spreadN zs b) := by
  have hget : ∀ s, s < zs.length → (zs.map rN).getD s 0 = rN (zs.getD s 0) := fun s h => by
    rw [List.getD_eq_getElem?_getD, List.getD_eq_getElem?_getD, List.getElem?_map, List.getElem?_eq_getElem h]
    rfl
  refine ⟨fun s h => by rw [List.length_map]; exact (spread_pos hc hs h).2, fun s h => ?_, fun s h => ?_⟩
  · obtain ⟨h1, h2⟩ := spread_pos hc hs h
    rw [hget s h2]
    exact h1
  · rw [List.length_map] at h
    rw [hget s h, spread_count hc hs]
    have := hc.lim _ (List.getElem_mem h)
    have hz : zs.getD s 0 = zs[s] := by rw [List.getD_eq_getElem?_getD, List.getElem?_eq_getElem h]; rfl
    rw [hz, Nat.pow_succ]
    have hp := Nat.two_pow_pos b
    unfold rN
    split <;> omega
theorem bd_mem {b : Nat} : ∀ {syms next : List Nat} {x : St}, Nums b next syms → x ∈ bd b next syms → ∃ n, 1 ≤ n ∧ n < 2 ^ (b + 1) ∧ x = stOf b x.1 n ∧ x.1 ∈ syms
  | [], _, _, _, h => by cases h
  | s :: r, next, x, hn, h => by
    rw [bd_cons] at h
    rcases List.mem_cons.1 h with rfl | h
    · exact ⟨next.getD s 0, hn.head.2.1, hn.head.2.2, rfl, List.mem_cons_self⟩
    · obtain ⟨n, h1, h2, h3, h4⟩ := bd_mem hn.tail h
      exact ⟨n, h1, h2, h3, List.mem_cons_of_mem _ h4⟩
/-- state y is reached by a state x of symbol s -/
def hitB (s y : Nat) (x : St) : Bool := x.1 == s && decide (x.2.2 ≤ (y : Int)) && decide ((y : Int) < x.2.2 + ((2 ^ x.2.1 : Nat) : Int))
def numB (b y n : Nat) : Bool := decide (n * 2 ^ readOf b n ≤ y + 2 ^ b) && decide (y + 2 ^ b < (n + 1) * 2 ^ readOf b n)
theorem hit_stOf (b s y n t : Nat) : hitB s y (stOf b t n) = (t == s && numB b y n) := by
  unfold hitB stOf numB
  dsimp only
  rw [Bool.and_assoc]
  congr 1
  have e : (n + 1) * 2 ^ readOf b n = n * 2 ^ readOf b n + 2 ^ readOf b n := Nat.succ_mul _ _
  rw [e]
  congr 1 <;> (apply decide_eq_decide.2; omega)
theorem hits_bd {b s y : Nat} : ∀ {syms next : List Nat}, (∀ t ∈ syms, t < next.length) → (bd b next syms).countP (hitB s y) = (List.range' (next.getD s 0) (syms.count s)).countP (numB b y)
  | [], _, _ => rfl
  | t :: r, next, h => by
    have h1 := h t List.mem_cons_self
    rw [bd_cons, List.countP_cons, hits_bd (fun u hu => by rw [List.length_set]; exact h u (List.mem_cons_of_mem _ hu)), hit_stOf, getD_set h1]
    by_cases e : t = s
    · subst e
      rw [if_pos rfl, List.count_cons_self, List.range'_succ, List.countP_cons]
      simp
    · have eb : (t == s) = false := by simpa using e
      rw [if_neg e, List.count_cons_of_ne e, eb]
      simp
theorem one_prefix {c : Nat} (hc : 1 ≤ c) : ∀ {X : Nat}, c ≤ X → ∃ r, c ≤ X / 2 ^ r ∧ X / 2 ^ r < 2 * c := by
  intro X
  induction X using Nat.strongRecOn with
  | _ X ih =>
    intro hX
    rcases Nat.lt_or_ge X (2 * c) with h | h
    · exact ⟨0, by simpa using hX, by simpa using h⟩
    · obtain ⟨r, h1, h2⟩ := ih (X / 2) (by omega) (by omega)
      refine ⟨r + 1, ?_, ?_⟩ <;> rw [Nat.pow_succ, Nat.mul_comm, ← Nat.div_div_eq_div_mul] <;> assumption
theorem numB_iff {b y n : Nat} : numB b y n = true ↔ (y + 2 ^ b) / 2 ^ readOf b n = n := by
  have hp := Nat.two_pow_pos (readOf b n)
  unfold numB
  simp only [Bool.and_eq_true, decide_eq_true_eq]
  constructor
  · rintro ⟨h1, h2⟩
    have g1 := (Nat.le_div_iff_mul_le hp).2 h1
    have g2 := (Nat.div_lt_iff_lt_mul hp).2 h2
    omega
  · intro h
    have h1 : n ≤ (y + 2 ^ b) / 2 ^ readOf b n := by omega
    have h2 : (y + 2 ^ b) / 2 ^ readOf b n < n + 1 := by omega
    exact ⟨(Nat.le_div_iff_mul_le hp).1 h1, (Nat.div_lt_iff_lt_mul hp).1 h2⟩
theorem hits_one {b y c : Nat} (hy : y < 2 ^ b) (hc : 1 ≤ c) (hcM : c ≤ 2 ^ b) : (List.range' c c).countP (numB b y) = 1 := by
  have hX1 : 2 ^ b ≤ y + 2 ^ b := by omega
  have hX2 : y + 2 ^ b < 2 ^ (b + 1) := by rw [Nat.pow_succ]; omega
  have hwX := wd_eq hX1 hX2
  obtain ⟨X, hX⟩ : ∃ X, y + 2 ^ b = X := ⟨_, rfl⟩
  have hiff : ∀ n, numB b y n = true ↔ X / 2 ^ readOf b n = n := fun n => by rw [numB_iff, hX]
  rw [hX] at hX1 hX2 hwX
  obtain ⟨r, h1, h2⟩ := one_prefix hc (show c ≤ X by omega)
  obtain ⟨n0, hn0⟩ : ∃ n0, X / 2 ^ r = n0 := ⟨_, rfl⟩
  rw [hn0] at h1 h2
  have hr : r < b + 1 := by
    apply Decidable.byContradiction
    intro hn
    have : 2 ^ (b + 1) ≤ 2 ^ r := Nat.pow_le_pow_right (by omega) (by omega)
    rw [Nat.div_eq_of_lt (by omega)] at hn0
    omega
  have hread0 : readOf b n0 = r := by
    unfold readOf
    rw [← hn0, wd_div, hwX]
    omega
  have key : ∀ n ∈ List.range' c c, (numB b y n = true ↔ (n == n0) = true) := by
    intro n hn
    have hn := List.mem_range'_1.1 hn
    rw [hiff, beq_iff_eq]
    constructor
    · intro he
      have hrn : readOf b n = b + 1 - wd n := rfl
      rcases Nat.lt_trichotomy (readOf b n) r with h | h | h
      · have e : r = readOf b n + 1 + (r - readOf b n - 1) := by omega
        have h3 : X / 2 ^ r ≤ n / 2 := by
          rw [e, Nat.pow_add, Nat.pow_succ, ← Nat.div_div_eq_div_mul, ← Nat.div_div_eq_div_mul, he]
          exact Nat.div_le_self _ _
        omega
      · rw [h, hn0] at he; exact he.symm
      · have e : readOf b n = r + 1 + (readOf b n - r - 1) := by omega
        have h3 : X / 2 ^ readOf b n ≤ n0 / 2 := by
          rw [e, Nat.pow_add, Nat.pow_succ, ← Nat.div_div_eq_div_mul, ← Nat.div_div_eq_div_mul, hn0]
          exact Nat.div_le_self _ _
        omega
    · intro he
      subst he
      rw [hread0, hn0]
  rw [List.countP_congr key, ← List.count_eq_countP, List.Nodup.count List.nodup_range', if_pos (List.mem_range'_1.2 (by omega))]
/-- each state is reached by just one state of a symbol that there is -/
theorem build_hits {zs : List Int} {b s y : Nat} (hc : Counts zs b) (hs : (zs.map rN).sum = 2 ^ b) (hsl : s < zs.length) (hz : zs.getD s 0 ≠ 0) (hy : y < 2 ^ b) : (buildN zs b).countP (hitB s y) = 1 := by
  have hget : (zs.map rN).getD s 0 = rN (zs.getD s 0) := by
    rw [List.getD_eq_getElem?_getD, List.getD_eq_getElem?_getD, List.getElem?_map, List.getElem?_eq_getElem hsl]
    rfl
  have hzs : zs.getD s 0 = zs[s] := by rw [List.getD_eq_getElem?_getD, List.getElem?_eq_getElem hsl]; rfl
  have hl := hc.lim _ (List.getElem_mem hsl)
  have hM := hc.M
  unfold buildN
  rw [hits_bd (nums_of hc hs).lt, hget, spread_count hc hs]
  refine hits_one hy ?_ ?_ <;> unfold rN <;> split <;> omega
theorem build_len {zs : List Int} {b : Nat} (hc : Counts zs b) (hs : (zs.map rN).sum = 2 ^ b) : (buildN zs b).length = 2 ^ b := by
  have : ∀ (syms next : List Nat), (bd b next syms).length = syms.length := by
    intro syms
    induction syms with
    | nil => intro _; rfl
    | cons s r ih => intro next; rw [bd_cons, List.length_cons, List.length_cons, ih]
  unfold buildN
  rw [this, spread_len hc hs]
theorem build_syms {b : Nat} : ∀ (syms next : List Nat), (bd b next syms).map (·.1) = syms
  | [], _ => rfl
  | s :: r, next => by
    rw [bd_cons, List.map_cons, build_syms r]
    rfl
theorem build_count {zs : List Int} {b : Nat} (hc : Counts zs b) (hs : (zs.map rN).sum = 2 ^ b) (s : Nat) : ((buildN zs b).map (·.1)).count s = rN (zs.getD s 0) := by
  unfold buildN
  rw [build_syms, spread_count hc hs]
/-- the states of a table are those of bytes, and of two bytes; what they reach are states -/
theorem build_mem {zs : List Int} {b : Nat} (hc : Counts zs b) (hs : (zs.map rN).sum = 2 ^ b) {x : St} (h : x ∈ buildN zs b) : x.1 < zs.length ∧ x.2.1 ≤ b ∧ 0 ≤ x.2.2 ∧ x.2.2 + ((2 ^ x.2.1 : Nat) : Int) ≤ ((2 ^ b : Nat) : Int) := by
  obtain ⟨n, h1, h2, h3, h4⟩ := bd_mem (nums_of hc hs) h
  obtain ⟨g1, g2, g3, g4⟩ := num_bounds h1 h2
  have hlt := (spread_pos hc hs h4).2
  rw [h3]
  unfold stOf
  dsimp only
  rw [Nat.succ_mul, Nat.pow_succ] at g2
  refine ⟨hlt, by unfold readOf; omega, by omega, by omega⟩
end Go.Proofs.YtgdhdkjbilifiaaDoor
namespace Go.Proofs.YtgdhdkjbilifiaaDoor
open Go Go.Sx
set_option maxRecDepth 100000
/-- the value of a count, and how many bits it takes -/
def cntV (N p left : Nat) : Nat × Nat :=
  if bitsN N p (wd (left + 1) - 1) < 2 ^ wd (left + 1) - 2 - left then (bitsN N p (wd (left + 1) - 1), wd (left + 1) - 1)
  else (if 2 ^ (wd (left + 1) - 1) ≤ bitsN N p (wd (left + 1)) then bitsN N p (wd (left + 1)) - (2 ^ wd (left + 1) - 2 - left) else bitsN N p (wd (left + 1)), wd (left + 1))
theorem wd_around (left : Nat) : 1 ≤ wd (left + 1) ∧ 2 ^ (wd (left + 1) - 1) ≤ left + 1 ∧ left + 1 < 2 ^ wd (left + 1) ∧ 2 ^ wd (left + 1) = 2 * 2 ^ (wd (left + 1) - 1) := by
  obtain ⟨h1, h2⟩ := wd_bounds (show 0 < left + 1 by omega)
  have h3 := wd_pos (show 0 < left + 1 by omega)
  refine ⟨h3, h1, h2, ?_⟩
  conv => lhs; rw [show wd (left + 1) = (wd (left + 1) - 1) + 1 by omega, Nat.pow_succ]
  omega
theorem cntV_le (N p left : Nat) : (cntV N p left).1 ≤ left + 1 ∧ wd (left + 1) - 1 ≤ (cntV N p left).2 ∧ (cntV N p left).2 ≤ wd (left + 1) := by
  obtain ⟨h1, h2, h3, h4⟩ := wd_around left
  have b1 := bitsN_lt N p (wd (left + 1) - 1)
  have b2 := bitsN_lt N p (wd (left + 1))
  unfold cntV
  split
  · dsimp only; omega
  · dsimp only
    split <;> omega
def intV (v : Nat) : Int := (v : Int) - 1
theorem rN_intV {v left : Nat} (h : v ≤ left + 1) (h0 : 0 < left) : rN (intV v) ≤ left ∧ -1 ≤ intV v ∧ intV v ≤ (left : Int) ∧ (intV v ≠ 0 → 0 < rN (intV v)) ∧ (intV v = 0 → rN (intV v) = 0) := by
  unfold rN intV
  split <;> omega
/-- flags of zeros: how many symbols more, and the place behind; none at the end of the data -/
def flags (N L : Nat) : Nat → Nat → Nat → Option (Nat × Nat)
  | 0, _, _ => none
  | f + 1, p, acc => if bitsN N p 2 = 3 then (if p + 18 ≤ 8 * L then flags N L f (p + 2) (acc + 3) else none) else some (acc + bitsN N p 2, p + 2)
def flagsS (N L : Nat) : Nat → Nat → Nat → Option (Nat × Nat)
  | 0, _, _ => none
  | f + 1, p, acc => if 8 * L < p + 2 then none else if bitsN N p 2 = 3 then flagsS N L f (p + 2) (acc + 3) else some (acc + bitsN N p 2, p + 2)
theorem flagsS_flags {N L : Nat} : ∀ {f p acc k p' : Nat}, flagsS N L f p acc = some (k, p') → p' + 32 ≤ 8 * L → p < p' ∧ acc ≤ k ∧ ∀ f2, 8 * L ≤ f2 + p → flags N L f2 p acc = some (k, p')
  | 0, _, _, _, _, h, _ => by cases h
  | f + 1, p, acc, k, p', h, hp => by
    rw [flagsS] at h
    split at h
    · cases h
    · split at h
      · rename_i h3
        obtain ⟨h1, h2, h4⟩ := flagsS_flags h hp
        refine ⟨by omega, by omega, fun f2 hf => ?_⟩
        obtain ⟨f3, rfl⟩ : ∃ f3, f2 = f3 + 1 := ⟨f2 - 1, by omega⟩
        rw [flags, if_pos h3, if_pos (by omega)]
        exact h4 f3 (by omega)
      · rename_i h3
        injection h with h
        injection h with e1 e2
        refine ⟨by omega, by omega, fun f2 hf => ?_⟩
        obtain ⟨f3, rfl⟩ : ∃ f3, f2 = f3 + 1 := ⟨f2 - 1, by omega⟩
        rw [flags, if_neg h3, e1, e2]
/-- six flags at once -/
theorem flags_six {N L f p acc : Nat} (h : bitsN N p 12 = 4095) : flags N L (f + 6) p acc = if p + 28 ≤ 8 * L then flags N L f (p + 12) (acc + 18) else none := by
  have two : ∀ q, q ≤ 5 → bitsN N (p + 2 * q) 2 = 3 := by
    intro q hq
    have e1 := bitsN_shr N p (b := 2 * q) (c := 12) (by omega)
    have e2 := bitsN_low N (p + 2 * q) (b := 2) (c := 12 - 2 * q) (by omega)
    rw [← e2, ← e1, h]
    obtain rfl | rfl | rfl | rfl | rfl | rfl : q = 0 ∨ q = 1 ∨ q = 2 ∨ q = 3 ∨ q = 4 ∨ q = 5 := by omega
    all_goals rfl
  have h0 := two 0 (by omega)
  have h1 := two 1 (by omega)
  have h2 := two 2 (by omega)
  have h3 := two 3 (by omega)
  have h4 := two 4 (by omega)
  have h5 := two 5 (by omega)
  simp only [Nat.mul_zero, Nat.add_zero, Nat.mul_one] at h0 h1
  rw [flags, if_pos h0]
  split
  · rw [flags, if_pos h1]
    split
    · rw [flags, if_pos (by rw [Nat.add_assoc]; exact h2)]
      split
      · rw [flags, if_pos (by rw [Nat.add_assoc, Nat.add_assoc]; exact h3)]
        split
        · rw [flags, if_pos (by rw [Nat.add_assoc, Nat.add_assoc, Nat.add_assoc]; exact h4)]
          split
          · rw [flags, if_pos (by rw [Nat.add_assoc, Nat.add_assoc, Nat.add_assoc, Nat.add_assoc]; exact h5)]
          · rw [if_neg (by omega)]
        · rw [if_neg (by omega)]
      · rw [if_neg (by omega)]
    · rw [if_neg (by omega)]
  · rw [if_neg (by omega)]
/-- the reader: `z`: the count ahead was 0 -/
def rdS (N L most : Nat) : Nat → Bool → Nat → Nat → List Int → Option (List Int × Nat)
  | 0, _, _, _, _ => none
  | f + 1, z, p, left, cs =>
    if left = 0 then some (cs, p)
    else if most < cs.length then none
    else if 8 * L < p + 16 then none
    else if z = true then
      match flags N L (8 * L) p 0 with
      | none => none
      | some (k, p') => if most < cs.length + k then none else rdS N L most f false p' left (cs ++ List.replicate k 0)
    else rdS N L most f (intV (cntV N p left).1 == 0) (p + (cntV N p left).2) (left - rN (intV (cntV N p left).1)) (cs ++ [intV (cntV N p left).1])
inductive Told where
  | right (cs : List Int) (p : Nat)
  | wrong
  | unsaid
/-- the reference -/
def spS (N L most : Nat) : Nat → Nat → Nat → List Int → Told
  | 0, _, _, _ => .unsaid
  | f + 1, p, left, cs =>
    if left = 0 then (if 8 * L < p + 32 then .unsaid else if cs.length ≤ most + 1 then .right cs p else .wrong)
    else if most < cs.length then (if 8 * L < p + 32 then .unsaid else .wrong)
    else if 8 * L < p + (cntV N p left).2 then .unsaid
    else if intV (cntV N p left).1 = 0 then
      match flagsS N L (8 * L) (p + (cntV N p left).2) 0 with
      | none => .unsaid
      | some (k, p') => spS N L most f p' left (cs ++ [0] ++ List.replicate k 0)
    else spS N L most f (p + (cntV N p left).2) (left - rN (intV (cntV N p left).1)) (cs ++ [intV (cntV N p left).1])
theorem spS_room {N L most : Nat} : ∀ {f p left : Nat} {cs : List Int}, spS N L most f p left cs ≠ .unsaid → p + 32 ≤ 8 * L
  | 0, _, _, _, h => by simp [spS] at h
  | f + 1, p, left, cs, h => by
    rw [spS] at h
    split at h
    · split at h
      · exact absurd rfl h
      · omega
    · split at h
      · split at h
        · exact absurd rfl h
        · omega
      · split at h
        · exact absurd rfl h
        · split at h
          · split at h
            · exact absurd rfl h
            · rename_i k p' hk
              have h1 := spS_room h
              have h2 := (flagsS_flags hk h1).1
              omega
          · have := spS_room h
            omega
theorem spS_rdS {N L most : Nat} : ∀ {f p left : Nat} {cs : List Int} (f2 : Nat), 2 * (most + 1 - cs.length) + 1 ≤ f2 → (left = 0 → cs.length ≤ most + 1) → cs.length ≤ most + 1 ∨ 0 < left →
    (∀ cs' p', spS N L most f p left cs = .right cs' p' → rdS N L most f2 false p left cs = some (cs', p')) ∧ (spS N L most f p left cs = .wrong → rdS N L most f2 false p left cs = none)
  | 0, _, _, _, _, _, _, _ => by simp [spS]
  | f + 1, p, left, cs, f2, hf2, hlen, _ => by
    obtain ⟨f3, rfl⟩ : ∃ f3, f2 = f3 + 1 := ⟨f2 - 1, by omega⟩
    by_cases hun : spS N L most (f + 1) p left cs = .unsaid
    · rw [hun]
      exact ⟨fun _ _ h => (by cases h), fun h => by cases h⟩
    have hroom := spS_room hun
    rw [spS] at hun ⊢
    rw [rdS]
    by_cases h0 : left = 0
    · rw [if_pos h0, if_neg (by omega), if_pos (hlen h0), if_pos h0]
      exact ⟨fun cs' p' h => by injection h with e1 e2; rw [e1, e2], fun h => by cases h⟩
    rw [if_neg h0] at hun ⊢
    rw [if_neg h0]
    by_cases h1 : most < cs.length
    · rw [if_pos h1, if_neg (by omega), if_pos h1]
      exact ⟨fun _ _ h => (by cases h), fun _ => rfl⟩
    rw [if_neg h1] at hun ⊢
    rw [if_neg h1, if_neg (show ¬ 8 * L < p + 16 by omega), if_neg (show ¬ (false = true) by simp)]
    by_cases h2 : 8 * L < p + (cntV N p left).2
    · rw [if_pos h2] at hun
      exact absurd rfl hun
    rw [if_neg h2] at hun ⊢
    by_cases h3 : intV (cntV N p left).1 = 0
    · rw [if_pos h3] at hun ⊢
      have hr0 : rN (intV (cntV N p left).1) = 0 := by rw [h3]; rfl
      rw [hr0, Nat.sub_zero, h3]
      obtain ⟨f4, rfl⟩ : ∃ f4, f3 = f4 + 1 := ⟨f3 - 1, by omega⟩
      cases hk : flagsS N L (8 * L) (p + (cntV N p left).2) 0 with
      | none => rw [hk] at hun; exact absurd rfl hun
      | some kp =>
        obtain ⟨k, p'⟩ := kp
        rw [hk] at hun
        simp only at hun ⊢
        have g1 := spS_room hun
        obtain ⟨g2, g3, g4⟩ := flagsS_flags hk g1
        have hfl := g4 (8 * L) (by omega)
        have heq : ((0 : Int) == 0) = true := rfl
        rw [heq, rdS, if_neg h0]
        have hl : (cs ++ [0]).length = cs.length + 1 := by simp
        rw [hl]
        by_cases h4 : most < cs.length + 1 + k
        · -- too many symbols: both refuse
          obtain ⟨f', rfl⟩ | rfl : (∃ f', f = f' + 1) ∨ f = 0 := by
            cases f with
            | zero => exact .inr rfl
            | succ f' => exact .inl ⟨f', rfl⟩
          · have hw : spS N L most (f' + 1) p' left (cs ++ [0] ++ List.replicate k 0) = .wrong := by
              rw [spS, if_neg h0, if_pos (by simp; omega), if_neg (by omega)]
            rw [hw]
            refine ⟨fun _ _ h => (by cases h), fun _ => ?_⟩
            by_cases h5 : most < cs.length + 1
            · rw [if_pos h5]
            · rw [if_neg h5, if_neg (by omega), if_pos rfl, hfl]
              simp only
              rw [if_pos h4]
          · exact absurd rfl hun
        · rw [if_neg (by omega), if_neg (by omega), if_pos rfl, hfl]
          simp only
          rw [if_neg h4]
          exact spS_rdS f4 (by simp; omega) (fun h => absurd h h0) (.inr (by omega))
    · rw [if_neg h3] at hun ⊢
      have hb : (intV (cntV N p left).1 == 0) = false := by simpa using h3
      rw [hb]
      exact spS_rdS f3 (by simp; omega) (fun _ => by simp; omega) (.inl (by simp; omega))
/-! ### What comes of reading -/
theorem rdS_facts {N L most : Nat} : ∀ {f : Nat} {z : Bool} {p left : Nat} {cs cs' : List Int} {p' : Nat}, rdS N L most f z p left cs = some (cs', p') → (left = 0 → cs.length ≤ most + 1) → left ≤ 512 →
    (∀ x ∈ cs, -1 ≤ x) → (∀ x ∈ cs', -1 ≤ x) ∧ cs'.length ≤ most + 1 ∧ (cs'.map rN).sum = (cs.map rN).sum + left ∧ p ≤ p' ∧ (p' ≤ p ∨ p' ≤ 8 * L)
  | 0, _, _, _, _, _, _, h, _, _, _ => by cases h
  | f + 1, z, p, left, cs, cs', p', h, hl, h512, hx => by
    rw [rdS] at h
    split at h
    · rename_i h0
      injection h with h
      injection h with e1 e2
      subst e1 e2
      exact ⟨hx, hl h0, by omega, Nat.le_refl _, .inl (Nat.le_refl _)⟩
    rename_i h0
    split at h
    · cases h
    rename_i h1
    split at h
    · cases h
    rename_i h2
    split at h
    · split at h
      · cases h
      rename_i k p1 hk
      split at h
      · cases h
      rename_i h4
      have hfl : ∀ {f p acc k p1 : Nat}, flags N L f p acc = some (k, p1) → p + 16 ≤ 8 * L → p ≤ p1 ∧ p1 ≤ 8 * L := by
        intro f
        induction f with
        | zero => intro p acc k p1 h _; cases h
        | succ f ih =>
          intro p acc k p1 h hp
          rw [flags] at h
          split at h
          · split at h
            · have := ih h (by omega); omega
            · cases h
          · injection h with h; injection h with _ e; omega
      obtain ⟨g1, g2⟩ := hfl hk (by omega)
      obtain ⟨a1, a2, a3, a4, a5⟩ := rdS_facts h (fun e => absurd e h0) h512 (fun x hx' => by
        rcases List.mem_append.1 hx' with hx' | hx'
        · exact hx x hx'
        · rw [List.eq_of_mem_replicate hx']; omega)
      refine ⟨a1, a2, ?_, by omega, by omega⟩
      have hz : ∀ k, ((List.replicate k (0 : Int)).map rN).sum = 0 := by
        intro k
        induction k with
        | zero => rfl
        | succ k ih => simp only [List.replicate_succ, List.map_cons, List.sum_cons, ih]; rfl
      rw [a3, List.map_append, List.sum_append, hz]
      omega
    · obtain ⟨c1, c2, c3⟩ := cntV_le N p left
      obtain ⟨r1, r2, r3, r4, r5⟩ := rN_intV c1 (by omega)
      obtain ⟨a1, a2, a3, a4, a5⟩ := rdS_facts h (fun _ => by simp; omega) (by omega) (fun x hx' => by
        rcases List.mem_append.1 hx' with hx' | hx'
        · exact hx x hx'
        · rcases List.mem_singleton.1 hx' with rfl
          exact r2)
      refine ⟨a1, a2, ?_, by omega, ?_⟩
      · rw [a3, List.map_append, List.sum_append]
        simp only [List.map_cons, List.map_nil, List.sum_cons, List.sum_nil]
        omega
      · have hw : wd (left + 1) ≤ 10 := wd_lt (by omega)
        omega
end Go.Proofs.YtgdhdkjbilifiaaDoor
