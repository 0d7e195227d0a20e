/- How the states of a table are laid out: the model of the reference. Plain; no program. The reference's table of states. The reference's table of states: spec.Build. Counts that fill a table: spec.Fills. -/
import Derived.Test.YtgdhdkjbilifiaaDoorSize
import Derived.Test.YtgdhdkjbilifiaaDoorWidth
import Derived.Test.YtgdhdkjbilifiaaDoorOpen
import Derived.Test.YtgdhdkjbilifiaaDoorOwn
namespace Go.Sx
open Go
/-- on to the next place that is free -/
def skip (M step high : Nat) : Nat → Nat → Nat
  | 0, a => a
  | f + 1, a => if high ≤ a ∧ 0 < a then skip M step high f ((a + step) % M) else a
/-- so many steps lead to place 0 -/
def Back (M step a k : Nat) : Prop := a < M ∧ (a + k * step) % M = 0
theorem Back.next {M step a k : Nat} (h : Back M step a (k + 1)) : Back M step ((a + step) % M) k := by
  refine ⟨Nat.mod_lt _ (by have := h.1; omega), ?_⟩
  rw [Nat.mod_add_mod, ← h.2, Nat.succ_mul]
  congr 1
  omega
theorem Back.pos {M step a : Nat} (h : Back M step a 0) : a = 0 := by
  have := h.2
  rw [Nat.zero_mul, Nat.add_zero, Nat.mod_eq_of_lt h.1] at this
  exact this
theorem skip_zero (M step high : Nat) : ∀ f, skip M step high f 0 = 0
  | 0 => rfl
  | f + 1 => by rw [skip, if_neg (by omega)]
theorem skip_same {M step high : Nat} : ∀ {k a f : Nat}, Back M step a k → k ≤ f → skip M step high f a = skip M step high k a
  | 0, a, f, h, _ => by rw [h.pos, skip_zero, skip_zero]
  | k + 1, a, 0, _, h => by omega
  | k + 1, a, f + 1, h, hf => by
    rw [skip, skip]
    split
    · exact skip_same h.next (by omega)
    · rfl
theorem skip_lt {M step high : Nat} (hM : 0 < M) : ∀ {f a : Nat}, a < M → skip M step high f a < M
  | 0, a, h => h
  | f + 1, a, h => by
    rw [skip]
    split
    · exact skip_lt hM (Nat.mod_lt _ hM)
    · exact h
/-- a place is reached by some number of steps from 0 -/
def Reach (M step a : Nat) : Prop := ∃ j, a = j * step % M
theorem Reach.zero (M step : Nat) : Reach M step 0 := ⟨0, by simp⟩
theorem Reach.next {M step a : Nat} (h : Reach M step a) : Reach M step ((a + step) % M) := by
  obtain ⟨j, rfl⟩ := h
  exact ⟨j + 1, by rw [Nat.mod_add_mod, Nat.succ_mul]⟩
theorem Reach.skip {M step high : Nat} : ∀ {f a : Nat}, Reach M step a → Reach M step (skip M step high f a)
  | 0, a, h => h
  | f + 1, a, h => by
    rw [Sx.skip]
    split
    · exact Reach.skip h.next
    · exact h
theorem Reach.back {M step a : Nat} (hM : 0 < M) (h : Reach M step a) : ∃ k, k ≤ M ∧ Back M step a k := by
  obtain ⟨j, rfl⟩ := h
  refine ⟨M - j % M, Nat.sub_le _ _, Nat.mod_lt _ hM, ?_⟩
  rw [Nat.mod_add_mod, ← Nat.add_mul]
  have hj := Nat.mod_lt j hM
  have e : j + (M - j % M) = M * (j / M + 1) := by
    have := Nat.div_add_mod j M
    rw [Nat.mul_add, Nat.mul_one]
    omega
  rw [e, Nat.mul_assoc]
  exact Nat.mul_mod_right _ _
/-- symbols with -1 from the end on -/
def sp1 (s : Nat) (syms : List Nat) (high : Nat) : List Int → List Nat × Nat
  | [] => (syms, high)
  | n :: r => if n = -1 then sp1 (s + 1) (syms.set (high - 1) s) (high - 1) r else sp1 (s + 1) syms high r
def negs : List Int → Nat
  | [] => 0
  | n :: r => if n = -1 then negs r + 1 else negs r
def put1 (M step high s : Nat) (st : List Nat × Nat) : List Nat × Nat := (st.1.set st.2 s, skip M step high M ((st.2 + step) % M))
def putN (M step high s : Nat) : Nat → List Nat × Nat → List Nat × Nat
  | 0, st => st
  | k + 1, st => putN M step high s k (put1 M step high s st)
def sp2 (M step high : Nat) (s : Nat) (st : List Nat × Nat) : List Int → List Nat × Nat
  | [] => st
  | n :: r => sp2 M step high (s + 1) (putN M step high s n.toNat st) r
def stepOf (M : Nat) : Nat := M / 2 + M / 8 + 3
def spreadN (counts : List Int) (bits : Nat) : List Nat :=
  (sp2 (2 ^ bits) (stepOf (2 ^ bits)) (sp1 0 (List.replicate (2 ^ bits) 0) (2 ^ bits) counts).2 0 ((sp1 0 (List.replicate (2 ^ bits) 0) (2 ^ bits) counts).1, 0) counts).1
theorem sp1_facts {N : Nat} : ∀ {counts : List Int} {s : Nat} {syms : List Nat} {high : Nat}, negs counts ≤ high → high ≤ syms.length → s + counts.length ≤ N → (∀ x ∈ syms, x < N) →
    (sp1 s syms high counts).1.length = syms.length ∧ (sp1 s syms high counts).2 + negs counts = high ∧ ∀ x ∈ (sp1 s syms high counts).1, x < N
  | [], s, syms, high, _, _, _, h => ⟨rfl, by simp [sp1, negs], h⟩
  | n :: r, s, syms, high, h1, h2, h3, h4 => by
    simp only [negs, List.length_cons] at h1 h3
    simp only [sp1, negs]
    split
    · rename_i hn
      rw [if_pos hn] at h1
      have := sp1_facts (N := N) (counts := r) (s := s + 1) (syms := syms.set (high - 1) s) (high := high - 1) (by omega) (by rw [List.length_set]; omega) (by omega) (fun x hx => by
        rcases List.mem_or_eq_of_mem_set hx with hx | hx
        · exact h4 x hx
        · omega)
      rw [List.length_set] at this
      exact ⟨this.1, by omega, this.2.2⟩
    · rename_i hn
      rw [if_neg hn] at h1
      have := sp1_facts (N := N) (counts := r) (s := s + 1) (syms := syms) (high := high) h1 h2 (by omega) h4
      exact ⟨this.1, by omega, this.2.2⟩
/-- what stays true of the states that are laid -/
structure Laying (M step N : Nat) (st : List Nat × Nat) : Prop where
  len : st.1.length = M
  lt : st.2 < M
  re : Reach M step st.2
  sy : ∀ x ∈ st.1, x < N
theorem Laying.put1 {M step high N s : Nat} {st : List Nat × Nat} (h : Laying M step N st) (hs : s < N) : Laying M step N (put1 M step high s st) := by
  have hM : 0 < M := by have := h.lt; omega
  refine ⟨by simp [Sx.put1, h.len], skip_lt hM (Nat.mod_lt _ hM), Reach.skip h.re.next, fun x hx => ?_⟩
  rcases List.mem_or_eq_of_mem_set hx with hx | hx
  · exact h.sy x hx
  · omega
theorem Laying.putN {M step high N s : Nat} (hs : s < N) : ∀ {k : Nat} {st : List Nat × Nat}, Laying M step N st → Laying M step N (putN M step high s k st)
  | 0, _, h => h
  | k + 1, st, h => by
    show Laying M step N (Sx.putN M step high s k (Sx.put1 M step high s st))
    exact Laying.putN hs (h.put1 hs)
end Go.Sx
namespace Go.Proofs.YtgdhdkjbilifiaaDoor
open Go Go.Sx
set_option maxRecDepth 100000
abbrev vN (n : Nat) : Value := vI (n : Int)
/-- counts of a table -/
structure Counts (zs : List Int) (b : Nat) : Prop where
  b5 : 5 ≤ b
  b9 : b ≤ 9
  len : zs.length ≤ 256
  lim : ∀ z ∈ zs, -1 ≤ z ∧ z ≤ ((2 ^ b : Nat) : Int)
  neg : negs zs ≤ 2 ^ b
theorem Counts.M {zs : List Int} {b : Nat} (h : Counts zs b) : 32 ≤ 2 ^ b ∧ 2 ^ b ≤ 512 := by
  have h1 : 2 ^ 5 ≤ 2 ^ b := Nat.pow_le_pow_right (by omega) h.b5
  have h2 : 2 ^ b ≤ 2 ^ 9 := Nat.pow_le_pow_right (by omega) h.b9
  omega
def roomN (z : Int) : Int := if z = -1 then 1 else z
theorem room_spec (z : Int) : FnS Tryd.prog 62 [vI z] [] (fun _ => True) (Is (vI (roomN z))) := by
  refine FnS.intro Tryd.func62 rfl (by kernel_rfl) rfl fun w hH _ => ?_
  (conv => whnf); repeat ((first | refine RngK.mk (by omega) (by omega) ?_ | refine NzK.mk (by omega) ?_ | refine NnK.mk (by omega) ?_ | refine BdK.mk (by omega) (by omega) (by omega) ?_ | refine InsK.lit (by omega) (by omega) ?_ | refine SpK.lit ?_ | refine GrdK.same ?_ | refine GrdK.tf ?_ | refine GrdK.ft ?_ | refine PickK.t ?_ | refine PickK.f ?_); (conv => whnf))
  refine Wp.cond rfl (fun h => ?_) (fun h => ?_)
  · have h := eqT h
    (conv => whnf); repeat ((first | refine RngK.mk (by omega) (by omega) ?_ | refine NzK.mk (by omega) ?_ | refine NnK.mk (by omega) ?_ | refine BdK.mk (by omega) (by omega) (by omega) ?_ | refine InsK.lit (by omega) (by omega) ?_ | refine SpK.lit ?_ | refine GrdK.same ?_ | refine GrdK.tf ?_ | refine GrdK.ft ?_ | refine PickK.t ?_ | refine PickK.f ?_); (conv => whnf))
    exact ⟨by rw [roomN, if_pos h], rfl⟩
  · have h := eqF h
    (conv => whnf); repeat ((first | refine RngK.mk (by omega) (by omega) ?_ | refine NzK.mk (by omega) ?_ | refine NnK.mk (by omega) ?_ | refine BdK.mk (by omega) (by omega) (by omega) ?_ | refine InsK.lit (by omega) (by omega) ?_ | refine SpK.lit ?_ | refine GrdK.same ?_ | refine GrdK.tf ?_ | refine GrdK.ft ?_ | refine PickK.t ?_ | refine PickK.f ?_); (conv => whnf))
    exact ⟨by rw [roomN, if_neg h], rfl⟩
theorem spread_spec (A : Option Addr) (n c b : Nat) (zs : List Int) (hc : Counts zs b) :
    FnS Tryd.prog 63 [.slice A n c, vN b] [] (fun w => Rd w (blocks []) A n 1 (zs.map vI))
      (fun v H => ∃ A1 c1, v = .slice A1 (2 ^ b) c1 ∧ H = [.own A1 (2 ^ b) c1 3 1 ((spreadN zs b).map vN)] ∧ (spreadN zs b).length = 2 ^ b ∧ ∀ x ∈ spreadN zs b, x < max 1 n) := by
  refine FnS.introD Tryd.func63 rfl (by kernel_rfl) rfl fun w hH hp => ?_
  obtain ⟨b5, b9, hlen, hlim, hneg⟩ := hc
  obtain ⟨hM1, hM2⟩ := Counts.M ⟨b5, b9, hlen, hlim, hneg⟩
  obtain rfl : zs.length = n := by simpa using hp.len
  have e0 : ishl .i64 1 (b : Int) = ((2 ^ b : Nat) : Int) := by
    have := ishl_i64 (x := 1) (n := b) (by omega) (by omega)
    rw [Nat.one_mul] at this
    exact this
  unfold spreadN
  generalize 2 ^ b = M at *
  obtain ⟨F1, hF1⟩ : ∃ F1, sp1 0 (List.replicate M 0) M zs = F1 := ⟨_, rfl⟩
  have hfacts := sp1_facts (N := max 1 zs.length) (counts := zs) (s := 0) (syms := List.replicate M 0) (high := M) hneg (by simp) (by omega) (fun x hx => by rw [List.eq_of_mem_replicate hx]; omega)
  rw [hF1, List.length_replicate] at hfacts
  rw [hF1]
  (conv => whnf); repeat ((first | refine RngK.mk (by omega) (by omega) ?_ | refine NzK.mk (by omega) ?_ | refine NnK.mk (by omega) ?_ | refine BdK.mk (by omega) (by omega) (by omega) ?_ | refine InsK.lit (by omega) (by omega) ?_ | refine SpK.lit ?_ | refine GrdK.same ?_ | refine GrdK.tf ?_ | refine GrdK.ft ?_ | refine PickK.t ?_ | refine PickK.f ?_); (conv => whnf))
  rw [e0]
  (conv => whnf); repeat ((first | refine RngK.mk (by omega) (by omega) ?_ | refine NzK.mk (by omega) ?_ | refine NnK.mk (by omega) ?_ | refine BdK.mk (by omega) (by omega) (by omega) ?_ | refine InsK.lit (by omega) (by omega) ?_ | refine SpK.lit ?_ | refine GrdK.same ?_ | refine GrdK.tf ?_ | refine GrdK.ft ?_ | refine PickK.t ?_ | refine PickK.f ?_); (conv => whnf))
  refine EffK.made1 M rfl rfl rfl rfl rfl rfl (by show 8 * _ ≤ _; omega) (by simp [maxLen]; omega) fun b2 => ?_
  (conv => whnf); repeat ((first | refine RngK.mk (by omega) (by omega) ?_ | refine NzK.mk (by omega) ?_ | refine NnK.mk (by omega) ?_ | refine BdK.mk (by omega) (by omega) (by omega) ?_ | refine InsK.lit (by omega) (by omega) ?_ | refine SpK.lit ?_ | refine GrdK.same ?_ | refine GrdK.tf ?_ | refine GrdK.ft ?_ | refine PickK.t ?_ | refine PickK.f ?_); (conv => whnf))
  refine Wp.cutEx 0 (fun _ : Unit => [(0, .slice A zs.length c), (5, vN M), (6, .slice (some ⟨b2, 0, none⟩) M M), (7, vN F1.2)]) (fun _ => [.own (some ⟨b2, 0, none⟩) M M 3 1 (F1.1.map vN)]) (fun _ => True) ?_ fun _ _ => ?_
  · refine Wp.loop (fun t : Nat × List Nat × Nat => [(0, .slice A zs.length c), (20, .slice A zs.length c), (21, vN zs.length), (22, vN t.1), (5, vN M), (6, .slice (some ⟨b2, 0, none⟩) M M), (7, vN t.2.2)])
      (fun t => [.own (some ⟨b2, 0, none⟩) M M 3 1 (t.2.1.map vN)]) (fun t => t.1 ≤ zs.length ∧ t.2.1.length = M ∧ t.2.2 ≤ M ∧ negs (zs.drop t.1) ≤ t.2.2 ∧ sp1 t.1 t.2.1 t.2.2 (zs.drop t.1) = F1) (fun t => zs.length - t.1) (0, List.replicate M 0, M)
      ⟨rfl, rfl, rfl, rfl, rfl, rfl, rfl, trivial⟩ ?_ ⟨Nat.zero_le _, by simp, Nat.le_refl _, hneg, hF1⟩ fun ⟨k, syms, high⟩ ⟨hk, hsl, hhm, hng, hF⟩ => ?_
    · dsimp only
      rw [List.map_replicate]
      exact HSub.refl _
    dsimp only at hk hsl hhm hng hF ⊢
    (conv => whnf); repeat ((first | refine RngK.mk (by omega) (by omega) ?_ | refine NzK.mk (by omega) ?_ | refine NnK.mk (by omega) ?_ | refine BdK.mk (by omega) (by omega) (by omega) ?_ | refine InsK.lit (by omega) (by omega) ?_ | refine SpK.lit ?_ | refine GrdK.same ?_ | refine GrdK.tf ?_ | refine GrdK.ft ?_ | refine PickK.t ?_ | refine PickK.f ?_); (conv => whnf))
    refine Wp.cond rfl (fun h => ?_) (fun h => ?_)
    · have h := dT h
      have hk' : k < zs.length := by omega
      rw [drop_at hk', sp1] at hF
      rw [drop_at hk', negs] at hng
      (conv => whnf); repeat ((first | refine RngK.mk (by omega) (by omega) ?_ | refine NzK.mk (by omega) ?_ | refine NnK.mk (by omega) ?_ | refine BdK.mk (by omega) (by omega) (by omega) ?_ | refine InsK.lit (by omega) (by omega) ?_ | refine SpK.lit ?_ | refine GrdK.same ?_ | refine GrdK.tf ?_ | refine GrdK.ft ?_ | refine PickK.t ?_ | refine PickK.f ?_); (conv => whnf))
      refine InsK.rd hp (by omega) (by omega) ?_
      (conv => whnf); repeat ((first | refine RngK.mk (by omega) (by omega) ?_ | refine NzK.mk (by omega) ?_ | refine NnK.mk (by omega) ?_ | refine BdK.mk (by omega) (by omega) (by omega) ?_ | refine InsK.lit (by omega) (by omega) ?_ | refine SpK.lit ?_ | refine GrdK.same ?_ | refine GrdK.tf ?_ | refine GrdK.ft ?_ | refine PickK.t ?_ | refine PickK.f ?_); (conv => whnf))
      refine LdK.rd (v := vI zs[k]) hp k rfl rfl rfl (by simp [hk']) ?_
      (conv => whnf); repeat ((first | refine RngK.mk (by omega) (by omega) ?_ | refine NzK.mk (by omega) ?_ | refine NnK.mk (by omega) ?_ | refine BdK.mk (by omega) (by omega) (by omega) ?_ | refine InsK.lit (by omega) (by omega) ?_ | refine SpK.lit ?_ | refine GrdK.same ?_ | refine GrdK.tf ?_ | refine GrdK.ft ?_ | refine PickK.t ?_ | refine PickK.f ?_); (conv => whnf))
      refine Wp.cond rfl (fun h2 => ?_) (fun h2 => ?_)
      · have h2 := eqT h2
        rw [if_pos h2] at hF hng
        (conv => whnf); repeat ((first | refine RngK.mk (by omega) (by omega) ?_ | refine NzK.mk (by omega) ?_ | refine NnK.mk (by omega) ?_ | refine BdK.mk (by omega) (by omega) (by omega) ?_ | refine InsK.lit (by omega) (by omega) ?_ | refine SpK.lit ?_ | refine GrdK.same ?_ | refine GrdK.tf ?_ | refine GrdK.ft ?_ | refine PickK.t ?_ | refine PickK.f ?_); (conv => whnf))
        have eh : (high : Int) - 1 = ((high - 1 : Nat) : Int) := by omega
        rw [eh]
        (conv => whnf); repeat ((first | refine RngK.mk (by omega) (by omega) ?_ | refine NzK.mk (by omega) ?_ | refine NnK.mk (by omega) ?_ | refine BdK.mk (by omega) (by omega) (by omega) ?_ | refine InsK.lit (by omega) (by omega) ?_ | refine SpK.lit ?_ | refine GrdK.same ?_ | refine GrdK.tf ?_ | refine GrdK.ft ?_ | refine PickK.t ?_ | refine PickK.f ?_); (conv => whnf))
        refine StK.own 0 (high - 1) rfl ⟨b2, rfl⟩ rfl rfl rfl rfl (by simp; omega) ?_
        have es : (syms.map vN).set (high - 1) (Value.int .i64 (k : Int)) = (syms.set (high - 1) k).map vN := by rw [List.map_set]
        rw [es]
        (conv => whnf); repeat ((first | refine RngK.mk (by omega) (by omega) ?_ | refine NzK.mk (by omega) ?_ | refine NnK.mk (by omega) ?_ | refine BdK.mk (by omega) (by omega) (by omega) ?_ | refine InsK.lit (by omega) (by omega) ?_ | refine SpK.lit ?_ | refine GrdK.same ?_ | refine GrdK.tf ?_ | refine GrdK.ft ?_ | refine PickK.t ?_ | refine PickK.f ?_); (conv => whnf))
        exact ⟨(k + 1, syms.set (high - 1) k, high - 1), ⟨rfl, rfl, rfl, rfl, rfl, rfl, rfl, trivial⟩, HSub.refl _, ⟨by simp only; omega, by simp only [List.length_set]; exact hsl, by simp only; omega, by simp only; omega, hF⟩, by simp only; omega⟩
      · have h2 := eqF h2
        rw [if_neg h2] at hF hng
        (conv => whnf); repeat ((first | refine RngK.mk (by omega) (by omega) ?_ | refine NzK.mk (by omega) ?_ | refine NnK.mk (by omega) ?_ | refine BdK.mk (by omega) (by omega) (by omega) ?_ | refine InsK.lit (by omega) (by omega) ?_ | refine SpK.lit ?_ | refine GrdK.same ?_ | refine GrdK.tf ?_ | refine GrdK.ft ?_ | refine PickK.t ?_ | refine PickK.f ?_); (conv => whnf))
        exact ⟨(k + 1, syms, high), ⟨rfl, rfl, rfl, rfl, rfl, rfl, rfl, trivial⟩, HSub.refl _, ⟨by simp only; omega, hsl, hhm, hng, hF⟩, by simp only; omega⟩
    · have h := dF h
      rw [List.drop_of_length_le (by omega), sp1] at hF
      subst hF
      (conv => whnf); repeat ((first | refine RngK.mk (by omega) (by omega) ?_ | refine NzK.mk (by omega) ?_ | refine NnK.mk (by omega) ?_ | refine BdK.mk (by omega) (by omega) (by omega) ?_ | refine InsK.lit (by omega) (by omega) ?_ | refine SpK.lit ?_ | refine GrdK.same ?_ | refine GrdK.tf ?_ | refine GrdK.ft ?_ | refine PickK.t ?_ | refine PickK.f ?_); (conv => whnf))
      exact ⟨(), ⟨rfl, rfl, rfl, rfl, trivial⟩, HSub.refl _, trivial⟩
  · have e1 : ishr .i64 (M : Int) 1 = ((M / 2 : Nat) : Int) := ishr_nat .i64 M (n := 1) (by decide)
    have e3 : ishr .i64 (M : Int) 3 = ((M / 8 : Nat) : Int) := ishr_nat .i64 M (n := 3) (by decide)
    (conv => whnf); repeat ((first | refine RngK.mk (by omega) (by omega) ?_ | refine NzK.mk (by omega) ?_ | refine NnK.mk (by omega) ?_ | refine BdK.mk (by omega) (by omega) (by omega) ?_ | refine InsK.lit (by omega) (by omega) ?_ | refine SpK.lit ?_ | refine GrdK.same ?_ | refine GrdK.tf ?_ | refine GrdK.ft ?_ | refine PickK.t ?_ | refine PickK.f ?_); (conv => whnf))
    rw [e1, e3]
    (conv => whnf); repeat ((first | refine RngK.mk (by omega) (by omega) ?_ | refine NzK.mk (by omega) ?_ | refine NnK.mk (by omega) ?_ | refine BdK.mk (by omega) (by omega) (by omega) ?_ | refine InsK.lit (by omega) (by omega) ?_ | refine SpK.lit ?_ | refine GrdK.same ?_ | refine GrdK.tf ?_ | refine GrdK.ft ?_ | refine PickK.t ?_ | refine PickK.f ?_); (conv => whnf))
    obtain ⟨high, hhigh⟩ : ∃ high, F1.2 = high := ⟨_, rfl⟩
    obtain ⟨N, hN⟩ : ∃ N, max 1 zs.length = N := ⟨_, rfl⟩
    obtain ⟨F2, hF2⟩ : ∃ F2, sp2 M (stepOf M) high 0 (F1.1, 0) zs = F2 := ⟨_, rfl⟩
    have hL0 : Laying M (stepOf M) N (F1.1, 0) := ⟨hfacts.1, by simp only; omega, Reach.zero _ _, by rw [← hN]; exact hfacts.2.2⟩
    rw [hhigh, hN, hF2]
    have hstep : ((M / 2 : Nat) : Int) + ((M / 8 : Nat) : Int) + 3 = ((stepOf M : Nat) : Int) := rfl
    rw [hstep]
    have hsb : stepOf M ≤ 1000 := by unfold stepOf; omega
    generalize stepOf M = step at *
    refine Wp.loop (fun t : Nat × List Nat × Nat => [(5, vN M), (6, .slice (some ⟨b2, 0, none⟩) M M), (7, vN high), (10, vN step), (11, vN t.2.2), (42, .slice A zs.length c), (43, vN zs.length), (44, vN t.1)])
      (fun t => [.own (some ⟨b2, 0, none⟩) M M 3 1 (t.2.1.map vN)]) (fun t => t.1 ≤ zs.length ∧ Laying M step N t.2 ∧ sp2 M step high t.1 t.2 (zs.drop t.1) = F2) (fun t => zs.length - t.1) (0, F1.1, 0)
      ⟨rfl, rfl, rfl, rfl, rfl, rfl, rfl, rfl, trivial⟩ (HSub.refl _) ⟨Nat.zero_le _, hL0, hF2⟩ fun ⟨k, st⟩ ⟨hk, hL, hF⟩ => ?_
    dsimp only at hk hL hF ⊢
    (conv => whnf); repeat ((first | refine RngK.mk (by omega) (by omega) ?_ | refine NzK.mk (by omega) ?_ | refine NnK.mk (by omega) ?_ | refine BdK.mk (by omega) (by omega) (by omega) ?_ | refine InsK.lit (by omega) (by omega) ?_ | refine SpK.lit ?_ | refine GrdK.same ?_ | refine GrdK.tf ?_ | refine GrdK.ft ?_ | refine PickK.t ?_ | refine PickK.f ?_); (conv => whnf))
    refine Wp.cond rfl (fun h => ?_) (fun h => ?_)
    · have h := dT h
      have hk' : k < zs.length := by omega
      have hzl := hlim _ (List.getElem_mem hk')
      rw [drop_at hk', sp2] at hF
      (conv => whnf); repeat ((first | refine RngK.mk (by omega) (by omega) ?_ | refine NzK.mk (by omega) ?_ | refine NnK.mk (by omega) ?_ | refine BdK.mk (by omega) (by omega) (by omega) ?_ | refine InsK.lit (by omega) (by omega) ?_ | refine SpK.lit ?_ | refine GrdK.same ?_ | refine GrdK.tf ?_ | refine GrdK.ft ?_ | refine PickK.t ?_ | refine PickK.f ?_); (conv => whnf))
      refine InsK.rd hp (by omega) (by omega) ?_
      (conv => whnf); repeat ((first | refine RngK.mk (by omega) (by omega) ?_ | refine NzK.mk (by omega) ?_ | refine NnK.mk (by omega) ?_ | refine BdK.mk (by omega) (by omega) (by omega) ?_ | refine InsK.lit (by omega) (by omega) ?_ | refine SpK.lit ?_ | refine GrdK.same ?_ | refine GrdK.tf ?_ | refine GrdK.ft ?_ | refine PickK.t ?_ | refine PickK.f ?_); (conv => whnf))
      refine LdK.rd (v := vI zs[k]) hp k rfl rfl rfl (by simp [hk']) ?_
      (conv => whnf); repeat ((first | refine RngK.mk (by omega) (by omega) ?_ | refine NzK.mk (by omega) ?_ | refine NnK.mk (by omega) ?_ | refine BdK.mk (by omega) (by omega) (by omega) ?_ | refine InsK.lit (by omega) (by omega) ?_ | refine SpK.lit ?_ | refine GrdK.same ?_ | refine GrdK.tf ?_ | refine GrdK.ft ?_ | refine PickK.t ?_ | refine PickK.f ?_); (conv => whnf))
      refine Wp.loop (fun t : Nat × List Nat × Nat => [(5, vN M), (6, .slice (some ⟨b2, 0, none⟩) M M), (7, vN high), (10, vN step), (11, vN t.2.2), (42, .slice A zs.length c), (43, vN zs.length), (44, vN k), (12, vN k), (13, vI zs[k]), (14, vN t.1)])
        (fun t => [.own (some ⟨b2, 0, none⟩) M M 3 1 (t.2.1.map vN)]) (fun t => t.1 ≤ 1000 ∧ Laying M step N t.2 ∧ sp2 M step high (k + 1) (putN M step high k (zs[k].toNat - t.1) t.2) (zs.drop (k + 1)) = F2) (fun t => zs[k].toNat - t.1) (0, st)
        ⟨rfl, rfl, rfl, rfl, rfl, rfl, rfl, rfl, rfl, rfl, rfl, trivial⟩ (HSub.refl _) ⟨by simp only; omega, hL, hF⟩ fun ⟨j, st⟩ ⟨hj, hL, hF⟩ => ?_
      dsimp only at hj hL hF ⊢
      have hlt := hL.lt
      (conv => whnf); repeat ((first | refine RngK.mk (by omega) (by omega) ?_ | refine NzK.mk (by omega) ?_ | refine NnK.mk (by omega) ?_ | refine BdK.mk (by omega) (by omega) (by omega) ?_ | refine InsK.lit (by omega) (by omega) ?_ | refine SpK.lit ?_ | refine GrdK.same ?_ | refine GrdK.tf ?_ | refine GrdK.ft ?_ | refine PickK.t ?_ | refine PickK.f ?_); (conv => whnf))
      refine Wp.cond rfl (fun h2 => ?_) (fun h2 => ?_)
      · have h2 := dT h2
        have ej : zs[k].toNat - j = zs[k].toNat - (j + 1) + 1 := by omega
        rw [ej, putN] at hF
        have hL' := hL.put1 (high := high) (s := k) (by omega : k < N)
        unfold put1 at hF hL'
        (conv => whnf); repeat ((first | refine RngK.mk (by omega) (by omega) ?_ | refine NzK.mk (by omega) ?_ | refine NnK.mk (by omega) ?_ | refine BdK.mk (by omega) (by omega) (by omega) ?_ | refine InsK.lit (by omega) (by omega) ?_ | refine SpK.lit ?_ | refine GrdK.same ?_ | refine GrdK.tf ?_ | refine GrdK.ft ?_ | refine PickK.t ?_ | refine PickK.f ?_); (conv => whnf))
        refine StK.own 0 st.2 rfl ⟨b2, rfl⟩ rfl rfl rfl rfl (by simp [hL.len]; omega) ?_
        have es : (st.1.map vN).set st.2 (Value.int .i64 (k : Int)) = (st.1.set st.2 k).map vN := by rw [List.map_set]
        rw [es]
        (conv => whnf); repeat ((first | refine RngK.mk (by omega) (by omega) ?_ | refine NzK.mk (by omega) ?_ | refine NnK.mk (by omega) ?_ | refine BdK.mk (by omega) (by omega) (by omega) ?_ | refine InsK.lit (by omega) (by omega) ?_ | refine SpK.lit ?_ | refine GrdK.same ?_ | refine GrdK.tf ?_ | refine GrdK.ft ?_ | refine PickK.t ?_ | refine PickK.f ?_); (conv => whnf))
        have em : ∀ a : Nat, ((a : Int) + (step : Int)).tmod (M : Int) = (((a + step) % M : Nat) : Int) := fun a => by
          have : (a : Int) + (step : Int) = ((a + step : Nat) : Int) := by omega
          rw [this]
          rfl
        rw [em]
        obtain ⟨kk, hkk, hB⟩ := hL.re.next.back (by omega)
        have hsk := skip_same (high := high) hB hkk
        obtain ⟨T, hT⟩ : ∃ T, skip M step high M ((st.2 + step) % M) = T := ⟨_, rfl⟩
        rw [hT] at hF hL' hsk
        refine Wp.loop (fun t : Nat × Nat => [(5, vN M), (6, .slice (some ⟨b2, 0, none⟩) M M), (7, vN high), (10, vN step), (11, vN t.1), (42, .slice A zs.length c), (43, vN zs.length), (44, vN k), (12, vN k), (13, vI zs[k]), (14, vN j)])
          (fun t => [.own (some ⟨b2, 0, none⟩) M M 3 1 ((st.1.set st.2 k).map vN)]) (fun t => Back M step t.1 t.2 ∧ T = skip M step high t.2 t.1) (fun t => t.2) ((st.2 + step) % M, kk)
          ⟨rfl, rfl, rfl, rfl, rfl, rfl, rfl, rfl, rfl, rfl, rfl, trivial⟩ (HSub.refl _) ⟨hB, hsk⟩ fun ⟨a, kk⟩ ⟨hB, hsk⟩ => ?_
        dsimp only at hB hsk ⊢
        have hab := hB.1
        have hstop : ¬ (high ≤ a ∧ 0 < a) → T = a := fun hn => by
          cases kk with
          | zero => exact hsk
          | succ kk => rw [skip, if_neg hn] at hsk; exact hsk
        (conv => whnf); repeat ((first | refine RngK.mk (by omega) (by omega) ?_ | refine NzK.mk (by omega) ?_ | refine NnK.mk (by omega) ?_ | refine BdK.mk (by omega) (by omega) (by omega) ?_ | refine InsK.lit (by omega) (by omega) ?_ | refine SpK.lit ?_ | refine GrdK.same ?_ | refine GrdK.tf ?_ | refine GrdK.ft ?_ | refine PickK.t ?_ | refine PickK.f ?_); (conv => whnf))
        refine ⟨fun g1 => ?_, fun g1 => ?_⟩
        · have g1 : (a : Int) ≥ (high : Int) := dT g1
          (conv => whnf); repeat ((first | refine RngK.mk (by omega) (by omega) ?_ | refine NzK.mk (by omega) ?_ | refine NnK.mk (by omega) ?_ | refine BdK.mk (by omega) (by omega) (by omega) ?_ | refine InsK.lit (by omega) (by omega) ?_ | refine SpK.lit ?_ | refine GrdK.same ?_ | refine GrdK.tf ?_ | refine GrdK.ft ?_ | refine PickK.t ?_ | refine PickK.f ?_); (conv => whnf))
          refine Wp.cond rfl (fun g2 => ?_) (fun g2 => ?_)
          · have g2 := dT g2
            cases kk with
            | zero => have := hB.pos; omega
            | succ kk =>
              rw [skip, if_pos (by omega)] at hsk
              (conv => whnf); repeat ((first | refine RngK.mk (by omega) (by omega) ?_ | refine NzK.mk (by omega) ?_ | refine NnK.mk (by omega) ?_ | refine BdK.mk (by omega) (by omega) (by omega) ?_ | refine InsK.lit (by omega) (by omega) ?_ | refine SpK.lit ?_ | refine GrdK.same ?_ | refine GrdK.tf ?_ | refine GrdK.ft ?_ | refine PickK.t ?_ | refine PickK.f ?_); (conv => whnf))
              rw [em]
              exact ⟨((a + step) % M, kk), ⟨rfl, rfl, rfl, rfl, rfl, rfl, rfl, rfl, rfl, rfl, rfl, trivial⟩, HSub.refl _, ⟨hB.next, hsk⟩, Nat.lt_succ_self _⟩
          · have g2 := dF g2
            have hTa := hstop (by omega)
            subst hTa
            (conv => whnf); repeat ((first | refine RngK.mk (by omega) (by omega) ?_ | refine NzK.mk (by omega) ?_ | refine NnK.mk (by omega) ?_ | refine BdK.mk (by omega) (by omega) (by omega) ?_ | refine InsK.lit (by omega) (by omega) ?_ | refine SpK.lit ?_ | refine GrdK.same ?_ | refine GrdK.tf ?_ | refine GrdK.ft ?_ | refine PickK.t ?_ | refine PickK.f ?_); (conv => whnf))
            exact ⟨(j + 1, st.1.set st.2 k, T), ⟨rfl, rfl, rfl, rfl, rfl, rfl, rfl, rfl, rfl, rfl, rfl, trivial⟩, HSub.refl _, ⟨by simp only; omega, hL', hF⟩, by simp only; omega⟩
        · have g1 : ¬ (a : Int) ≥ (high : Int) := dF g1
          have hTa := hstop (by omega)
          subst hTa
          (conv => whnf); repeat ((first | refine RngK.mk (by omega) (by omega) ?_ | refine NzK.mk (by omega) ?_ | refine NnK.mk (by omega) ?_ | refine BdK.mk (by omega) (by omega) (by omega) ?_ | refine InsK.lit (by omega) (by omega) ?_ | refine SpK.lit ?_ | refine GrdK.same ?_ | refine GrdK.tf ?_ | refine GrdK.ft ?_ | refine PickK.t ?_ | refine PickK.f ?_); (conv => whnf))
          refine Wp.cond rfl (fun h => by cases h) (fun _ => ?_)
          (conv => whnf); repeat ((first | refine RngK.mk (by omega) (by omega) ?_ | refine NzK.mk (by omega) ?_ | refine NnK.mk (by omega) ?_ | refine BdK.mk (by omega) (by omega) (by omega) ?_ | refine InsK.lit (by omega) (by omega) ?_ | refine SpK.lit ?_ | refine GrdK.same ?_ | refine GrdK.tf ?_ | refine GrdK.ft ?_ | refine PickK.t ?_ | refine PickK.f ?_); (conv => whnf))
          exact ⟨(j + 1, st.1.set st.2 k, T), ⟨rfl, rfl, rfl, rfl, rfl, rfl, rfl, rfl, rfl, rfl, rfl, trivial⟩, HSub.refl _, ⟨by simp only; omega, hL', hF⟩, by simp only; omega⟩
      · have h2 := dF h2
        have ej : zs[k].toNat - j = 0 := by omega
        rw [ej, putN] at hF
        (conv => whnf); repeat ((first | refine RngK.mk (by omega) (by omega) ?_ | refine NzK.mk (by omega) ?_ | refine NnK.mk (by omega) ?_ | refine BdK.mk (by omega) (by omega) (by omega) ?_ | refine InsK.lit (by omega) (by omega) ?_ | refine SpK.lit ?_ | refine GrdK.same ?_ | refine GrdK.tf ?_ | refine GrdK.ft ?_ | refine PickK.t ?_ | refine PickK.f ?_); (conv => whnf))
        exact ⟨(k + 1, st), ⟨rfl, rfl, rfl, rfl, rfl, rfl, rfl, rfl, trivial⟩, HSub.refl _, ⟨by simp only; omega, hL, hF⟩, by simp only; omega⟩
    · have h := dF h
      rw [List.drop_of_length_le (by omega), sp2] at hF
      subst hF
      (conv => whnf); repeat ((first | refine RngK.mk (by omega) (by omega) ?_ | refine NzK.mk (by omega) ?_ | refine NnK.mk (by omega) ?_ | refine BdK.mk (by omega) (by omega) (by omega) ?_ | refine InsK.lit (by omega) (by omega) ?_ | refine SpK.lit ?_ | refine GrdK.same ?_ | refine GrdK.tf ?_ | refine GrdK.ft ?_ | refine PickK.t ?_ | refine PickK.f ?_); (conv => whnf))
      exact ⟨_, HSub.refl _, some ⟨b2, 0, none⟩, M, rfl, rfl, hL.len, hL.sy⟩
end Go.Proofs.YtgdhdkjbilifiaaDoor
namespace Go.Proofs.YtgdhdkjbilifiaaDoor
open Go Go.Sx
set_option maxRecDepth 100000
theorem take_set_self {α : Type} : ∀ {l : List α} {k : Nat} {v : α}, k < l.length → (l.set k v).take (k + 1) = l.take k ++ [v]
  | _ :: _, 0, _, _ => rfl
  | x :: l, k + 1, v, h => by
    have := take_set_self (l := l) (k := k) (v := v) (by simpa using h)
    simp only [List.set_cons_succ, List.take_succ_cons, this, List.cons_append]
def rN (z : Int) : Nat := if z = -1 then 1 else z.toNat
abbrev St := Nat × Nat × Int
def stCells (x : St) : List Value := [vN x.1, vN x.2.1, vI x.2.2]
def readOf (b n : Nat) : Nat := b + 1 - wd n
def bd (b : Nat) : List Nat → List Nat → List St
  | _, [] => []
  | next, s :: r => (s, readOf b (next.getD s 0), ((next.getD s 0 * 2 ^ readOf b (next.getD s 0) : Nat) : Int) - ((2 ^ b : Nat) : Int)) :: bd b (next.set s (next.getD s 0 + 1)) r
def buildN (zs : List Int) (b : Nat) : List St := bd b (zs.map rN) (spreadN zs b)
abbrev OwnS (T : TypeId) (l : List St) (A : Option Addr) (cap : Nat) : Chunk := .own A l.length cap T 3 (l.flatMap stCells)
theorem ownS_snoc (T : TypeId) (l : List St) (x : St) (A : Option Addr) (cap : Nat) : OwnS T (l ++ [x]) A cap = .own A (l.length + 1) cap T 3 (l.flatMap stCells ++ stCells x) := by
  simp [OwnS, List.flatMap_append]
theorem build_spec (A : Option Addr) (n c b : Nat) (zs : List Int) (hc : Counts zs b) (h1 : 1 ≤ n) :
    FnS Tryd.prog 51 [.slice A n c, vN b] [] (fun w => Rd w (blocks []) A n 1 (zs.map vI))
      (fun v H => ∃ A1 c1, v = .slice A1 (buildN zs b).length c1 ∧ H = [OwnS 89 (buildN zs b) A1 c1]) := by
  refine FnS.introD Tryd.func51 rfl (by kernel_rfl) rfl fun w hH hp => ?_
  obtain ⟨hM1, hM2⟩ := hc.M
  obtain rfl : zs.length = n := by simpa using hp.len
  have hlen := hc.len
  have hlim := hc.lim
  have b5 := hc.b5
  have b9 := hc.b9
  (conv => whnf); repeat ((first | refine RngK.mk (by omega) (by omega) ?_ | refine NzK.mk (by omega) ?_ | refine NnK.mk (by omega) ?_ | refine BdK.mk (by omega) (by omega) (by omega) ?_ | refine InsK.lit (by omega) (by omega) ?_ | refine SpK.lit ?_ | refine GrdK.same ?_ | refine GrdK.tf ?_ | refine GrdK.ft ?_ | refine PickK.t ?_ | refine PickK.f ?_); (conv => whnf))
  refine EffK.made1 zs.length rfl rfl rfl rfl rfl rfl (by show 8 * _ ≤ _; omega) (by simp [maxLen]; omega) fun b1 => ?_
  (conv => whnf); repeat ((first | refine RngK.mk (by omega) (by omega) ?_ | refine NzK.mk (by omega) ?_ | refine NnK.mk (by omega) ?_ | refine BdK.mk (by omega) (by omega) (by omega) ?_ | refine InsK.lit (by omega) (by omega) ?_ | refine SpK.lit ?_ | refine GrdK.same ?_ | refine GrdK.tf ?_ | refine GrdK.ft ?_ | refine PickK.t ?_ | refine PickK.f ?_); (conv => whnf))
  refine Wp.cutEx 0 (fun _ : Unit => [(0, .slice A zs.length c), (1, vN b), (5, .slice (some ⟨b1, 0, none⟩) zs.length zs.length)]) (fun _ => [.own (some ⟨b1, 0, none⟩) zs.length zs.length 3 1 ((zs.map rN).map vN)]) (fun _ => True) ?_ fun _ _ => ?_
  · refine Wp.loop (fun t : Nat × List Nat => [(0, .slice A zs.length c), (1, vN b), (16, .slice A zs.length c), (17, vN zs.length), (18, vN t.1), (5, .slice (some ⟨b1, 0, none⟩) zs.length zs.length)])
      (fun t => [.own (some ⟨b1, 0, none⟩) zs.length zs.length 3 1 (t.2.map vN)]) (fun t => t.1 ≤ zs.length ∧ t.2.length = zs.length ∧ t.2.take t.1 = (zs.map rN).take t.1) (fun t => zs.length - t.1) (0, List.replicate zs.length 0)
      ⟨rfl, rfl, rfl, rfl, rfl, rfl, trivial⟩ ?_ ⟨Nat.zero_le _, by simp, by simp⟩ fun ⟨k, nx⟩ ⟨hk, hnl, htk⟩ => ?_
    · dsimp only
      rw [List.map_replicate]
      exact HSub.refl _
    dsimp only at hk hnl htk ⊢
    (conv => whnf); repeat ((first | refine RngK.mk (by omega) (by omega) ?_ | refine NzK.mk (by omega) ?_ | refine NnK.mk (by omega) ?_ | refine BdK.mk (by omega) (by omega) (by omega) ?_ | refine InsK.lit (by omega) (by omega) ?_ | refine SpK.lit ?_ | refine GrdK.same ?_ | refine GrdK.tf ?_ | refine GrdK.ft ?_ | refine PickK.t ?_ | refine PickK.f ?_); (conv => whnf))
    refine Wp.cond rfl (fun h => ?_) (fun h => ?_)
    · have h := dT h
      have hk' : k < zs.length := by omega
      have hzl := hlim _ (List.getElem_mem hk')
      (conv => whnf); repeat ((first | refine RngK.mk (by omega) (by omega) ?_ | refine NzK.mk (by omega) ?_ | refine NnK.mk (by omega) ?_ | refine BdK.mk (by omega) (by omega) (by omega) ?_ | refine InsK.lit (by omega) (by omega) ?_ | refine SpK.lit ?_ | refine GrdK.same ?_ | refine GrdK.tf ?_ | refine GrdK.ft ?_ | refine PickK.t ?_ | refine PickK.f ?_); (conv => whnf))
      refine InsK.rd hp (by omega) (by omega) ?_
      (conv => whnf); repeat ((first | refine RngK.mk (by omega) (by omega) ?_ | refine NzK.mk (by omega) ?_ | refine NnK.mk (by omega) ?_ | refine BdK.mk (by omega) (by omega) (by omega) ?_ | refine InsK.lit (by omega) (by omega) ?_ | refine SpK.lit ?_ | refine GrdK.same ?_ | refine GrdK.tf ?_ | refine GrdK.ft ?_ | refine PickK.t ?_ | refine PickK.f ?_); (conv => whnf))
      refine LdK.rd (v := vI zs[k]) hp k rfl rfl rfl (by simp [hk']) ?_
      (conv => whnf); repeat ((first | refine RngK.mk (by omega) (by omega) ?_ | refine NzK.mk (by omega) ?_ | refine NnK.mk (by omega) ?_ | refine BdK.mk (by omega) (by omega) (by omega) ?_ | refine InsK.lit (by omega) (by omega) ?_ | refine SpK.lit ?_ | refine GrdK.same ?_ | refine GrdK.tf ?_ | refine GrdK.ft ?_ | refine PickK.t ?_ | refine PickK.f ?_); (conv => whnf))
      refine CallK.of0 (room_spec zs[k]) ?_
      rintro _ _ ⟨rfl, rfl⟩
      have er : roomN zs[k] = ((rN zs[k] : Nat) : Int) := by
        unfold roomN rN
        split <;> omega
      rw [er]
      (conv => whnf); repeat ((first | refine RngK.mk (by omega) (by omega) ?_ | refine NzK.mk (by omega) ?_ | refine NnK.mk (by omega) ?_ | refine BdK.mk (by omega) (by omega) (by omega) ?_ | refine InsK.lit (by omega) (by omega) ?_ | refine SpK.lit ?_ | refine GrdK.same ?_ | refine GrdK.tf ?_ | refine GrdK.ft ?_ | refine PickK.t ?_ | refine PickK.f ?_); (conv => whnf))
      refine StK.own 0 k rfl ⟨b1, rfl⟩ rfl rfl rfl rfl (by simp; omega) ?_
      have es : (nx.map vN).set k (Value.int .i64 ((rN zs[k] : Nat) : Int)) = (nx.set k (rN zs[k])).map vN := by rw [List.map_set]
      rw [es]
      (conv => whnf); repeat ((first | refine RngK.mk (by omega) (by omega) ?_ | refine NzK.mk (by omega) ?_ | refine NnK.mk (by omega) ?_ | refine BdK.mk (by omega) (by omega) (by omega) ?_ | refine InsK.lit (by omega) (by omega) ?_ | refine SpK.lit ?_ | refine GrdK.same ?_ | refine GrdK.tf ?_ | refine GrdK.ft ?_ | refine PickK.t ?_ | refine PickK.f ?_); (conv => whnf))
      refine ⟨(k + 1, nx.set k (rN zs[k])), ⟨rfl, rfl, rfl, rfl, rfl, rfl, trivial⟩, HSub.refl _, ⟨by simp only; omega, by simp only [List.length_set]; exact hnl, ?_⟩, by simp only; omega⟩
      dsimp only
      rw [take_set_self (by omega), htk, List.take_succ_eq_append_getElem (by simpa using hk')]
      simp
    · have h := dF h
      have hkn : k = zs.length := by omega
      subst hkn
      rw [List.take_of_length_le (by omega), List.take_of_length_le (by simp)] at htk
      subst htk
      (conv => whnf); repeat ((first | refine RngK.mk (by omega) (by omega) ?_ | refine NzK.mk (by omega) ?_ | refine NnK.mk (by omega) ?_ | refine BdK.mk (by omega) (by omega) (by omega) ?_ | refine InsK.lit (by omega) (by omega) ?_ | refine SpK.lit ?_ | refine GrdK.same ?_ | refine GrdK.tf ?_ | refine GrdK.ft ?_ | refine PickK.t ?_ | refine PickK.f ?_); (conv => whnf))
      exact ⟨(), ⟨rfl, rfl, rfl, trivial⟩, HSub.refl _, trivial⟩
  · (conv => whnf); repeat ((first | refine RngK.mk (by omega) (by omega) ?_ | refine NzK.mk (by omega) ?_ | refine NnK.mk (by omega) ?_ | refine BdK.mk (by omega) (by omega) (by omega) ?_ | refine InsK.lit (by omega) (by omega) ?_ | refine SpK.lit ?_ | refine GrdK.same ?_ | refine GrdK.tf ?_ | refine GrdK.ft ?_ | refine PickK.t ?_ | refine PickK.f ?_); (conv => whnf))
    refine EffK.lit0 rfl rfl fun b2 => ?_
    (conv => whnf); repeat ((first | refine RngK.mk (by omega) (by omega) ?_ | refine NzK.mk (by omega) ?_ | refine NnK.mk (by omega) ?_ | refine BdK.mk (by omega) (by omega) (by omega) ?_ | refine InsK.lit (by omega) (by omega) ?_ | refine SpK.lit ?_ | refine GrdK.same ?_ | refine GrdK.tf ?_ | refine GrdK.ft ?_ | refine PickK.t ?_ | refine PickK.f ?_); (conv => whnf))
    refine CallK.ofA [] (spread_spec A zs.length c b zs hc) rfl (fun w hw => hp.pass hw) ?_
    rintro _ _ ⟨A3, c3, rfl, rfl, hsl, hsy⟩ hA3
    have hO3 := hA3 _ _ _ _ _ _ List.mem_cons_self
    clear hA3
    have e1b : ishl .i64 1 (b : Int) = ((2 ^ b : Nat) : Int) := by
      have := ishl_i64 (x := 1) (n := b) (by omega) (by omega)
      rw [Nat.one_mul] at this
      exact this
    obtain ⟨F, hF⟩ : ∃ F, buildN zs b = F := ⟨_, rfl⟩
    have hF' := hF
    unfold buildN at hF'
    have hnl : (zs.map rN).length = zs.length := by simp
    have hnx : ∀ x ∈ zs.map rN, x ≤ 2 ^ b + 0 := fun x hx => by
      obtain ⟨z, hz, rfl⟩ := List.mem_map.1 hx
      have := hlim z hz
      unfold rN
      split <;> omega
    rw [hF]
    have e2b : 2 ^ (b + 1) = 2 ^ b * 2 := Nat.pow_succ _ _
    generalize spreadN zs b = sy at *
    generalize zs.map rN = nx at *
    refine Wp.loop (fun t : Nat × List Nat × List St × Option Addr × Nat => [(1, vN b), (5, .slice (some ⟨b1, 0, none⟩) zs.length zs.length), (32, .slice A3 (2 ^ b) c3), (33, vN (2 ^ b)), (34, vN t.1), (8, .slice t.2.2.2.1 t.2.2.1.length t.2.2.2.2)])
      (fun t => [OwnS 89 t.2.2.1 t.2.2.2.1 t.2.2.2.2, .own (some ⟨b1, 0, none⟩) zs.length zs.length 3 1 (t.2.1.map vN), .own A3 (2 ^ b) c3 3 1 (sy.map vN)])
      (fun t => t.1 ≤ 2 ^ b ∧ t.2.1.length = zs.length ∧ (∀ x ∈ t.2.1, x ≤ 2 ^ b + t.1) ∧ t.2.2.1.length = t.1 ∧ t.2.2.1 ++ bd b t.2.1 (sy.drop t.1) = F) (fun t => 2 ^ b - t.1) (0, nx, [], some ⟨b2, 0, none⟩, 0)
      ⟨rfl, rfl, rfl, rfl, rfl, rfl, trivial⟩ (HSub.of [1, 1, 0] rfl) ⟨Nat.zero_le _, hnl, hnx, rfl, hF'⟩ fun ⟨i, nx, acc, A1, c1⟩ ⟨hi, hnl, hnx, hal, hbd⟩ => ?_
    dsimp only at hi hnl hnx hal hbd ⊢
    (conv => whnf); repeat ((first | refine RngK.mk (by omega) (by omega) ?_ | refine NzK.mk (by omega) ?_ | refine NnK.mk (by omega) ?_ | refine BdK.mk (by omega) (by omega) (by omega) ?_ | refine InsK.lit (by omega) (by omega) ?_ | refine SpK.lit ?_ | refine GrdK.same ?_ | refine GrdK.tf ?_ | refine GrdK.ft ?_ | refine PickK.t ?_ | refine PickK.f ?_); (conv => whnf))
    refine Wp.cond rfl (fun h => ?_) (fun h => ?_)
    · have h := dT h
      have hi' : i < sy.length := by omega
      have hs := hsy _ (List.getElem_mem hi')
      have hs' : sy[i] < nx.length := by omega
      rw [drop_at hi', bd] at hbd
      obtain ⟨s, hse⟩ : ∃ s, sy[i] = s := ⟨_, rfl⟩
      have hgi : (sy.map vN)[i]? = some (vN s) := by simp [hi', hse]
      rw [hse] at hs' hbd
      have hgd : nx.getD s 0 = nx[s] := by simp [List.getD, hs']
      rw [hgd] at hbd
      have hxs := hnx _ (List.getElem_mem hs')
      obtain ⟨m, hm⟩ : ∃ m, nx[s] = m := ⟨_, rfl⟩
      have hgs : (nx.map vN)[s]? = some (vN m) := by simp [hs', hm]
      rw [hm] at hbd hxs
      have hwm : wd m ≤ b + 1 := wd_lt (by omega)
      have hr1 : 2 ^ readOf b m ≤ 2 ^ 10 := Nat.pow_le_pow_right (by omega) (by unfold readOf; omega)
      (conv => whnf); repeat ((first | refine RngK.mk (by omega) (by omega) ?_ | refine NzK.mk (by omega) ?_ | refine NnK.mk (by omega) ?_ | refine BdK.mk (by omega) (by omega) (by omega) ?_ | refine InsK.lit (by omega) (by omega) ?_ | refine SpK.lit ?_ | refine GrdK.same ?_ | refine GrdK.tf ?_ | refine GrdK.ft ?_ | refine PickK.t ?_ | refine PickK.f ?_); (conv => whnf))
      refine InsK.own hO3 (by omega) (by omega) ?_
      (conv => whnf); repeat ((first | refine RngK.mk (by omega) (by omega) ?_ | refine NzK.mk (by omega) ?_ | refine NnK.mk (by omega) ?_ | refine BdK.mk (by omega) (by omega) (by omega) ?_ | refine InsK.lit (by omega) (by omega) ?_ | refine SpK.lit ?_ | refine GrdK.same ?_ | refine GrdK.tf ?_ | refine GrdK.ft ?_ | refine PickK.t ?_ | refine PickK.f ?_); (conv => whnf))
      refine LdK.own 2 i rfl rfl rfl rfl hgi ?_
      (conv => whnf); repeat ((first | refine RngK.mk (by omega) (by omega) ?_ | refine NzK.mk (by omega) ?_ | refine NnK.mk (by omega) ?_ | refine BdK.mk (by omega) (by omega) (by omega) ?_ | refine InsK.lit (by omega) (by omega) ?_ | refine SpK.lit ?_ | refine GrdK.same ?_ | refine GrdK.tf ?_ | refine GrdK.ft ?_ | refine PickK.t ?_ | refine PickK.f ?_); (conv => whnf))
      refine LdK.own 1 s rfl rfl rfl rfl hgs ?_
      (conv => whnf); repeat ((first | refine RngK.mk (by omega) (by omega) ?_ | refine NzK.mk (by omega) ?_ | refine NnK.mk (by omega) ?_ | refine BdK.mk (by omega) (by omega) (by omega) ?_ | refine InsK.lit (by omega) (by omega) ?_ | refine SpK.lit ?_ | refine GrdK.same ?_ | refine GrdK.tf ?_ | refine GrdK.ft ?_ | refine PickK.t ?_ | refine PickK.f ?_); (conv => whnf))
      refine LdK.own 1 s rfl rfl rfl rfl hgs ?_
      (conv => whnf); repeat ((first | refine RngK.mk (by omega) (by omega) ?_ | refine NzK.mk (by omega) ?_ | refine NnK.mk (by omega) ?_ | refine BdK.mk (by omega) (by omega) (by omega) ?_ | refine InsK.lit (by omega) (by omega) ?_ | refine SpK.lit ?_ | refine GrdK.same ?_ | refine GrdK.tf ?_ | refine GrdK.ft ?_ | refine PickK.t ?_ | refine PickK.f ?_); (conv => whnf))
      refine StK.own 1 s rfl ⟨b1, rfl⟩ rfl rfl rfl rfl (by simp; omega) ?_
      have es : (nx.map vN).set s (Value.int .i64 ((m : Int) + 1)) = (nx.set s (m + 1)).map vN := by rw [List.map_set]; rfl
      rw [es]
      (conv => whnf); repeat ((first | refine RngK.mk (by omega) (by omega) ?_ | refine NzK.mk (by omega) ?_ | refine NnK.mk (by omega) ?_ | refine BdK.mk (by omega) (by omega) (by omega) ?_ | refine InsK.lit (by omega) (by omega) ?_ | refine SpK.lit ?_ | refine GrdK.same ?_ | refine GrdK.tf ?_ | refine GrdK.ft ?_ | refine PickK.t ?_ | refine PickK.f ?_); (conv => whnf))
      refine CallK.of0 (width_spec m (by omega)) ?_
      rintro _ _ ⟨rfl, rfl⟩
      (conv => whnf); repeat ((first | refine RngK.mk (by omega) (by omega) ?_ | refine NzK.mk (by omega) ?_ | refine NnK.mk (by omega) ?_ | refine BdK.mk (by omega) (by omega) (by omega) ?_ | refine InsK.lit (by omega) (by omega) ?_ | refine SpK.lit ?_ | refine GrdK.same ?_ | refine GrdK.tf ?_ | refine GrdK.ft ?_ | refine PickK.t ?_ | refine PickK.f ?_); (conv => whnf))
      have er : (b : Int) + 1 - ((wd m : Nat) : Int) = ((readOf b m : Nat) : Int) := by unfold readOf; omega
      rw [er]
      refine DrwK.ord (by kernel_rfl) [0, 1, 2, 3, 4, 5, 6, 7, 8, 9, 10, 11, 12] (by kernel_rfl) ?_; conv => whnf
      (conv => whnf); repeat ((first | refine RngK.mk (by omega) (by omega) ?_ | refine NzK.mk (by omega) ?_ | refine NnK.mk (by omega) ?_ | refine BdK.mk (by omega) (by omega) (by omega) ?_ | refine InsK.lit (by omega) (by omega) ?_ | refine SpK.lit ?_ | refine GrdK.same ?_ | refine GrdK.tf ?_ | refine GrdK.ft ?_ | refine PickK.t ?_ | refine PickK.f ?_); (conv => whnf))
      have hmul : m * 2 ^ readOf b m ≤ 1024 * 2 ^ 10 := Nat.mul_le_mul (by omega) hr1
      have e2 : ishl .i64 (m : Int) ((readOf b m : Nat) : Int) = ((m * 2 ^ readOf b m : Nat) : Int) := ishl_i64 (by unfold readOf; omega) (by omega)
      rw [e2, e1b]
      (conv => whnf); repeat ((first | refine RngK.mk (by omega) (by omega) ?_ | refine NzK.mk (by omega) ?_ | refine NnK.mk (by omega) ?_ | refine BdK.mk (by omega) (by omega) (by omega) ?_ | refine InsK.lit (by omega) (by omega) ?_ | refine SpK.lit ?_ | refine GrdK.same ?_ | refine GrdK.tf ?_ | refine GrdK.ft ?_ | refine PickK.t ?_ | refine PickK.f ?_); (conv => whnf))
      refine ValK.buildS 3 rfl rfl rfl rfl rfl rfl rfl ?_
      (conv => whnf); repeat ((first | refine RngK.mk (by omega) (by omega) ?_ | refine NzK.mk (by omega) ?_ | refine NnK.mk (by omega) ?_ | refine BdK.mk (by omega) (by omega) (by omega) ?_ | refine InsK.lit (by omega) (by omega) ?_ | refine SpK.lit ?_ | refine GrdK.same ?_ | refine GrdK.tf ?_ | refine GrdK.ft ?_ | refine PickK.t ?_ | refine PickK.f ?_); (conv => whnf))
      refine EffK.litN 3 rfl rfl rfl rfl rfl rfl rfl rfl rfl rfl rfl ?_
      (conv => whnf); repeat ((first | refine RngK.mk (by omega) (by omega) ?_ | refine NzK.mk (by omega) ?_ | refine NnK.mk (by omega) ?_ | refine BdK.mk (by omega) (by omega) (by omega) ?_ | refine InsK.lit (by omega) (by omega) ?_ | refine SpK.lit ?_ | refine GrdK.same ?_ | refine GrdK.tf ?_ | refine GrdK.ft ?_ | refine PickK.t ?_ | refine PickK.f ?_); (conv => whnf))
      intro b4
      (conv => whnf); repeat ((first | refine RngK.mk (by omega) (by omega) ?_ | refine NzK.mk (by omega) ?_ | refine NnK.mk (by omega) ?_ | refine BdK.mk (by omega) (by omega) (by omega) ?_ | refine InsK.lit (by omega) (by omega) ?_ | refine SpK.lit ?_ | refine GrdK.same ?_ | refine GrdK.tf ?_ | refine GrdK.ft ?_ | refine PickK.t ?_ | refine PickK.f ?_); (conv => whnf))
      obtain ⟨x, hx⟩ : ∃ x : St, x = (s, readOf b m, ((m * 2 ^ readOf b m : Nat) : Int) - ((2 ^ b : Nat) : Int)) := ⟨_, rfl⟩
      have hcx : [Value.int .i64 (s : Int), Value.int .i64 (readOf b m : Nat), Value.int .i64 (((m * 2 ^ readOf b m : Nat) : Int) - ((2 ^ b : Nat) : Int))] = stCells x := by rw [hx]; rfl
      rw [← hx] at hbd
      refine EffK.append 1 (news := stCells x) rfl rfl rfl rfl rfl rfl rfl rfl (Src.ownW (k := 0) (by rw [hcx]; rfl) rfl) (by intro u hu; simp only [stCells, List.mem_cons, List.not_mem_nil, or_false] at hu; rcases hu with rfl | rfl | rfl <;> rfl) (by simp [maxLen]; omega) (by show (_ + _) * 24 ≤ _; omega) fun A' cap' => ?_
      (conv => whnf); repeat ((first | refine RngK.mk (by omega) (by omega) ?_ | refine NzK.mk (by omega) ?_ | refine NnK.mk (by omega) ?_ | refine BdK.mk (by omega) (by omega) (by omega) ?_ | refine InsK.lit (by omega) (by omega) ?_ | refine SpK.lit ?_ | refine GrdK.same ?_ | refine GrdK.tf ?_ | refine GrdK.ft ?_ | refine PickK.t ?_ | refine PickK.f ?_); (conv => whnf))
      refine ⟨(i + 1, nx.set s (m + 1), acc ++ [x], A', cap'), ⟨rfl, rfl, rfl, rfl, rfl, ?_, trivial⟩, ?_, ⟨by simp only; omega, by simp only [List.length_set]; exact hnl, ?_, by simp only [List.length_append, List.length_singleton]; omega, ?_⟩, by simp only; omega⟩
      · show some _ = some _
        simp
      · dsimp only
        rw [ownS_snoc]
        exact HSub.of [1, 1, 1] rfl
      · dsimp only
        intro y hy
        rcases List.mem_or_eq_of_mem_set hy with hy | hy
        · have := hnx y hy
          omega
        · omega
      · dsimp only
        rw [List.append_assoc]
        exact hbd
    · have h := dF h
      rw [List.drop_of_length_le (by omega), bd, List.append_nil] at hbd
      subst hbd
      (conv => whnf); repeat ((first | refine RngK.mk (by omega) (by omega) ?_ | refine NzK.mk (by omega) ?_ | refine NnK.mk (by omega) ?_ | refine BdK.mk (by omega) (by omega) (by omega) ?_ | refine InsK.lit (by omega) (by omega) ?_ | refine SpK.lit ?_ | refine GrdK.same ?_ | refine GrdK.tf ?_ | refine GrdK.ft ?_ | refine PickK.t ?_ | refine PickK.f ?_); (conv => whnf))
      exact ⟨_, HSub.of [0] rfl, A1, c1, rfl, rfl⟩
end Go.Proofs.YtgdhdkjbilifiaaDoor
namespace Go.Proofs.YtgdhdkjbilifiaaDoor
open Go Go.Sx
set_option maxRecDepth 100000
def fillsL (b : Nat) (sum : Int) : List Int → Bool
  | [] => sum == ((2 ^ b : Nat) : Int)
  | z :: r => if z < -1 ∨ z > ((2 ^ b : Nat) : Int) then false else fillsL b (sum + (rN z : Nat)) r
def fillsN (zs : List Int) (b : Int) : Bool :=
  if b < 5 ∨ b > 9 ∨ zs.length < 1 ∨ zs.length > 256 ∨ zs.getD (zs.length - 1) 0 = 0 then false else fillsL b.toNat 0 zs
theorem fillsL_facts {b : Nat} : ∀ {zs : List Int} {sum : Int}, fillsL b sum zs = true → (∀ z ∈ zs, -1 ≤ z ∧ z ≤ ((2 ^ b : Nat) : Int)) ∧ sum + (((zs.map rN).sum : Nat) : Int) = ((2 ^ b : Nat) : Int)
  | [], sum, h => ⟨fun z hz => (by cases hz), by simpa [fillsL] using h⟩
  | z :: r, sum, h => by
    rw [fillsL] at h
    split at h
    · cases h
    · rename_i hn
      obtain ⟨h1, h2⟩ := fillsL_facts h
      refine ⟨fun y hy => ?_, ?_⟩
      · rcases List.mem_cons.1 hy with rfl | hy
        · omega
        · exact h1 y hy
      · simp only [List.map_cons, List.sum_cons]
        omega
theorem negs_le : ∀ zs : List Int, negs zs ≤ (zs.map rN).sum
  | [] => Nat.le_refl _
  | z :: r => by
    have := negs_le r
    simp only [negs, List.map_cons, List.sum_cons]
    split
    · rename_i h
      have : rN z = 1 := by rw [rN, if_pos h]
      omega
    · omega
theorem fillsN_facts {zs : List Int} {b : Int} (h : fillsN zs b = true) : ∃ b' : Nat, b = (b' : Int) ∧ Counts zs b' ∧ 1 ≤ zs.length ∧ (zs.map rN).sum = 2 ^ b' := by
  unfold fillsN at h
  split at h
  · cases h
  · rename_i hn
    obtain ⟨b', rfl⟩ := Int.eq_ofNat_of_zero_le (show 0 ≤ b by omega)
    have e : ((b' : Nat) : Int).toNat = b' := by omega
    rw [e] at h
    obtain ⟨h1, h2⟩ := fillsL_facts h
    have h3 : (zs.map rN).sum = 2 ^ b' := by omega
    exact ⟨b', rfl, ⟨by omega, by omega, by omega, h1, by have := negs_le zs; omega⟩, by omega, h3⟩
end Go.Proofs.YtgdhdkjbilifiaaDoor
