/- The reference's table of states. -/
import Derived.Test.YtgdhdkjbilifiaaDoorStM
import Derived.Test.YtgdhdkjbilifiaaDoorWidth
import Derived.Test.YtgdhdkjbilifiaaDoorOpen
import Derived.Test.YtgdhdkjbilifiaaDoorOwn2
namespace Go.Proofs.YtgdhdkjbilifiaaDoor
open Go Go.Sx
set_option maxRecDepth 100000
abbrev vN (n : Nat) : Value := vI (n : Int)
/-- counts of a table -/
structure Counts (zs : List Int) (b : Nat) : Prop where
  b5 : 5 ≤ b
  b9 : b ≤ 9
  len : zs.length ≤ 256
  lim : ∀ z ∈ zs, -1 ≤ z ∧ z ≤ ((2 ^ b : Nat) : Int)
  neg : negs zs ≤ 2 ^ b
theorem Counts.M {zs : List Int} {b : Nat} (h : Counts zs b) : 32 ≤ 2 ^ b ∧ 2 ^ b ≤ 512 := by
  have h1 : 2 ^ 5 ≤ 2 ^ b := Nat.pow_le_pow_right (by omega) h.b5
  have h2 : 2 ^ b ≤ 2 ^ 9 := Nat.pow_le_pow_right (by omega) h.b9
  omega
def roomN (z : Int) : Int := if z = -1 then 1 else z
theorem room_spec (z : Int) : FnS Tryd.prog 62 [vI z] [] (fun _ => True) (Is (vI (roomN z))) := by
  refine FnS.intro Tryd.func62 rfl (by kernel_rfl) rfl fun w hH _ => ?_
  (conv => whnf); repeat ((first | refine RngK.mk (by omega) (by omega) ?_ | refine NzK.mk (by omega) ?_ | refine NnK.mk (by omega) ?_ | refine BdK.mk (by omega) (by omega) (by omega) ?_ | refine InsK.lit (by omega) (by omega) ?_ | refine SpK.lit ?_ | refine GrdK.same ?_ | refine GrdK.tf ?_ | refine GrdK.ft ?_ | refine PickK.t ?_ | refine PickK.f ?_); (conv => whnf))
  refine Wp.cond rfl (fun h => ?_) (fun h => ?_)
  · have h := eqT h
    (conv => whnf); repeat ((first | refine RngK.mk (by omega) (by omega) ?_ | refine NzK.mk (by omega) ?_ | refine NnK.mk (by omega) ?_ | refine BdK.mk (by omega) (by omega) (by omega) ?_ | refine InsK.lit (by omega) (by omega) ?_ | refine SpK.lit ?_ | refine GrdK.same ?_ | refine GrdK.tf ?_ | refine GrdK.ft ?_ | refine PickK.t ?_ | refine PickK.f ?_); (conv => whnf))
    exact ⟨by rw [roomN, if_pos h], rfl⟩
  · have h := eqF h
    (conv => whnf); repeat ((first | refine RngK.mk (by omega) (by omega) ?_ | refine NzK.mk (by omega) ?_ | refine NnK.mk (by omega) ?_ | refine BdK.mk (by omega) (by omega) (by omega) ?_ | refine InsK.lit (by omega) (by omega) ?_ | refine SpK.lit ?_ | refine GrdK.same ?_ | refine GrdK.tf ?_ | refine GrdK.ft ?_ | refine PickK.t ?_ | refine PickK.f ?_); (conv => whnf))
    exact ⟨by rw [roomN, if_neg h], rfl⟩
theorem spread_spec (A : Option Addr) (n c b : Nat) (zs : List Int) (hc : Counts zs b) :
    FnS Tryd.prog 63 [.slice A n c, vN b] [] (fun w => Rd w (blocks []) A n 1 (zs.map vI))
      (fun v H => ∃ A1 c1, v = .slice A1 (2 ^ b) c1 ∧ H = [.own A1 (2 ^ b) c1 3 1 ((spreadN zs b).map vN)] ∧ (spreadN zs b).length = 2 ^ b ∧ ∀ x ∈ spreadN zs b, x < max 1 n) := by
  refine FnS.introD Tryd.func63 rfl (by kernel_rfl) rfl fun w hH hp => ?_
  obtain ⟨b5, b9, hlen, hlim, hneg⟩ := hc
  obtain ⟨hM1, hM2⟩ := Counts.M ⟨b5, b9, hlen, hlim, hneg⟩
  obtain rfl : zs.length = n := by simpa using hp.len
  have e0 : ishl .i64 1 (b : Int) = ((2 ^ b : Nat) : Int) := by
    have := ishl_i64 (x := 1) (n := b) (by omega) (by omega)
    rw [Nat.one_mul] at this
    exact this
  unfold spreadN
  generalize 2 ^ b = M at *
  obtain ⟨F1, hF1⟩ : ∃ F1, sp1 0 (List.replicate M 0) M zs = F1 := ⟨_, rfl⟩
  have hfacts := sp1_facts (N := max 1 zs.length) (counts := zs) (s := 0) (syms := List.replicate M 0) (high := M) hneg (by simp) (by omega) (fun x hx => by rw [List.eq_of_mem_replicate hx]; omega)
  rw [hF1, List.length_replicate] at hfacts
  rw [hF1]
  (conv => whnf); repeat ((first | refine RngK.mk (by omega) (by omega) ?_ | refine NzK.mk (by omega) ?_ | refine NnK.mk (by omega) ?_ | refine BdK.mk (by omega) (by omega) (by omega) ?_ | refine InsK.lit (by omega) (by omega) ?_ | refine SpK.lit ?_ | refine GrdK.same ?_ | refine GrdK.tf ?_ | refine GrdK.ft ?_ | refine PickK.t ?_ | refine PickK.f ?_); (conv => whnf))
  rw [e0]
  (conv => whnf); repeat ((first | refine RngK.mk (by omega) (by omega) ?_ | refine NzK.mk (by omega) ?_ | refine NnK.mk (by omega) ?_ | refine BdK.mk (by omega) (by omega) (by omega) ?_ | refine InsK.lit (by omega) (by omega) ?_ | refine SpK.lit ?_ | refine GrdK.same ?_ | refine GrdK.tf ?_ | refine GrdK.ft ?_ | refine PickK.t ?_ | refine PickK.f ?_); (conv => whnf))
  refine EffK.made1 M rfl rfl rfl rfl rfl rfl (by show 8 * _ ≤ _; omega) (by simp [maxLen]; omega) fun b2 => ?_
  (conv => whnf); repeat ((first | refine RngK.mk (by omega) (by omega) ?_ | refine NzK.mk (by omega) ?_ | refine NnK.mk (by omega) ?_ | refine BdK.mk (by omega) (by omega) (by omega) ?_ | refine InsK.lit (by omega) (by omega) ?_ | refine SpK.lit ?_ | refine GrdK.same ?_ | refine GrdK.tf ?_ | refine GrdK.ft ?_ | refine PickK.t ?_ | refine PickK.f ?_); (conv => whnf))
  refine Wp.cutEx 0 (fun _ : Unit => [(0, .slice A zs.length c), (5, vN M), (6, .slice (some ⟨b2, 0, none⟩) M M), (7, vN F1.2)]) (fun _ => [.own (some ⟨b2, 0, none⟩) M M 3 1 (F1.1.map vN)]) (fun _ => True) ?_ fun _ _ => ?_
  · refine Wp.loop (fun t : Nat × List Nat × Nat => [(0, .slice A zs.length c), (20, .slice A zs.length c), (21, vN zs.length), (22, vN t.1), (5, vN M), (6, .slice (some ⟨b2, 0, none⟩) M M), (7, vN t.2.2)])
      (fun t => [.own (some ⟨b2, 0, none⟩) M M 3 1 (t.2.1.map vN)]) (fun t => t.1 ≤ zs.length ∧ t.2.1.length = M ∧ t.2.2 ≤ M ∧ negs (zs.drop t.1) ≤ t.2.2 ∧ sp1 t.1 t.2.1 t.2.2 (zs.drop t.1) = F1) (fun t => zs.length - t.1) (0, List.replicate M 0, M)
      ⟨rfl, rfl, rfl, rfl, rfl, rfl, rfl, trivial⟩ ?_ ⟨Nat.zero_le _, by simp, Nat.le_refl _, hneg, hF1⟩ fun ⟨k, syms, high⟩ ⟨hk, hsl, hhm, hng, hF⟩ => ?_
    · dsimp only
      rw [List.map_replicate]
      exact HSub.refl _
    dsimp only at hk hsl hhm hng hF ⊢
    (conv => whnf); repeat ((first | refine RngK.mk (by omega) (by omega) ?_ | refine NzK.mk (by omega) ?_ | refine NnK.mk (by omega) ?_ | refine BdK.mk (by omega) (by omega) (by omega) ?_ | refine InsK.lit (by omega) (by omega) ?_ | refine SpK.lit ?_ | refine GrdK.same ?_ | refine GrdK.tf ?_ | refine GrdK.ft ?_ | refine PickK.t ?_ | refine PickK.f ?_); (conv => whnf))
    refine Wp.cond rfl (fun h => ?_) (fun h => ?_)
    · have h := dT h
      have hk' : k < zs.length := by omega
      rw [drop_at hk', sp1] at hF
      rw [drop_at hk', negs] at hng
      (conv => whnf); repeat ((first | refine RngK.mk (by omega) (by omega) ?_ | refine NzK.mk (by omega) ?_ | refine NnK.mk (by omega) ?_ | refine BdK.mk (by omega) (by omega) (by omega) ?_ | refine InsK.lit (by omega) (by omega) ?_ | refine SpK.lit ?_ | refine GrdK.same ?_ | refine GrdK.tf ?_ | refine GrdK.ft ?_ | refine PickK.t ?_ | refine PickK.f ?_); (conv => whnf))
      refine InsK.rd hp (by omega) (by omega) ?_
      (conv => whnf); repeat ((first | refine RngK.mk (by omega) (by omega) ?_ | refine NzK.mk (by omega) ?_ | refine NnK.mk (by omega) ?_ | refine BdK.mk (by omega) (by omega) (by omega) ?_ | refine InsK.lit (by omega) (by omega) ?_ | refine SpK.lit ?_ | refine GrdK.same ?_ | refine GrdK.tf ?_ | refine GrdK.ft ?_ | refine PickK.t ?_ | refine PickK.f ?_); (conv => whnf))
      refine LdK.rd (v := vI zs[k]) hp k rfl rfl rfl (by simp [hk']) ?_
      (conv => whnf); repeat ((first | refine RngK.mk (by omega) (by omega) ?_ | refine NzK.mk (by omega) ?_ | refine NnK.mk (by omega) ?_ | refine BdK.mk (by omega) (by omega) (by omega) ?_ | refine InsK.lit (by omega) (by omega) ?_ | refine SpK.lit ?_ | refine GrdK.same ?_ | refine GrdK.tf ?_ | refine GrdK.ft ?_ | refine PickK.t ?_ | refine PickK.f ?_); (conv => whnf))
      refine Wp.cond rfl (fun h2 => ?_) (fun h2 => ?_)
      · have h2 := eqT h2
        rw [if_pos h2] at hF hng
        (conv => whnf); repeat ((first | refine RngK.mk (by omega) (by omega) ?_ | refine NzK.mk (by omega) ?_ | refine NnK.mk (by omega) ?_ | refine BdK.mk (by omega) (by omega) (by omega) ?_ | refine InsK.lit (by omega) (by omega) ?_ | refine SpK.lit ?_ | refine GrdK.same ?_ | refine GrdK.tf ?_ | refine GrdK.ft ?_ | refine PickK.t ?_ | refine PickK.f ?_); (conv => whnf))
        have eh : (high : Int) - 1 = ((high - 1 : Nat) : Int) := by omega
        rw [eh]
        (conv => whnf); repeat ((first | refine RngK.mk (by omega) (by omega) ?_ | refine NzK.mk (by omega) ?_ | refine NnK.mk (by omega) ?_ | refine BdK.mk (by omega) (by omega) (by omega) ?_ | refine InsK.lit (by omega) (by omega) ?_ | refine SpK.lit ?_ | refine GrdK.same ?_ | refine GrdK.tf ?_ | refine GrdK.ft ?_ | refine PickK.t ?_ | refine PickK.f ?_); (conv => whnf))
        refine StK.own 0 (high - 1) rfl ⟨b2, rfl⟩ rfl rfl rfl rfl (by simp; omega) ?_
        have es : (syms.map vN).set (high - 1) (Value.int .i64 (k : Int)) = (syms.set (high - 1) k).map vN := by rw [List.map_set]
        rw [es]
        (conv => whnf); repeat ((first | refine RngK.mk (by omega) (by omega) ?_ | refine NzK.mk (by omega) ?_ | refine NnK.mk (by omega) ?_ | refine BdK.mk (by omega) (by omega) (by omega) ?_ | refine InsK.lit (by omega) (by omega) ?_ | refine SpK.lit ?_ | refine GrdK.same ?_ | refine GrdK.tf ?_ | refine GrdK.ft ?_ | refine PickK.t ?_ | refine PickK.f ?_); (conv => whnf))
        exact ⟨(k + 1, syms.set (high - 1) k, high - 1), ⟨rfl, rfl, rfl, rfl, rfl, rfl, rfl, trivial⟩, HSub.refl _, ⟨by simp only; omega, by simp only [List.length_set]; exact hsl, by simp only; omega, by simp only; omega, hF⟩, by simp only; omega⟩
      · have h2 := eqF h2
        rw [if_neg h2] at hF hng
        (conv => whnf); repeat ((first | refine RngK.mk (by omega) (by omega) ?_ | refine NzK.mk (by omega) ?_ | refine NnK.mk (by omega) ?_ | refine BdK.mk (by omega) (by omega) (by omega) ?_ | refine InsK.lit (by omega) (by omega) ?_ | refine SpK.lit ?_ | refine GrdK.same ?_ | refine GrdK.tf ?_ | refine GrdK.ft ?_ | refine PickK.t ?_ | refine PickK.f ?_); (conv => whnf))
        exact ⟨(k + 1, syms, high), ⟨rfl, rfl, rfl, rfl, rfl, rfl, rfl, trivial⟩, HSub.refl _, ⟨by simp only; omega, hsl, hhm, hng, hF⟩, by simp only; omega⟩
    · have h := dF h
      rw [List.drop_of_length_le (by omega), sp1] at hF
      subst hF
      (conv => whnf); repeat ((first | refine RngK.mk (by omega) (by omega) ?_ | refine NzK.mk (by omega) ?_ | refine NnK.mk (by omega) ?_ | refine BdK.mk (by omega) (by omega) (by omega) ?_ | refine InsK.lit (by omega) (by omega) ?_ | refine SpK.lit ?_ | refine GrdK.same ?_ | refine GrdK.tf ?_ | refine GrdK.ft ?_ | refine PickK.t ?_ | refine PickK.f ?_); (conv => whnf))
      exact ⟨(), ⟨rfl, rfl, rfl, rfl, trivial⟩, HSub.refl _, trivial⟩
  · have e1 : ishr .i64 (M : Int) 1 = ((M / 2 : Nat) : Int) := ishr_nat .i64 M (n := 1) (by decide)
    have e3 : ishr .i64 (M : Int) 3 = ((M / 8 : Nat) : Int) := ishr_nat .i64 M (n := 3) (by decide)
    (conv => whnf); repeat ((first | refine RngK.mk (by omega) (by omega) ?_ | refine NzK.mk (by omega) ?_ | refine NnK.mk (by omega) ?_ | refine BdK.mk (by omega) (by omega) (by omega) ?_ | refine InsK.lit (by omega) (by omega) ?_ | refine SpK.lit ?_ | refine GrdK.same ?_ | refine GrdK.tf ?_ | refine GrdK.ft ?_ | refine PickK.t ?_ | refine PickK.f ?_); (conv => whnf))
    rw [e1, e3]
    (conv => whnf); repeat ((first | refine RngK.mk (by omega) (by omega) ?_ | refine NzK.mk (by omega) ?_ | refine NnK.mk (by omega) ?_ | refine BdK.mk (by omega) (by omega) (by omega) ?_ | refine InsK.lit (by omega) (by omega) ?_ | refine SpK.lit ?_ | refine GrdK.same ?_ | refine GrdK.tf ?_ | refine GrdK.ft ?_ | refine PickK.t ?_ | refine PickK.f ?_); (conv => whnf))
    obtain ⟨high, hhigh⟩ : ∃ high, F1.2 = high := ⟨_, rfl⟩
    obtain ⟨N, hN⟩ : ∃ N, max 1 zs.length = N := ⟨_, rfl⟩
    obtain ⟨F2, hF2⟩ : ∃ F2, sp2 M (stepOf M) high 0 (F1.1, 0) zs = F2 := ⟨_, rfl⟩
    have hL0 : Laying M (stepOf M) N (F1.1, 0) := ⟨hfacts.1, by simp only; omega, Reach.zero _ _, by rw [← hN]; exact hfacts.2.2⟩
    rw [hhigh, hN, hF2]
    have hstep : ((M / 2 : Nat) : Int) + ((M / 8 : Nat) : Int) + 3 = ((stepOf M : Nat) : Int) := rfl
    rw [hstep]
    have hsb : stepOf M ≤ 1000 := by unfold stepOf; omega
    generalize stepOf M = step at *
    refine Wp.loop (fun t : Nat × List Nat × Nat => [(5, vN M), (6, .slice (some ⟨b2, 0, none⟩) M M), (7, vN high), (10, vN step), (11, vN t.2.2), (42, .slice A zs.length c), (43, vN zs.length), (44, vN t.1)])
      (fun t => [.own (some ⟨b2, 0, none⟩) M M 3 1 (t.2.1.map vN)]) (fun t => t.1 ≤ zs.length ∧ Laying M step N t.2 ∧ sp2 M step high t.1 t.2 (zs.drop t.1) = F2) (fun t => zs.length - t.1) (0, F1.1, 0)
      ⟨rfl, rfl, rfl, rfl, rfl, rfl, rfl, rfl, trivial⟩ (HSub.refl _) ⟨Nat.zero_le _, hL0, hF2⟩ fun ⟨k, st⟩ ⟨hk, hL, hF⟩ => ?_
    dsimp only at hk hL hF ⊢
    (conv => whnf); repeat ((first | refine RngK.mk (by omega) (by omega) ?_ | refine NzK.mk (by omega) ?_ | refine NnK.mk (by omega) ?_ | refine BdK.mk (by omega) (by omega) (by omega) ?_ | refine InsK.lit (by omega) (by omega) ?_ | refine SpK.lit ?_ | refine GrdK.same ?_ | refine GrdK.tf ?_ | refine GrdK.ft ?_ | refine PickK.t ?_ | refine PickK.f ?_); (conv => whnf))
    refine Wp.cond rfl (fun h => ?_) (fun h => ?_)
    · have h := dT h
      have hk' : k < zs.length := by omega
      have hzl := hlim _ (List.getElem_mem hk')
      rw [drop_at hk', sp2] at hF
      (conv => whnf); repeat ((first | refine RngK.mk (by omega) (by omega) ?_ | refine NzK.mk (by omega) ?_ | refine NnK.mk (by omega) ?_ | refine BdK.mk (by omega) (by omega) (by omega) ?_ | refine InsK.lit (by omega) (by omega) ?_ | refine SpK.lit ?_ | refine GrdK.same ?_ | refine GrdK.tf ?_ | refine GrdK.ft ?_ | refine PickK.t ?_ | refine PickK.f ?_); (conv => whnf))
      refine InsK.rd hp (by omega) (by omega) ?_
      (conv => whnf); repeat ((first | refine RngK.mk (by omega) (by omega) ?_ | refine NzK.mk (by omega) ?_ | refine NnK.mk (by omega) ?_ | refine BdK.mk (by omega) (by omega) (by omega) ?_ | refine InsK.lit (by omega) (by omega) ?_ | refine SpK.lit ?_ | refine GrdK.same ?_ | refine GrdK.tf ?_ | refine GrdK.ft ?_ | refine PickK.t ?_ | refine PickK.f ?_); (conv => whnf))
      refine LdK.rd (v := vI zs[k]) hp k rfl rfl rfl (by simp [hk']) ?_
      (conv => whnf); repeat ((first | refine RngK.mk (by omega) (by omega) ?_ | refine NzK.mk (by omega) ?_ | refine NnK.mk (by omega) ?_ | refine BdK.mk (by omega) (by omega) (by omega) ?_ | refine InsK.lit (by omega) (by omega) ?_ | refine SpK.lit ?_ | refine GrdK.same ?_ | refine GrdK.tf ?_ | refine GrdK.ft ?_ | refine PickK.t ?_ | refine PickK.f ?_); (conv => whnf))
      refine Wp.loop (fun t : Nat × List Nat × Nat => [(5, vN M), (6, .slice (some ⟨b2, 0, none⟩) M M), (7, vN high), (10, vN step), (11, vN t.2.2), (42, .slice A zs.length c), (43, vN zs.length), (44, vN k), (12, vN k), (13, vI zs[k]), (14, vN t.1)])
        (fun t => [.own (some ⟨b2, 0, none⟩) M M 3 1 (t.2.1.map vN)]) (fun t => t.1 ≤ 1000 ∧ Laying M step N t.2 ∧ sp2 M step high (k + 1) (putN M step high k (zs[k].toNat - t.1) t.2) (zs.drop (k + 1)) = F2) (fun t => zs[k].toNat - t.1) (0, st)
        ⟨rfl, rfl, rfl, rfl, rfl, rfl, rfl, rfl, rfl, rfl, rfl, trivial⟩ (HSub.refl _) ⟨by simp only; omega, hL, hF⟩ fun ⟨j, st⟩ ⟨hj, hL, hF⟩ => ?_
      dsimp only at hj hL hF ⊢
      have hlt := hL.lt
      (conv => whnf); repeat ((first | refine RngK.mk (by omega) (by omega) ?_ | refine NzK.mk (by omega) ?_ | refine NnK.mk (by omega) ?_ | refine BdK.mk (by omega) (by omega) (by omega) ?_ | refine InsK.lit (by omega) (by omega) ?_ | refine SpK.lit ?_ | refine GrdK.same ?_ | refine GrdK.tf ?_ | refine GrdK.ft ?_ | refine PickK.t ?_ | refine PickK.f ?_); (conv => whnf))
      refine Wp.cond rfl (fun h2 => ?_) (fun h2 => ?_)
      · have h2 := dT h2
        have ej : zs[k].toNat - j = zs[k].toNat - (j + 1) + 1 := by omega
        rw [ej, putN] at hF
        have hL' := hL.put1 (high := high) (s := k) (by omega : k < N)
        unfold put1 at hF hL'
        (conv => whnf); repeat ((first | refine RngK.mk (by omega) (by omega) ?_ | refine NzK.mk (by omega) ?_ | refine NnK.mk (by omega) ?_ | refine BdK.mk (by omega) (by omega) (by omega) ?_ | refine InsK.lit (by omega) (by omega) ?_ | refine SpK.lit ?_ | refine GrdK.same ?_ | refine GrdK.tf ?_ | refine GrdK.ft ?_ | refine PickK.t ?_ | refine PickK.f ?_); (conv => whnf))
        refine StK.own 0 st.2 rfl ⟨b2, rfl⟩ rfl rfl rfl rfl (by simp [hL.len]; omega) ?_
        have es : (st.1.map vN).set st.2 (Value.int .i64 (k : Int)) = (st.1.set st.2 k).map vN := by rw [List.map_set]
        rw [es]
        (conv => whnf); repeat ((first | refine RngK.mk (by omega) (by omega) ?_ | refine NzK.mk (by omega) ?_ | refine NnK.mk (by omega) ?_ | refine BdK.mk (by omega) (by omega) (by omega) ?_ | refine InsK.lit (by omega) (by omega) ?_ | refine SpK.lit ?_ | refine GrdK.same ?_ | refine GrdK.tf ?_ | refine GrdK.ft ?_ | refine PickK.t ?_ | refine PickK.f ?_); (conv => whnf))
        have em : ∀ a : Nat, ((a : Int) + (step : Int)).tmod (M : Int) = (((a + step) % M : Nat) : Int) := fun a => by
          have : (a : Int) + (step : Int) = ((a + step : Nat) : Int) := by omega
          rw [this]
          rfl
        rw [em]
        obtain ⟨kk, hkk, hB⟩ := hL.re.next.back (by omega)
        have hsk := skip_same (high := high) hB hkk
        obtain ⟨T, hT⟩ : ∃ T, skip M step high M ((st.2 + step) % M) = T := ⟨_, rfl⟩
        rw [hT] at hF hL' hsk
        refine Wp.loop (fun t : Nat × Nat => [(5, vN M), (6, .slice (some ⟨b2, 0, none⟩) M M), (7, vN high), (10, vN step), (11, vN t.1), (42, .slice A zs.length c), (43, vN zs.length), (44, vN k), (12, vN k), (13, vI zs[k]), (14, vN j)])
          (fun t => [.own (some ⟨b2, 0, none⟩) M M 3 1 ((st.1.set st.2 k).map vN)]) (fun t => Back M step t.1 t.2 ∧ T = skip M step high t.2 t.1) (fun t => t.2) ((st.2 + step) % M, kk)
          ⟨rfl, rfl, rfl, rfl, rfl, rfl, rfl, rfl, rfl, rfl, rfl, trivial⟩ (HSub.refl _) ⟨hB, hsk⟩ fun ⟨a, kk⟩ ⟨hB, hsk⟩ => ?_
        dsimp only at hB hsk ⊢
        have hab := hB.1
        have hstop : ¬ (high ≤ a ∧ 0 < a) → T = a := fun hn => by
          cases kk with
          | zero => exact hsk
          | succ kk => rw [skip, if_neg hn] at hsk; exact hsk
        (conv => whnf); repeat ((first | refine RngK.mk (by omega) (by omega) ?_ | refine NzK.mk (by omega) ?_ | refine NnK.mk (by omega) ?_ | refine BdK.mk (by omega) (by omega) (by omega) ?_ | refine InsK.lit (by omega) (by omega) ?_ | refine SpK.lit ?_ | refine GrdK.same ?_ | refine GrdK.tf ?_ | refine GrdK.ft ?_ | refine PickK.t ?_ | refine PickK.f ?_); (conv => whnf))
        refine ⟨fun g1 => ?_, fun g1 => ?_⟩
        · have g1 : (a : Int) ≥ (high : Int) := dT g1
          (conv => whnf); repeat ((first | refine RngK.mk (by omega) (by omega) ?_ | refine NzK.mk (by omega) ?_ | refine NnK.mk (by omega) ?_ | refine BdK.mk (by omega) (by omega) (by omega) ?_ | refine InsK.lit (by omega) (by omega) ?_ | refine SpK.lit ?_ | refine GrdK.same ?_ | refine GrdK.tf ?_ | refine GrdK.ft ?_ | refine PickK.t ?_ | refine PickK.f ?_); (conv => whnf))
          refine Wp.cond rfl (fun g2 => ?_) (fun g2 => ?_)
          · have g2 := dT g2
            cases kk with
            | zero => have := hB.pos; omega
            | succ kk =>
              rw [skip, if_pos (by omega)] at hsk
              (conv => whnf); repeat ((first | refine RngK.mk (by omega) (by omega) ?_ | refine NzK.mk (by omega) ?_ | refine NnK.mk (by omega) ?_ | refine BdK.mk (by omega) (by omega) (by omega) ?_ | refine InsK.lit (by omega) (by omega) ?_ | refine SpK.lit ?_ | refine GrdK.same ?_ | refine GrdK.tf ?_ | refine GrdK.ft ?_ | refine PickK.t ?_ | refine PickK.f ?_); (conv => whnf))
              rw [em]
              exact ⟨((a + step) % M, kk), ⟨rfl, rfl, rfl, rfl, rfl, rfl, rfl, rfl, rfl, rfl, rfl, trivial⟩, HSub.refl _, ⟨hB.next, hsk⟩, Nat.lt_succ_self _⟩
          · have g2 := dF g2
            have hTa := hstop (by omega)
            subst hTa
            (conv => whnf); repeat ((first | refine RngK.mk (by omega) (by omega) ?_ | refine NzK.mk (by omega) ?_ | refine NnK.mk (by omega) ?_ | refine BdK.mk (by omega) (by omega) (by omega) ?_ | refine InsK.lit (by omega) (by omega) ?_ | refine SpK.lit ?_ | refine GrdK.same ?_ | refine GrdK.tf ?_ | refine GrdK.ft ?_ | refine PickK.t ?_ | refine PickK.f ?_); (conv => whnf))
            exact ⟨(j + 1, st.1.set st.2 k, T), ⟨rfl, rfl, rfl, rfl, rfl, rfl, rfl, rfl, rfl, rfl, rfl, trivial⟩, HSub.refl _, ⟨by simp only; omega, hL', hF⟩, by simp only; omega⟩
        · have g1 : ¬ (a : Int) ≥ (high : Int) := dF g1
          have hTa := hstop (by omega)
          subst hTa
          (conv => whnf); repeat ((first | refine RngK.mk (by omega) (by omega) ?_ | refine NzK.mk (by omega) ?_ | refine NnK.mk (by omega) ?_ | refine BdK.mk (by omega) (by omega) (by omega) ?_ | refine InsK.lit (by omega) (by omega) ?_ | refine SpK.lit ?_ | refine GrdK.same ?_ | refine GrdK.tf ?_ | refine GrdK.ft ?_ | refine PickK.t ?_ | refine PickK.f ?_); (conv => whnf))
          refine Wp.cond rfl (fun h => by cases h) (fun _ => ?_)
          (conv => whnf); repeat ((first | refine RngK.mk (by omega) (by omega) ?_ | refine NzK.mk (by omega) ?_ | refine NnK.mk (by omega) ?_ | refine BdK.mk (by omega) (by omega) (by omega) ?_ | refine InsK.lit (by omega) (by omega) ?_ | refine SpK.lit ?_ | refine GrdK.same ?_ | refine GrdK.tf ?_ | refine GrdK.ft ?_ | refine PickK.t ?_ | refine PickK.f ?_); (conv => whnf))
          exact ⟨(j + 1, st.1.set st.2 k, T), ⟨rfl, rfl, rfl, rfl, rfl, rfl, rfl, rfl, rfl, rfl, rfl, trivial⟩, HSub.refl _, ⟨by simp only; omega, hL', hF⟩, by simp only; omega⟩
      · have h2 := dF h2
        have ej : zs[k].toNat - j = 0 := by omega
        rw [ej, putN] at hF
        (conv => whnf); repeat ((first | refine RngK.mk (by omega) (by omega) ?_ | refine NzK.mk (by omega) ?_ | refine NnK.mk (by omega) ?_ | refine BdK.mk (by omega) (by omega) (by omega) ?_ | refine InsK.lit (by omega) (by omega) ?_ | refine SpK.lit ?_ | refine GrdK.same ?_ | refine GrdK.tf ?_ | refine GrdK.ft ?_ | refine PickK.t ?_ | refine PickK.f ?_); (conv => whnf))
        exact ⟨(k + 1, st), ⟨rfl, rfl, rfl, rfl, rfl, rfl, rfl, rfl, trivial⟩, HSub.refl _, ⟨by simp only; omega, hL, hF⟩, by simp only; omega⟩
    · have h := dF h
      rw [List.drop_of_length_le (by omega), sp2] at hF
      subst hF
      (conv => whnf); repeat ((first | refine RngK.mk (by omega) (by omega) ?_ | refine NzK.mk (by omega) ?_ | refine NnK.mk (by omega) ?_ | refine BdK.mk (by omega) (by omega) (by omega) ?_ | refine InsK.lit (by omega) (by omega) ?_ | refine SpK.lit ?_ | refine GrdK.same ?_ | refine GrdK.tf ?_ | refine GrdK.ft ?_ | refine PickK.t ?_ | refine PickK.f ?_); (conv => whnf))
      exact ⟨_, HSub.refl _, some ⟨b2, 0, none⟩, M, rfl, rfl, hL.len, hL.sy⟩
end Go.Proofs.YtgdhdkjbilifiaaDoor
