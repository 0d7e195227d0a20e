/- spec.Stream: the stream that is read backward. -/
import Derived.Test.YtagcmlbpppmbfaaDoorBj
import Derived.Test.YtagcmlbpppmbfaaDoorBitS
import Derived.Test.YtagcmlbpppmbfaaDoorOwn
namespace Go.Proofs.YtagcmlbpppmbfaaDoor
open Go Go.Sx
set_option maxRecDepth 100000
theorem stream_spec (A : Option Addr) (n c : Nat) (zs : List Int) (h01 : ∀ z ∈ zs, z = 0 ∨ z = 1) (hn : n ≤ 1000000) :
    FnS Tryd.prog 16 [.slice A n c] [] (fun w => Rd w (blocks []) A n 1 (zs.map vI))
      (fun v H => ∃ bs A1 c1, v = .slice A1 bs.length c1 ∧ H = [.own A1 bs.length c1 5 1 (bs.map vU8)] ∧ bs.length = n / 8 + 1 ∧ num bs = hiN 1 zs) := by
  refine FnS.introD Tryd.func16 rfl (by kernel_rfl) rfl fun w hH hp => ?_
  obtain rfl : zs.length = n := by simpa using hp.len
  (conv => whnf); repeat ((first | refine RngK.mk (by omega) (by omega) ?_ | refine NzK.mk (by omega) ?_ | refine NnK.mk (by omega) ?_ | refine BdK.mk (by omega) (by omega) (by omega) ?_ | refine InsK.lit (by omega) (by omega) ?_ | refine SpK.lit ?_ | refine GrdK.same ?_ | refine GrdK.tf ?_ | refine GrdK.ft ?_ | refine PickK.t ?_ | refine PickK.f ?_); (conv => whnf))
  refine EffK.litV rfl rfl rfl rfl rfl rfl rfl rfl rfl ?_
  (conv => whnf); repeat ((first | refine RngK.mk (by omega) (by omega) ?_ | refine NzK.mk (by omega) ?_ | refine NnK.mk (by omega) ?_ | refine BdK.mk (by omega) (by omega) (by omega) ?_ | refine InsK.lit (by omega) (by omega) ?_ | refine SpK.lit ?_ | refine GrdK.same ?_ | refine GrdK.tf ?_ | refine GrdK.ft ?_ | refine PickK.t ?_ | refine PickK.f ?_); (conv => whnf))
  intro b
  (conv => whnf); repeat ((first | refine RngK.mk (by omega) (by omega) ?_ | refine NzK.mk (by omega) ?_ | refine NnK.mk (by omega) ?_ | refine BdK.mk (by omega) (by omega) (by omega) ?_ | refine InsK.lit (by omega) (by omega) ?_ | refine SpK.lit ?_ | refine GrdK.same ?_ | refine GrdK.tf ?_ | refine GrdK.ft ?_ | refine PickK.t ?_ | refine PickK.f ?_); (conv => whnf))
  refine EffK.append 0 (news := zs.map vI) rfl rfl rfl rfl rfl rfl rfl rfl (Src.rd hp) (by intro u hu; obtain ⟨z, _, rfl⟩ := List.mem_map.1 hu; rfl) (by simp [maxLen]; omega) (by show (_ + _) * 8 ≤ _; omega) fun A1 c1 => ?_
  (conv => whnf); repeat ((first | refine RngK.mk (by omega) (by omega) ?_ | refine NzK.mk (by omega) ?_ | refine NnK.mk (by omega) ?_ | refine BdK.mk (by omega) (by omega) (by omega) ?_ | refine InsK.lit (by omega) (by omega) ?_ | refine SpK.lit ?_ | refine GrdK.same ?_ | refine GrdK.tf ?_ | refine GrdK.ft ?_ | refine PickK.t ?_ | refine PickK.f ?_); (conv => whnf))
  refine RngK.mk ?_ ?_ ?_
  · rw [Int.tdiv_eq_ediv_of_nonneg (by omega)]; omega
  · rw [Int.tdiv_eq_ediv_of_nonneg (by omega)]; omega
  (conv => whnf); repeat ((first | refine RngK.mk (by omega) (by omega) ?_ | refine NzK.mk (by omega) ?_ | refine NnK.mk (by omega) ?_ | refine BdK.mk (by omega) (by omega) (by omega) ?_ | refine InsK.lit (by omega) (by omega) ?_ | refine SpK.lit ?_ | refine GrdK.same ?_ | refine GrdK.tf ?_ | refine GrdK.ft ?_ | refine PickK.t ?_ | refine PickK.f ?_); (conv => whnf))
  have em : (((1 + zs.length : Nat) : Int) + 7).tdiv 8 = ((zs.length / 8 + 1 : Nat) : Int) := by
    rw [Int.tdiv_eq_ediv_of_nonneg (by omega)]; omega
  refine EffK.made1 (zs.length / 8 + 1) rfl rfl rfl em rfl rfl (by show 1 * _ ≤ _; omega) (by simp [maxLen]; omega) fun b2 => ?_
  (conv => whnf); repeat ((first | refine RngK.mk (by omega) (by omega) ?_ | refine NzK.mk (by omega) ?_ | refine NnK.mk (by omega) ?_ | refine BdK.mk (by omega) (by omega) (by omega) ?_ | refine InsK.lit (by omega) (by omega) ?_ | refine SpK.lit ?_ | refine GrdK.same ?_ | refine GrdK.tf ?_ | refine GrdK.ft ?_ | refine PickK.t ?_ | refine PickK.f ?_); (conv => whnf))
  refine Wp.own 1 rfl fun hA1 => ?_
  have hall : [Value.int .i64 1] ++ zs.map vI = (1 :: zs).map vI := rfl
  rw [hall]
  have h01' : ∀ z ∈ (1 :: zs), z = 0 ∨ z = 1 := fun z hz => by
    rcases List.mem_cons.1 hz with rfl | hz
    · exact .inr rfl
    · exact h01 z hz
  have hlen : (1 :: zs).length = 1 + zs.length := by simp; omega
  have hfin : hiN 0 (1 :: zs) = hiN 1 zs := rfl
  rw [← hfin]
  generalize (1 :: zs) = all at hlen h01' hfin ⊢
  refine Wp.loop (fun s : Nat × List UInt8 => [(3, .slice A1 (1 + zs.length) c1), (16, .slice A1 (1 + zs.length) c1), (17, vI ((1 + zs.length : Nat) : Int)), (18, vI s.1), (4, .slice (some ⟨b2, 0, none⟩) (zs.length / 8 + 1) (zs.length / 8 + 1))])
    (fun s => [.own (some ⟨b2, 0, none⟩) (zs.length / 8 + 1) (zs.length / 8 + 1) 5 1 (s.2.map vU8), .own A1 (1 + zs.length) c1 3 1 (all.map vI)])
    (fun s => s.1 ≤ 1 + zs.length ∧ s.2.length = zs.length / 8 + 1 ∧ num s.2 = hiN 0 (all.take s.1) * 2 ^ (1 + zs.length - s.1)) (fun s => 1 + zs.length - s.1) (0, List.replicate (zs.length / 8 + 1) 0)
    ⟨rfl, rfl, rfl, rfl, rfl, trivial⟩ ?_ ⟨Nat.zero_le _, by simp, ?_⟩ fun ⟨k, bs⟩ ⟨hk, hbl, hnum⟩ => ?_
  · dsimp only
    rw [List.map_replicate]
    exact HSub.of [0, 0] rfl
  · show num (List.replicate _ 0) = 0 * _
    rw [Nat.zero_mul]
    generalize zs.length / 8 + 1 = q
    induction q with
    | zero => rfl
    | succ q ih => rw [List.replicate_succ, num_cons, ih]; rfl
  dsimp only at hk hbl hnum ⊢
  (conv => whnf); repeat ((first | refine RngK.mk (by omega) (by omega) ?_ | refine NzK.mk (by omega) ?_ | refine NnK.mk (by omega) ?_ | refine BdK.mk (by omega) (by omega) (by omega) ?_ | refine InsK.lit (by omega) (by omega) ?_ | refine SpK.lit ?_ | refine GrdK.same ?_ | refine GrdK.tf ?_ | refine GrdK.ft ?_ | refine PickK.t ?_ | refine PickK.f ?_); (conv => whnf))
  refine Wp.cond rfl (fun h => ?_) (fun h => ?_)
  · have h := dT h
    have hk' : k < all.length := by omega
    obtain ⟨zb, hzb, hz1⟩ : ∃ zb : Nat, all[k] = (zb : Int) ∧ zb ≤ 1 := by
      rcases h01' _ (List.getElem_mem hk') with e | e
      · exact ⟨0, e, by omega⟩
      · exact ⟨1, e, by omega⟩
    have hget : (all.map vI)[k]? = some (vI zb) := by simp [hk', hzb]
    obtain ⟨p, hp'⟩ : ∃ p, zs.length - k = p := ⟨_, rfl⟩
    have hj : p / 8 < bs.length := by omega
    have hb := bs[p / 8].toNat_lt
    have hr : p % 8 < 8 := by omega
    have hpow : 2 ^ (1 + zs.length - k) = 2 * 2 ^ p := by rw [show 1 + zs.length - k = p + 1 by omega, Nat.pow_succ, Nat.mul_comm]
    have hzero : bs[p / 8].toNat / 2 ^ (p % 8) % 2 = 0 := by
      rw [byte_bit hj, hnum, hpow]
      unfold bitsN
      rw [Nat.mul_left_comm, Nat.mul_comm 2, Nat.mul_right_comm, Nat.mul_div_cancel _ (Nat.two_pow_pos p)]
      omega
    obtain ⟨hor, hor2⟩ := or_bit_dec _ hb _ hr hzero
    have hr2 : 2 ^ (p % 8) ≤ 2 ^ 7 := Nat.pow_le_pow_right (by omega) (by omega)
    (conv => whnf); repeat ((first | refine RngK.mk (by omega) (by omega) ?_ | refine NzK.mk (by omega) ?_ | refine NnK.mk (by omega) ?_ | refine BdK.mk (by omega) (by omega) (by omega) ?_ | refine InsK.lit (by omega) (by omega) ?_ | refine SpK.lit ?_ | refine GrdK.same ?_ | refine GrdK.tf ?_ | refine GrdK.ft ?_ | refine PickK.t ?_ | refine PickK.f ?_); (conv => whnf))
    refine InsK.own hA1 (by omega) (by omega) ?_
    (conv => whnf); repeat ((first | refine RngK.mk (by omega) (by omega) ?_ | refine NzK.mk (by omega) ?_ | refine NnK.mk (by omega) ?_ | refine BdK.mk (by omega) (by omega) (by omega) ?_ | refine InsK.lit (by omega) (by omega) ?_ | refine SpK.lit ?_ | refine GrdK.same ?_ | refine GrdK.tf ?_ | refine GrdK.ft ?_ | refine PickK.t ?_ | refine PickK.f ?_); (conv => whnf))
    refine LdK.own 1 k rfl rfl rfl rfl hget ?_
    (conv => whnf); repeat ((first | refine RngK.mk (by omega) (by omega) ?_ | refine NzK.mk (by omega) ?_ | refine NnK.mk (by omega) ?_ | refine BdK.mk (by omega) (by omega) (by omega) ?_ | refine InsK.lit (by omega) (by omega) ?_ | refine SpK.lit ?_ | refine GrdK.same ?_ | refine GrdK.tf ?_ | refine GrdK.ft ?_ | refine PickK.t ?_ | refine PickK.f ?_); (conv => whnf))
    have ep : ((1 + zs.length : Nat) : Int) - 1 - (k : Int) = (p : Int) := by omega
    rw [ep]
    refine DrwK.ord (by kernel_rfl) [0, 1, 2, 3, 4, 5, 6, 7, 8, 9, 10, 11, 12] (by kernel_rfl) ?_; conv => whnf
    have e1 : (p : Int).tdiv 8 = ((p / 8 : Nat) : Int) := by rw [Int.tdiv_eq_ediv_of_nonneg (by omega)]; omega
    have e2 : (p : Int).tmod 8 = ((p % 8 : Nat) : Int) := by rw [Int.tmod_eq_emod_of_nonneg (by omega)]; omega
    (conv => whnf); repeat ((first | refine RngK.mk (by omega) (by omega) ?_ | refine NzK.mk (by omega) ?_ | refine NnK.mk (by omega) ?_ | refine BdK.mk (by omega) (by omega) (by omega) ?_ | refine InsK.lit (by omega) (by omega) ?_ | refine SpK.lit ?_ | refine GrdK.same ?_ | refine GrdK.tf ?_ | refine GrdK.ft ?_ | refine PickK.t ?_ | refine PickK.f ?_); (conv => whnf))
    rw [e1]
    (conv => whnf); repeat ((first | refine RngK.mk (by omega) (by omega) ?_ | refine NzK.mk (by omega) ?_ | refine NnK.mk (by omega) ?_ | refine BdK.mk (by omega) (by omega) (by omega) ?_ | refine InsK.lit (by omega) (by omega) ?_ | refine SpK.lit ?_ | refine GrdK.same ?_ | refine GrdK.tf ?_ | refine GrdK.ft ?_ | refine PickK.t ?_ | refine PickK.f ?_); (conv => whnf))
    refine LdK.own 0 (p / 8) rfl rfl rfl rfl (v := vU8 bs[p / 8]) (by simp [hj]) ?_
    (conv => whnf); repeat ((first | refine RngK.mk (by omega) (by omega) ?_ | refine NzK.mk (by omega) ?_ | refine NnK.mk (by omega) ?_ | refine BdK.mk (by omega) (by omega) (by omega) ?_ | refine InsK.lit (by omega) (by omega) ?_ | refine SpK.lit ?_ | refine GrdK.same ?_ | refine GrdK.tf ?_ | refine GrdK.ft ?_ | refine PickK.t ?_ | refine PickK.f ?_); (conv => whnf))
    rw [e2]
    (conv => whnf); repeat ((first | refine RngK.mk (by omega) (by omega) ?_ | refine NzK.mk (by omega) ?_ | refine NnK.mk (by omega) ?_ | refine BdK.mk (by omega) (by omega) (by omega) ?_ | refine InsK.lit (by omega) (by omega) ?_ | refine SpK.lit ?_ | refine GrdK.same ?_ | refine GrdK.tf ?_ | refine GrdK.ft ?_ | refine PickK.t ?_ | refine PickK.f ?_); (conv => whnf))
    have hzr : zb * 2 ^ (p % 8) ≤ 2 ^ (p % 8) := by
      have := Nat.mul_le_mul_right (2 ^ (p % 8)) hz1
      omega
    obtain ⟨y, hy⟩ : ∃ y : UInt8, y.toNat = bs[p / 8].toNat + zb * 2 ^ (p % 8) :=
      ⟨UInt8.ofNat (bs[p / 8].toNat + zb * 2 ^ (p % 8)), by rw [UInt8.toNat_ofNat_of_lt' (by simp only [UInt8.size]; omega)]⟩
    have hval : ior .u8 (bs[p / 8].toNat : Int) (IntKind.u8.wrap (ishl .i64 (zb : Int) ((p % 8 : Nat) : Int))) = (y.toNat : Int) := by
      rw [ishl_i64 (by omega) (by omega), wrap_u_lt (k := .u8) rfl (by show _ < 2 ^ 8; omega), ior_u (k := .u8) rfl (by show _ < 2 ^ 8; omega) (by show _ < 2 ^ 8; omega), hy]
      congr 1
      obtain rfl | rfl : zb = 0 ∨ zb = 1 := by omega
      · simp
      · rw [Nat.one_mul, hor]
    rw [hval]
    refine StK.own 0 (p / 8) rfl ⟨b2, rfl⟩ rfl rfl rfl rfl (by simpa using hj) ?_
    (conv => whnf); repeat ((first | refine RngK.mk (by omega) (by omega) ?_ | refine NzK.mk (by omega) ?_ | refine NnK.mk (by omega) ?_ | refine BdK.mk (by omega) (by omega) (by omega) ?_ | refine InsK.lit (by omega) (by omega) ?_ | refine SpK.lit ?_ | refine GrdK.same ?_ | refine GrdK.tf ?_ | refine GrdK.ft ?_ | refine PickK.t ?_ | refine PickK.f ?_); (conv => whnf))
    have hset : (bs.map vU8).set (p / 8) (.int .u8 (y.toNat : Int)) = (bs.set (p / 8) y).map vU8 := by rw [List.map_set]; rfl
    rw [hset]
    refine ⟨(k + 1, bs.set (p / 8) y), ⟨rfl, rfl, rfl, rfl, rfl, trivial⟩, HSub.refl _, ⟨by simp only; omega, by simp only [List.length_set]; exact hbl, ?_⟩, by simp only; omega⟩
    dsimp only
    rw [num_set hj y _ hy, hnum, hpow, List.take_succ_eq_append_getElem hk', hiN_snoc, hzb]
    have e3 : 1 + zs.length - (k + 1) = p := by omega
    have e4 : zb * 2 ^ (p % 8) * 2 ^ (8 * (p / 8)) = zb * 2 ^ p := by
      rw [Nat.mul_assoc, ← Nat.pow_add]
      congr 2
      omega
    have e5 : ((zb : Nat) : Int).toNat = zb := by omega
    rw [e3, e4, e5, Nat.add_mul, Nat.mul_left_comm, Nat.mul_assoc 2]
  · have h := dF h
    have hke : k = 1 + zs.length := by omega
    subst hke
    rw [Nat.sub_self, Nat.pow_zero, Nat.mul_one, ← hlen, List.take_length] at hnum
    (conv => whnf); repeat ((first | refine RngK.mk (by omega) (by omega) ?_ | refine NzK.mk (by omega) ?_ | refine NnK.mk (by omega) ?_ | refine BdK.mk (by omega) (by omega) (by omega) ?_ | refine InsK.lit (by omega) (by omega) ?_ | refine SpK.lit ?_ | refine GrdK.same ?_ | refine GrdK.tf ?_ | refine GrdK.ft ?_ | refine PickK.t ?_ | refine PickK.f ?_); (conv => whnf))
    exact ⟨_, HSub.of [0] rfl, bs, some ⟨b2, 0, none⟩, _, by rw [hbl], by rw [hbl], hbl, hnum⟩
end Go.Proofs.YtagcmlbpppmbfaaDoor
