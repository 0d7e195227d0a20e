/- The law FnStreamBack: it returns true. -/
import Derived.Test.YtagcmlbpppmbfaaDoorBo
import Derived.Test.YtagcmlbpppmbfaaDoorBk
namespace Go.Proofs.YtagcmlbpppmbfaaDoor
open Go Go.Sx
set_option maxRecDepth 100000
def lowBit (z : Int) : Int := iand .i64 z 1
theorem lowBit_01 (z : Int) : lowBit z = 0 ∨ lowBit z = 1 := by
  have h : (BitVec.ofInt 64 z &&& BitVec.ofInt 64 1).toNat = (BitVec.ofInt 64 z).toNat % 2 := by
    rw [BitVec.toNat_and]
    exact Nat.and_one_is_mod _
  have h2 : lowBit z = (((BitVec.ofInt 64 z).toNat % 2 : Nat) : Int) := by
    unfold lowBit iand
    show IntKind.i64.wrap (((BitVec.ofInt 64 z &&& BitVec.ofInt 64 1).toNat : Nat) : Int) = _
    rw [h]
    exact wrap_i64_lt (by omega)
  rw [h2]
  omega
theorem wd_eq {x k : Nat} (h1 : 2 ^ k ≤ x) (h2 : x < 2 ^ (k + 1)) : wd x = k + 1 := by
  have hx : x ≠ 0 := by have := Nat.two_pow_pos k; omega
  unfold wd
  rw [if_neg hx, (Nat.log2_eq_iff hx).2 ⟨h1, h2⟩]
theorem rev_ones {L : List Int} (h : ∀ z ∈ L, z = 0 ∨ z = 1) (tail : List Int) : ∀ (j k : Nat) (acc : List Int), k + j = L.length → rev (hiN 1 L) 0 acc j (List.replicate j 1 ++ tail) = rev (hiN 1 L) 0 (acc ++ L.drop k) 0 tail
  | 0, k, acc, hk => by
    rw [List.drop_of_length_le (by omega)]
    simp
  | j + 1, k, acc, hk => by
    have hk' : k < L.length := by omega
    rw [List.replicate_succ, List.cons_append, rev]
    have e1 : ((1 : Int) % 25).toNat = 1 := rfl
    rw [e1, if_neg (by omega), Nat.add_sub_cancel, rev_ones h tail j (k + 1) _ (by omega)]
    have hb := hiN_bit (a := 1) h hk'
    have e2 : L.length - 1 - k = j := by omega
    rw [e2] at hb
    rw [hb, List.drop_eq_getElem_cons hk', List.append_assoc]
    have e3 : ((L[k].toNat : Nat) : Int) = L[k] := by rcases h _ (List.getElem_mem hk') with e | e <;> rw [e] <;> rfl
    rw [e3]
    rfl
/-- where the stream of bits ends -/
theorem stream_top {L : List Int} (h : ∀ z ∈ L, z = 0 ∨ z = 1) {bs : List UInt8} (hN : num bs = hiN 1 L) (ho : L.length / 8 < bs.length) :
    0 < bs[L.length / 8].toNat ∧ 8 * (L.length / 8) + wd bs[L.length / 8].toNat - 1 = L.length := by
  have h1 := hiN_lt h
  have h2 := hiN_add 1 L
  rw [Nat.one_mul] at h2
  have e : 2 ^ L.length = 2 ^ (8 * (L.length / 8)) * 2 ^ (L.length % 8) := by rw [← Nat.pow_add]; congr 1; omega
  have hp := Nat.two_pow_pos (8 * (L.length / 8))
  have hr : 2 ^ (L.length % 8) ≤ 2 ^ 7 := Nat.pow_le_pow_right (by omega) (by omega)
  have hlo : 2 ^ (L.length % 8) ≤ num bs / 2 ^ (8 * (L.length / 8)) := by
    rw [Nat.le_div_iff_mul_le hp, Nat.mul_comm, ← e]; omega
  have hhi : num bs / 2 ^ (8 * (L.length / 8)) < 2 ^ (L.length % 8 + 1) := by
    rw [Nat.div_lt_iff_lt_mul hp, Nat.pow_succ, Nat.mul_right_comm, Nat.mul_comm (2 ^ (L.length % 8)), ← e]; omega
  have hb : bs[L.length / 8].toNat = num bs / 2 ^ (8 * (L.length / 8)) := by
    rw [num_byte ho]
    unfold bitsN
    rw [Nat.pow_succ] at hhi
    exact Nat.mod_eq_of_lt (by omega)
  rw [← hb] at hlo hhi
  have := Nat.two_pow_pos (L.length % 8)
  refine ⟨by omega, ?_⟩
  rw [wd_eq hlo hhi]
  omega
theorem lawStreamBack (A : Option Addr) (n c : Nat) (zs : List Int) (e u : Addr) :
    FnS Tryd.prog 6 [.slice A n c] []
      (fun w => (Rd w (blocks []) A n 1 (zs.map (.int .i64)) ∧ n ≤ c ∧ c ≤ maxLen ∧ ∀ z ∈ zs, (Lit.int .i64 z).wf = true) ∧ Laid w (blocks []) e u) (Is (vB true)) := by
  refine FnS.introD Tryd.func6 rfl (by kernel_rfl) rfl fun w hH ⟨hz, hL⟩ => ?_
  have hz := ints_of hz
  have hlz := hz.len
  (conv => whnf); repeat ((first | refine RngK.mk (by omega) (by omega) ?_ | refine NzK.mk (by omega) ?_ | refine NnK.mk (by omega) ?_ | refine BdK.mk (by omega) (by omega) (by omega) ?_ | refine InsK.lit (by omega) (by omega) ?_ | refine SpK.lit ?_ | refine GrdK.same ?_ | refine GrdK.tf ?_ | refine GrdK.ft ?_ | refine PickK.t ?_ | refine PickK.f ?_); (conv => whnf))
  refine Wp.cond rfl (fun g2 => ?_) (fun g2 => ?_)
  · (conv => whnf); repeat ((first | refine RngK.mk (by omega) (by omega) ?_ | refine NzK.mk (by omega) ?_ | refine NnK.mk (by omega) ?_ | refine BdK.mk (by omega) (by omega) (by omega) ?_ | refine InsK.lit (by omega) (by omega) ?_ | refine SpK.lit ?_ | refine GrdK.same ?_ | refine GrdK.tf ?_ | refine GrdK.ft ?_ | refine PickK.t ?_ | refine PickK.f ?_); (conv => whnf))
    exact ⟨[], HSub.nil _, rfl, rfl⟩
  · have g2 := dF g2
    (conv => whnf); repeat ((first | refine RngK.mk (by omega) (by omega) ?_ | refine NzK.mk (by omega) ?_ | refine NnK.mk (by omega) ?_ | refine BdK.mk (by omega) (by omega) (by omega) ?_ | refine InsK.lit (by omega) (by omega) ?_ | refine SpK.lit ?_ | refine GrdK.same ?_ | refine GrdK.tf ?_ | refine GrdK.ft ?_ | refine PickK.t ?_ | refine PickK.f ?_); (conv => whnf))
    refine EffK.litV rfl rfl rfl rfl rfl rfl rfl rfl rfl ?_
    (conv => whnf); repeat ((first | refine RngK.mk (by omega) (by omega) ?_ | refine NzK.mk (by omega) ?_ | refine NnK.mk (by omega) ?_ | refine BdK.mk (by omega) (by omega) (by omega) ?_ | refine InsK.lit (by omega) (by omega) ?_ | refine SpK.lit ?_ | refine GrdK.same ?_ | refine GrdK.tf ?_ | refine GrdK.ft ?_ | refine PickK.t ?_ | refine PickK.f ?_); (conv => whnf))
    intro b
    (conv => whnf); repeat ((first | refine RngK.mk (by omega) (by omega) ?_ | refine NzK.mk (by omega) ?_ | refine NnK.mk (by omega) ?_ | refine BdK.mk (by omega) (by omega) (by omega) ?_ | refine InsK.lit (by omega) (by omega) ?_ | refine SpK.lit ?_ | refine GrdK.same ?_ | refine GrdK.tf ?_ | refine GrdK.ft ?_ | refine PickK.t ?_ | refine PickK.f ?_); (conv => whnf))
    refine CallK.of [] (tooLong_spec (some ⟨b, 0, none⟩) 1 1 [(n : Int)] (by intro x hx; obtain rfl := List.mem_singleton.1 hx; omega)) rfl (fun w hw => ⟨Rd.ofOwn hw 0 rfl, by decide⟩) ?_
    rintro _ _ ⟨rfl, rfl⟩
    have etl : tooLong 0 [(n : Int)] = decide ((n : Int) > 1000000) := by
      simp only [tooLong]
      by_cases h : (n : Int) > 1000000 <;> simp [h]
    rw [etl]
    (conv => whnf); repeat ((first | refine RngK.mk (by omega) (by omega) ?_ | refine NzK.mk (by omega) ?_ | refine NnK.mk (by omega) ?_ | refine BdK.mk (by omega) (by omega) (by omega) ?_ | refine InsK.lit (by omega) (by omega) ?_ | refine SpK.lit ?_ | refine GrdK.same ?_ | refine GrdK.tf ?_ | refine GrdK.ft ?_ | refine PickK.t ?_ | refine PickK.f ?_); (conv => whnf))
    refine Wp.cond rfl (fun g3 => ?_) (fun g3 => ?_)
    · (conv => whnf); repeat ((first | refine RngK.mk (by omega) (by omega) ?_ | refine NzK.mk (by omega) ?_ | refine NnK.mk (by omega) ?_ | refine BdK.mk (by omega) (by omega) (by omega) ?_ | refine InsK.lit (by omega) (by omega) ?_ | refine SpK.lit ?_ | refine GrdK.same ?_ | refine GrdK.tf ?_ | refine GrdK.ft ?_ | refine PickK.t ?_ | refine PickK.f ?_); (conv => whnf))
      exact ⟨[], HSub.nil _, rfl, rfl⟩
    · have g3 := dF g3
      have hn : n ≤ 1000000 := by omega
      clear g2 g3 etl
      (conv => whnf); repeat ((first | refine RngK.mk (by omega) (by omega) ?_ | refine NzK.mk (by omega) ?_ | refine NnK.mk (by omega) ?_ | refine BdK.mk (by omega) (by omega) (by omega) ?_ | refine InsK.lit (by omega) (by omega) ?_ | refine SpK.lit ?_ | refine GrdK.same ?_ | refine GrdK.tf ?_ | refine GrdK.ft ?_ | refine PickK.t ?_ | refine PickK.f ?_); (conv => whnf))
      refine EffK.litV rfl rfl rfl rfl rfl rfl rfl rfl rfl ?_
      (conv => whnf); repeat ((first | refine RngK.mk (by omega) (by omega) ?_ | refine NzK.mk (by omega) ?_ | refine NnK.mk (by omega) ?_ | refine BdK.mk (by omega) (by omega) (by omega) ?_ | refine InsK.lit (by omega) (by omega) ?_ | refine SpK.lit ?_ | refine GrdK.same ?_ | refine GrdK.tf ?_ | refine GrdK.ft ?_ | refine PickK.t ?_ | refine PickK.f ?_); (conv => whnf))
      intro b1
      (conv => whnf); repeat ((first | refine RngK.mk (by omega) (by omega) ?_ | refine NzK.mk (by omega) ?_ | refine NnK.mk (by omega) ?_ | refine BdK.mk (by omega) (by omega) (by omega) ?_ | refine InsK.lit (by omega) (by omega) ?_ | refine SpK.lit ?_ | refine GrdK.same ?_ | refine GrdK.tf ?_ | refine GrdK.ft ?_ | refine PickK.t ?_ | refine PickK.f ?_); (conv => whnf))
      refine EffK.litV rfl rfl rfl rfl rfl rfl rfl rfl rfl ?_
      (conv => whnf); repeat ((first | refine RngK.mk (by omega) (by omega) ?_ | refine NzK.mk (by omega) ?_ | refine NnK.mk (by omega) ?_ | refine BdK.mk (by omega) (by omega) (by omega) ?_ | refine InsK.lit (by omega) (by omega) ?_ | refine SpK.lit ?_ | refine GrdK.same ?_ | refine GrdK.tf ?_ | refine GrdK.ft ?_ | refine PickK.t ?_ | refine PickK.f ?_); (conv => whnf))
      intro b2
      (conv => whnf); repeat ((first | refine RngK.mk (by omega) (by omega) ?_ | refine NzK.mk (by omega) ?_ | refine NnK.mk (by omega) ?_ | refine BdK.mk (by omega) (by omega) (by omega) ?_ | refine InsK.lit (by omega) (by omega) ?_ | refine SpK.lit ?_ | refine GrdK.same ?_ | refine GrdK.tf ?_ | refine GrdK.ft ?_ | refine PickK.t ?_ | refine PickK.f ?_); (conv => whnf))
      refine Wp.loop (fun s : Nat × Option Addr × Nat × Option Addr × Nat => [(23, .slice A n c), (24, vI n), (25, vI s.1), (3, .slice s.2.1 s.1 s.2.2.1), (4, .slice s.2.2.2.1 s.1 s.2.2.2.2)])
        (fun s => [.own s.2.1 s.1 s.2.2.1 3 1 (((zs.take s.1).map lowBit).map vI), .own s.2.2.2.1 s.1 s.2.2.2.2 3 1 ((List.replicate s.1 1).map vI)]) (fun s => s.1 ≤ n) (fun s => n - s.1) (0, some ⟨b1, 0, none⟩, 0, some ⟨b2, 0, none⟩, 0)
        ⟨rfl, rfl, rfl, rfl, rfl, trivial⟩ (HSub.of [1, 0] rfl) (Nat.zero_le _) fun ⟨k, A1, c1, A2, c2⟩ hk => ?_
      dsimp only at hk ⊢
      (conv => whnf); repeat ((first | refine RngK.mk (by omega) (by omega) ?_ | refine NzK.mk (by omega) ?_ | refine NnK.mk (by omega) ?_ | refine BdK.mk (by omega) (by omega) (by omega) ?_ | refine InsK.lit (by omega) (by omega) ?_ | refine SpK.lit ?_ | refine GrdK.same ?_ | refine GrdK.tf ?_ | refine GrdK.ft ?_ | refine PickK.t ?_ | refine PickK.f ?_); (conv => whnf))
      refine Wp.cond rfl (fun h => ?_) (fun h => ?_)
      · have h := dT h
        have hk' : k < zs.length := by omega
        (conv => whnf); repeat ((first | refine RngK.mk (by omega) (by omega) ?_ | refine NzK.mk (by omega) ?_ | refine NnK.mk (by omega) ?_ | refine BdK.mk (by omega) (by omega) (by omega) ?_ | refine InsK.lit (by omega) (by omega) ?_ | refine SpK.lit ?_ | refine GrdK.same ?_ | refine GrdK.tf ?_ | refine GrdK.ft ?_ | refine PickK.t ?_ | refine PickK.f ?_); (conv => whnf))
        refine InsK.rd hz.rd (by omega) (by omega) ?_
        (conv => whnf); repeat ((first | refine RngK.mk (by omega) (by omega) ?_ | refine NzK.mk (by omega) ?_ | refine NnK.mk (by omega) ?_ | refine BdK.mk (by omega) (by omega) (by omega) ?_ | refine InsK.lit (by omega) (by omega) ?_ | refine SpK.lit ?_ | refine GrdK.same ?_ | refine GrdK.tf ?_ | refine GrdK.ft ?_ | refine PickK.t ?_ | refine PickK.f ?_); (conv => whnf))
        refine LdK.rd (v := vI zs[k]) hz.rd k rfl rfl rfl (by simp [hk']) ?_
        (conv => whnf); repeat ((first | refine RngK.mk (by omega) (by omega) ?_ | refine NzK.mk (by omega) ?_ | refine NnK.mk (by omega) ?_ | refine BdK.mk (by omega) (by omega) (by omega) ?_ | refine InsK.lit (by omega) (by omega) ?_ | refine SpK.lit ?_ | refine GrdK.same ?_ | refine GrdK.tf ?_ | refine GrdK.ft ?_ | refine PickK.t ?_ | refine PickK.f ?_); (conv => whnf))
        refine EffK.litV rfl rfl rfl rfl rfl rfl rfl rfl rfl ?_
        (conv => whnf); repeat ((first | refine RngK.mk (by omega) (by omega) ?_ | refine NzK.mk (by omega) ?_ | refine NnK.mk (by omega) ?_ | refine BdK.mk (by omega) (by omega) (by omega) ?_ | refine InsK.lit (by omega) (by omega) ?_ | refine SpK.lit ?_ | refine GrdK.same ?_ | refine GrdK.tf ?_ | refine GrdK.ft ?_ | refine PickK.t ?_ | refine PickK.f ?_); (conv => whnf))
        intro b3
        (conv => whnf); repeat ((first | refine RngK.mk (by omega) (by omega) ?_ | refine NzK.mk (by omega) ?_ | refine NnK.mk (by omega) ?_ | refine BdK.mk (by omega) (by omega) (by omega) ?_ | refine InsK.lit (by omega) (by omega) ?_ | refine SpK.lit ?_ | refine GrdK.same ?_ | refine GrdK.tf ?_ | refine GrdK.ft ?_ | refine PickK.t ?_ | refine PickK.f ?_); (conv => whnf))
        refine EffK.append 1 (news := [vI (lowBit zs[k])]) rfl rfl rfl rfl rfl rfl rfl rfl (Src.ownW (k := 0) rfl rfl) (by intro u hu; obtain rfl := List.mem_singleton.1 hu; rfl) (by simp [maxLen]; omega) (by show (_ + _) * 8 ≤ _; omega) fun A1' c1' => ?_
        (conv => whnf); repeat ((first | refine RngK.mk (by omega) (by omega) ?_ | refine NzK.mk (by omega) ?_ | refine NnK.mk (by omega) ?_ | refine BdK.mk (by omega) (by omega) (by omega) ?_ | refine InsK.lit (by omega) (by omega) ?_ | refine SpK.lit ?_ | refine GrdK.same ?_ | refine GrdK.tf ?_ | refine GrdK.ft ?_ | refine PickK.t ?_ | refine PickK.f ?_); (conv => whnf))
        refine EffK.litV rfl rfl rfl rfl rfl rfl rfl rfl rfl ?_
        (conv => whnf); repeat ((first | refine RngK.mk (by omega) (by omega) ?_ | refine NzK.mk (by omega) ?_ | refine NnK.mk (by omega) ?_ | refine BdK.mk (by omega) (by omega) (by omega) ?_ | refine InsK.lit (by omega) (by omega) ?_ | refine SpK.lit ?_ | refine GrdK.same ?_ | refine GrdK.tf ?_ | refine GrdK.ft ?_ | refine PickK.t ?_ | refine PickK.f ?_); (conv => whnf))
        intro b4
        (conv => whnf); repeat ((first | refine RngK.mk (by omega) (by omega) ?_ | refine NzK.mk (by omega) ?_ | refine NnK.mk (by omega) ?_ | refine BdK.mk (by omega) (by omega) (by omega) ?_ | refine InsK.lit (by omega) (by omega) ?_ | refine SpK.lit ?_ | refine GrdK.same ?_ | refine GrdK.tf ?_ | refine GrdK.ft ?_ | refine PickK.t ?_ | refine PickK.f ?_); (conv => whnf))
        refine EffK.append 3 (news := [vI 1]) rfl rfl rfl rfl rfl rfl rfl rfl (Src.ownW (k := 0) rfl rfl) (by intro u hu; obtain rfl := List.mem_singleton.1 hu; rfl) (by simp [maxLen]; omega) (by show (_ + _) * 8 ≤ _; omega) fun A2' c2' => ?_
        (conv => whnf); repeat ((first | refine RngK.mk (by omega) (by omega) ?_ | refine NzK.mk (by omega) ?_ | refine NnK.mk (by omega) ?_ | refine BdK.mk (by omega) (by omega) (by omega) ?_ | refine InsK.lit (by omega) (by omega) ?_ | refine SpK.lit ?_ | refine GrdK.same ?_ | refine GrdK.tf ?_ | refine GrdK.ft ?_ | refine PickK.t ?_ | refine PickK.f ?_); (conv => whnf))
        refine ⟨(k + 1, A1', c1', A2', c2'), ⟨rfl, rfl, rfl, rfl, rfl, trivial⟩, ?_, by simp only; omega, by simp only; omega⟩
        dsimp only
        rw [List.take_succ_eq_append_getElem hk', List.replicate_succ', List.map_append, List.map_append, List.map_append]
        exact HSub.of [2, 2] rfl
      · have h := dF h
        have hkn : k = n := by omega
        subst hkn
        rw [← hlz, List.take_length]
        obtain ⟨L, hL'⟩ : ∃ L, zs.map lowBit = L := ⟨_, rfl⟩
        have hLl : L.length = zs.length := by rw [← hL', List.length_map]
        have h01 : ∀ z ∈ L, z = 0 ∨ z = 1 := by
          intro z hz
          rw [← hL'] at hz
          obtain ⟨x, _, rfl⟩ := List.mem_map.1 hz
          exact lowBit_01 x
        rw [hL', ← hLl]
        have hLn : L.length ≤ 1000000 := by omega
        (conv => whnf); repeat ((first | refine RngK.mk (by omega) (by omega) ?_ | refine NzK.mk (by omega) ?_ | refine NnK.mk (by omega) ?_ | refine BdK.mk (by omega) (by omega) (by omega) ?_ | refine InsK.lit (by omega) (by omega) ?_ | refine SpK.lit ?_ | refine GrdK.same ?_ | refine GrdK.tf ?_ | refine GrdK.ft ?_ | refine PickK.t ?_ | refine PickK.f ?_); (conv => whnf))
        refine CallK.of [] (stream_spec A1 L.length c1 L h01 hLn) rfl (fun w hw => Rd.ofOwn hw 0 rfl) ?_
        rintro _ _ ⟨bs, A3, c3, rfl, rfl, hbl, hN⟩
        have ho : L.length / 8 < bs.length := by omega
        obtain ⟨ht1, ht2⟩ := stream_top h01 hN ho
        have eo : (bs.length : Int) - 1 = ((L.length / 8 : Nat) : Int) := by omega
        have r1 : rev (num bs) 0 [] L.length (List.replicate L.length 1) = (L, true, 0) := by
          have := rev_ones h01 [] L.length 0 [] (by omega)
          rw [List.append_nil] at this
          rw [hN, this]
          rfl
        have r2 : rev (num bs) 0 [] L.length (List.replicate L.length 1 ++ [1]) = (L, false, 0) := by
          have := rev_ones h01 [1] L.length 0 [] (by omega)
          rw [hN, this]
          rfl
        (conv => whnf); repeat ((first | refine RngK.mk (by omega) (by omega) ?_ | refine NzK.mk (by omega) ?_ | refine NnK.mk (by omega) ?_ | refine BdK.mk (by omega) (by omega) (by omega) ?_ | refine InsK.lit (by omega) (by omega) ?_ | refine SpK.lit ?_ | refine GrdK.same ?_ | refine GrdK.tf ?_ | refine GrdK.ft ?_ | refine PickK.t ?_ | refine PickK.f ?_); (conv => whnf))
        rw [eo]
        refine CallK.of [] (reverse_spec A3 A2 bs.length c3 L.length c2 (L.length / 8) 0 bs (List.replicate L.length 1) e u (by omega) ho (by omega) (by omega)) rfl
          (fun w hw => ⟨Bytes.ofOwn hw 0 rfl, ints_own hw 2 rfl (by intro z hz; obtain rfl := List.eq_of_mem_replicate hz; omega), hL.pass hw⟩) ?_
        rintro v _ (⟨g, -⟩ | ⟨-, A4, c4, rfl, rfl⟩)
        · omega
        rw [ht2, r1]
        (conv => whnf); repeat ((first | refine RngK.mk (by omega) (by omega) ?_ | refine NzK.mk (by omega) ?_ | refine NnK.mk (by omega) ?_ | refine BdK.mk (by omega) (by omega) (by omega) ?_ | refine InsK.lit (by omega) (by omega) ?_ | refine SpK.lit ?_ | refine GrdK.same ?_ | refine GrdK.tf ?_ | refine GrdK.ft ?_ | refine PickK.t ?_ | refine PickK.f ?_); (conv => whnf))
        rw [eo]
        refine EffK.litV rfl rfl rfl rfl rfl rfl rfl rfl rfl ?_
        (conv => whnf); repeat ((first | refine RngK.mk (by omega) (by omega) ?_ | refine NzK.mk (by omega) ?_ | refine NnK.mk (by omega) ?_ | refine BdK.mk (by omega) (by omega) (by omega) ?_ | refine InsK.lit (by omega) (by omega) ?_ | refine SpK.lit ?_ | refine GrdK.same ?_ | refine GrdK.tf ?_ | refine GrdK.ft ?_ | refine PickK.t ?_ | refine PickK.f ?_); (conv => whnf))
        intro b5
        (conv => whnf); repeat ((first | refine RngK.mk (by omega) (by omega) ?_ | refine NzK.mk (by omega) ?_ | refine NnK.mk (by omega) ?_ | refine BdK.mk (by omega) (by omega) (by omega) ?_ | refine InsK.lit (by omega) (by omega) ?_ | refine SpK.lit ?_ | refine GrdK.same ?_ | refine GrdK.tf ?_ | refine GrdK.ft ?_ | refine PickK.t ?_ | refine PickK.f ?_); (conv => whnf))
        refine EffK.append 4 (news := [vI 1]) rfl rfl rfl rfl rfl rfl rfl rfl (Src.ownW (k := 0) rfl rfl) (by intro u hu; obtain rfl := List.mem_singleton.1 hu; rfl) (by simp [maxLen]; omega) (by show (_ + _) * 8 ≤ _; omega) fun A5 c5 => ?_
        have erep : (List.replicate L.length (1 : Int)).map vI ++ [vI 1] = (List.replicate L.length (1 : Int) ++ [1]).map vI := by rw [List.map_append]; rfl
        rw [erep]
        (conv => whnf); repeat ((first | refine RngK.mk (by omega) (by omega) ?_ | refine NzK.mk (by omega) ?_ | refine NnK.mk (by omega) ?_ | refine BdK.mk (by omega) (by omega) (by omega) ?_ | refine InsK.lit (by omega) (by omega) ?_ | refine SpK.lit ?_ | refine GrdK.same ?_ | refine GrdK.tf ?_ | refine GrdK.ft ?_ | refine PickK.t ?_ | refine PickK.f ?_); (conv => whnf))
        refine CallK.of [] (reverse_spec A3 A5 bs.length c3 (L.length + 1) c5 (L.length / 8) 0 bs (List.replicate L.length 1 ++ [1]) e u (by omega) ho (by omega) (by omega)) rfl
          (fun w hw => ⟨Bytes.ofOwn hw 2 rfl, ints_own hw 4 rfl (by intro z hz; rcases List.mem_append.1 hz with hz | hz; (obtain rfl := List.eq_of_mem_replicate hz; omega); (obtain rfl := List.mem_singleton.1 hz; omega)), hL.pass hw⟩) ?_
        rintro v _ (⟨g, -⟩ | ⟨-, A6, c6, rfl, rfl⟩)
        · omega
        rw [ht2, r2]
        (conv => whnf); repeat ((first | refine RngK.mk (by omega) (by omega) ?_ | refine NzK.mk (by omega) ?_ | refine NnK.mk (by omega) ?_ | refine BdK.mk (by omega) (by omega) (by omega) ?_ | refine InsK.lit (by omega) (by omega) ?_ | refine SpK.lit ?_ | refine GrdK.same ?_ | refine GrdK.tf ?_ | refine GrdK.ft ?_ | refine PickK.t ?_ | refine PickK.f ?_); (conv => whnf))
        refine CallK.of [] (sameInts_spec A4 A1 L.length L.length c4 c1 L L) rfl (fun w hw => ⟨Rd.ofOwn hw 2 rfl, Rd.ofOwn hw 4 rfl, by simp [maxLen]; omega⟩) ?_
        rintro _ _ ⟨rfl, rfl⟩
        rw [decide_eq_true rfl]
        (conv => whnf); repeat ((first | refine RngK.mk (by omega) (by omega) ?_ | refine NzK.mk (by omega) ?_ | refine NnK.mk (by omega) ?_ | refine BdK.mk (by omega) (by omega) (by omega) ?_ | refine InsK.lit (by omega) (by omega) ?_ | refine SpK.lit ?_ | refine GrdK.same ?_ | refine GrdK.tf ?_ | refine GrdK.ft ?_ | refine PickK.t ?_ | refine PickK.f ?_); (conv => whnf))
        exact ⟨[], HSub.nil _, rfl, rfl⟩
end Go.Proofs.YtagcmlbpppmbfaaDoor
