/- The reference's weights: four bits each, or told by a table of states. -/
import Derived.Test.YtgdhdkjbilifiaaDoorPkC
import Derived.Test.YtgdhdkjbilifiaaDoorSdU
import Derived.Test.YtgdhdkjbilifiaaDoorRvR
namespace Go.Proofs.YtgdhdkjbilifiaaDoor
open Go Go.Sx
set_option maxRecDepth 100000
theorem nibs_next (bs : List UInt8) (a k : Nat) : nibs bs a (k + 1) = nibs bs a k ++ [if k % 2 = 0 then (bs.getD (a + k / 2) 0).toNat / 16 else (bs.getD (a + k / 2) 0).toNat % 16] := by
  simp [nibs, List.range_succ]
set_option maxHeartbeats 1000000 in
theorem directW_spec (A : Option Addr) (n c : Nat) (bs : List UInt8) (off : Nat) (hn : n ≤ 1000000) (ho : off < bs.length) (hd : 128 ≤ bs[off].toNat) :
    FnS Tryd.prog 35 [.slice A n c, vN off] [] (fun w => Bytes w (blocks []) A n c bs)
      (fun v H => (bs.length < off + 1 + (bs[off].toNat - 126) / 2 + 4 ∧ v = .tuple #[.slice none 0 0, vI 0, vI 2] ∧ H = []) ∨
        (off + 1 + (bs[off].toNat - 126) / 2 + 4 ≤ bs.length ∧ ∃ A1 c1, v = .tuple #[.slice A1 (bs[off].toNat - 127) c1, vN (off + 1 + (bs[off].toNat - 126) / 2), vI 0] ∧ H = [.own A1 (bs[off].toNat - 127) c1 3 1 ((nibs bs (off + 1) (bs[off].toNat - 127)).map vN)])) := by
  refine FnS.introD Tryd.func35 rfl (by kernel_rfl) rfl fun w hH hp => ?_
  obtain rfl : bs.length = n := hp.len
  have hq8 := bs[off].toNat_lt
  obtain ⟨q, hq⟩ : ∃ q, bs[off].toNat = q := ⟨_, rfl⟩
  rw [hq] at hd hq8
  rw [hq]
  have e1 : (q : Int) - 127 = ((q - 127 : Nat) : Int) := by omega
  have e2 : (((q - 127 : Nat) : Int) + 1).tdiv 2 = (((q - 126) / 2 : Nat) : Int) := by
    rw [Int.tdiv_eq_ediv_of_nonneg (by omega)]
    omega
  (conv => whnf); repeat ((first | refine RngK.mk (by omega) (by omega) ?_ | refine NzK.mk (by omega) ?_ | refine NnK.mk (by omega) ?_ | refine BdK.mk (by omega) (by omega) (by omega) ?_ | refine InsK.lit (by omega) (by omega) ?_ | refine SpK.lit ?_ | refine GrdK.same ?_ | refine GrdK.tf ?_ | refine GrdK.ft ?_ | refine PickK.t ?_ | refine PickK.f ?_); (conv => whnf))
  refine InsK.rd hp.rd (by omega) (by omega) ?_
  (conv => whnf); repeat ((first | refine RngK.mk (by omega) (by omega) ?_ | refine NzK.mk (by omega) ?_ | refine NnK.mk (by omega) ?_ | refine BdK.mk (by omega) (by omega) (by omega) ?_ | refine InsK.lit (by omega) (by omega) ?_ | refine SpK.lit ?_ | refine GrdK.same ?_ | refine GrdK.tf ?_ | refine GrdK.ft ?_ | refine PickK.t ?_ | refine PickK.f ?_); (conv => whnf))
  refine LdK.rd (v := vU8 bs[off]) hp.rd off rfl rfl rfl (by simp [ho]) ?_
  (conv => whnf); repeat ((first | refine RngK.mk (by omega) (by omega) ?_ | refine NzK.mk (by omega) ?_ | refine NnK.mk (by omega) ?_ | refine BdK.mk (by omega) (by omega) (by omega) ?_ | refine InsK.lit (by omega) (by omega) ?_ | refine SpK.lit ?_ | refine GrdK.same ?_ | refine GrdK.tf ?_ | refine GrdK.ft ?_ | refine PickK.t ?_ | refine PickK.f ?_); (conv => whnf))
  rw [hq]
  (conv => whnf); repeat ((first | refine RngK.mk (by omega) (by omega) ?_ | refine NzK.mk (by omega) ?_ | refine NnK.mk (by omega) ?_ | refine BdK.mk (by omega) (by omega) (by omega) ?_ | refine InsK.lit (by omega) (by omega) ?_ | refine SpK.lit ?_ | refine GrdK.same ?_ | refine GrdK.tf ?_ | refine GrdK.ft ?_ | refine PickK.t ?_ | refine PickK.f ?_); (conv => whnf))
  rw [e1]
  (conv => whnf); repeat ((first | refine RngK.mk (by omega) (by omega) ?_ | refine NzK.mk (by omega) ?_ | refine NnK.mk (by omega) ?_ | refine BdK.mk (by omega) (by omega) (by omega) ?_ | refine InsK.lit (by omega) (by omega) ?_ | refine SpK.lit ?_ | refine GrdK.same ?_ | refine GrdK.tf ?_ | refine GrdK.ft ?_ | refine PickK.t ?_ | refine PickK.f ?_); (conv => whnf))
  rw [e2]
  refine Wp.cond rfl (fun h => ?_) (fun h => ?_)
  · have h := dT h
    (conv => whnf); repeat ((first | refine RngK.mk (by omega) (by omega) ?_ | refine NzK.mk (by omega) ?_ | refine NnK.mk (by omega) ?_ | refine BdK.mk (by omega) (by omega) (by omega) ?_ | refine InsK.lit (by omega) (by omega) ?_ | refine SpK.lit ?_ | refine GrdK.same ?_ | refine GrdK.tf ?_ | refine GrdK.ft ?_ | refine PickK.t ?_ | refine PickK.f ?_); (conv => whnf))
    exact ⟨[], HSub.nil _, .inl ⟨by omega, rfl, rfl⟩⟩
  have h := dF h
  (conv => whnf); repeat ((first | refine RngK.mk (by omega) (by omega) ?_ | refine NzK.mk (by omega) ?_ | refine NnK.mk (by omega) ?_ | refine BdK.mk (by omega) (by omega) (by omega) ?_ | refine InsK.lit (by omega) (by omega) ?_ | refine SpK.lit ?_ | refine GrdK.same ?_ | refine GrdK.tf ?_ | refine GrdK.ft ?_ | refine PickK.t ?_ | refine PickK.f ?_); (conv => whnf))
  refine EffK.lit0 rfl rfl fun bk => ?_
  (conv => whnf); repeat ((first | refine RngK.mk (by omega) (by omega) ?_ | refine NzK.mk (by omega) ?_ | refine NnK.mk (by omega) ?_ | refine BdK.mk (by omega) (by omega) (by omega) ?_ | refine InsK.lit (by omega) (by omega) ?_ | refine SpK.lit ?_ | refine GrdK.same ?_ | refine GrdK.tf ?_ | refine GrdK.ft ?_ | refine PickK.t ?_ | refine PickK.f ?_); (conv => whnf))
  obtain ⟨mn, hmn⟩ : ∃ k, q - 127 = k := ⟨_, rfl⟩
  have hmn2 : off + 1 + (mn + 1) / 2 + 4 ≤ bs.length := by omega
  rw [hmn]
  have hnl := fun k => nibs_len bs (off + 1) k
  refine Wp.loop (fun t : Nat × Option Addr × Nat => [(0, .slice A bs.length c), (1, vN off), (8, vN (off + 1 + (q - 126) / 2)), (9, .slice t.2.1 t.1 t.2.2), (29, vN mn), (30, vN t.1)])
    (fun t => [.own t.2.1 t.1 t.2.2 3 1 ((nibs bs (off + 1) t.1).map vN)]) (fun t => t.1 ≤ mn) (fun t => mn - t.1) (0, some ⟨bk, 0, none⟩, 0) ⟨rfl, rfl, rfl, rfl, rfl, rfl, trivial⟩ (HSub.refl _) (Nat.zero_le _) fun ⟨k, A1, c1⟩ hk => ?_
  dsimp only at hk ⊢
  (conv => whnf); repeat ((first | refine RngK.mk (by omega) (by omega) ?_ | refine NzK.mk (by omega) ?_ | refine NnK.mk (by omega) ?_ | refine BdK.mk (by omega) (by omega) (by omega) ?_ | refine InsK.lit (by omega) (by omega) ?_ | refine SpK.lit ?_ | refine GrdK.same ?_ | refine GrdK.tf ?_ | refine GrdK.ft ?_ | refine PickK.t ?_ | refine PickK.f ?_); (conv => whnf))
  refine Wp.cond rfl (fun h => ?_) (fun h => ?_)
  rotate_left
  · have h := dF h
    obtain rfl : k = mn := by omega
    (conv => whnf); repeat ((first | refine RngK.mk (by omega) (by omega) ?_ | refine NzK.mk (by omega) ?_ | refine NnK.mk (by omega) ?_ | refine BdK.mk (by omega) (by omega) (by omega) ?_ | refine InsK.lit (by omega) (by omega) ?_ | refine SpK.lit ?_ | refine GrdK.same ?_ | refine GrdK.tf ?_ | refine GrdK.ft ?_ | refine PickK.t ?_ | refine PickK.f ?_); (conv => whnf))
    exact ⟨_, HSub.refl _, .inr ⟨by omega, A1, c1, rfl, rfl⟩⟩
  have h := dT h
  have hj : off + 1 + k / 2 < bs.length := by omega
  have hb8 := bs[off + 1 + k / 2].toNat_lt
  have hgd : bs.getD (off + 1 + k / 2) 0 = bs[off + 1 + k / 2] := by simp [hj]
  have hnt := nibs_next bs (off + 1) k
  rw [hgd] at hnt
  have ediv : ((k : Nat) : Int).tdiv 2 = ((k / 2 : Nat) : Int) := rfl
  have emod : ((k : Nat) : Int).tmod 2 = ((k % 2 : Nat) : Int) := rfl
  have eix : (off : Int) + 1 + ((k / 2 : Nat) : Int) = ((off + 1 + k / 2 : Nat) : Int) := by omega
  obtain ⟨bv, hbv⟩ : ∃ x, bs[off + 1 + k / 2].toNat = x := ⟨_, rfl⟩
  rw [hbv] at hnt hb8
  (conv => whnf); repeat ((first | refine RngK.mk (by omega) (by omega) ?_ | refine NzK.mk (by omega) ?_ | refine NnK.mk (by omega) ?_ | refine BdK.mk (by omega) (by omega) (by omega) ?_ | refine InsK.lit (by omega) (by omega) ?_ | refine SpK.lit ?_ | refine GrdK.same ?_ | refine GrdK.tf ?_ | refine GrdK.ft ?_ | refine PickK.t ?_ | refine PickK.f ?_); (conv => whnf))
  rw [ediv]
  (conv => whnf); repeat ((first | refine RngK.mk (by omega) (by omega) ?_ | refine NzK.mk (by omega) ?_ | refine NnK.mk (by omega) ?_ | refine BdK.mk (by omega) (by omega) (by omega) ?_ | refine InsK.lit (by omega) (by omega) ?_ | refine SpK.lit ?_ | refine GrdK.same ?_ | refine GrdK.tf ?_ | refine GrdK.ft ?_ | refine PickK.t ?_ | refine PickK.f ?_); (conv => whnf))
  rw [eix]
  refine InsK.rd hp.rd (by omega) (by omega) ?_
  (conv => whnf); repeat ((first | refine RngK.mk (by omega) (by omega) ?_ | refine NzK.mk (by omega) ?_ | refine NnK.mk (by omega) ?_ | refine BdK.mk (by omega) (by omega) (by omega) ?_ | refine InsK.lit (by omega) (by omega) ?_ | refine SpK.lit ?_ | refine GrdK.same ?_ | refine GrdK.tf ?_ | refine GrdK.ft ?_ | refine PickK.t ?_ | refine PickK.f ?_); (conv => whnf))
  refine LdK.rd (v := vU8 bs[off + 1 + k / 2]) hp.rd (off + 1 + k / 2) rfl rfl rfl (by simp [hj]) ?_
  (conv => whnf); repeat ((first | refine RngK.mk (by omega) (by omega) ?_ | refine NzK.mk (by omega) ?_ | refine NnK.mk (by omega) ?_ | refine BdK.mk (by omega) (by omega) (by omega) ?_ | refine InsK.lit (by omega) (by omega) ?_ | refine SpK.lit ?_ | refine GrdK.same ?_ | refine GrdK.tf ?_ | refine GrdK.ft ?_ | refine PickK.t ?_ | refine PickK.f ?_); (conv => whnf))
  rw [hbv, emod]
  obtain ⟨sv, hsv, hsv2, hsv3⟩ : ∃ sv : Nat, ishr .u8 (bv : Int) (4 - 4 * ((k % 2 : Nat) : Int)) = (sv : Int) ∧ sv < 256 ∧ sv % 16 = (if k % 2 = 0 then bv / 16 else bv % 16) := by
    rcases (show k % 2 = 0 ∨ k % 2 = 1 by omega) with hk2 | hk2
    · rw [hk2, if_pos rfl]
      have := ishr_nat .u8 bv (n := 4) (by decide)
      exact ⟨bv / 16, by rw [show (4 : Int) - 4 * ((0 : Nat) : Int) = ((4 : Nat) : Int) by omega, this], by omega, by omega⟩
    · rw [hk2, if_neg (by omega)]
      have := ishr_nat .u8 bv (n := 0) (by decide)
      exact ⟨bv, by rw [show (4 : Int) - 4 * ((1 : Nat) : Int) = ((0 : Nat) : Int) by omega, this, Nat.pow_zero, Nat.div_one], by omega, rfl⟩
  have hval : iand .i64 (sv : Int) 15 = ((sv % 16 : Nat) : Int) := by
    have := iand_i64 (x := sv) (y := 15) (by omega) (by decide)
    rw [show (15 : Nat) = 2 ^ 4 - 1 by rfl, Nat.and_two_pow_sub_one_eq_mod] at this
    exact this
  rw [hsv]
  (conv => whnf); repeat ((first | refine RngK.mk (by omega) (by omega) ?_ | refine NzK.mk (by omega) ?_ | refine NnK.mk (by omega) ?_ | refine BdK.mk (by omega) (by omega) (by omega) ?_ | refine InsK.lit (by omega) (by omega) ?_ | refine SpK.lit ?_ | refine GrdK.same ?_ | refine GrdK.tf ?_ | refine GrdK.ft ?_ | refine PickK.t ?_ | refine PickK.f ?_); (conv => whnf))
  rw [hval, hsv3]
  refine EffK.litV rfl rfl rfl rfl rfl rfl rfl rfl rfl ?_
  (conv => whnf); repeat ((first | refine RngK.mk (by omega) (by omega) ?_ | refine NzK.mk (by omega) ?_ | refine NnK.mk (by omega) ?_ | refine BdK.mk (by omega) (by omega) (by omega) ?_ | refine InsK.lit (by omega) (by omega) ?_ | refine SpK.lit ?_ | refine GrdK.same ?_ | refine GrdK.tf ?_ | refine GrdK.ft ?_ | refine PickK.t ?_ | refine PickK.f ?_); (conv => whnf))
  intro b3
  (conv => whnf); repeat ((first | refine RngK.mk (by omega) (by omega) ?_ | refine NzK.mk (by omega) ?_ | refine NnK.mk (by omega) ?_ | refine BdK.mk (by omega) (by omega) (by omega) ?_ | refine InsK.lit (by omega) (by omega) ?_ | refine SpK.lit ?_ | refine GrdK.same ?_ | refine GrdK.tf ?_ | refine GrdK.ft ?_ | refine PickK.t ?_ | refine PickK.f ?_); (conv => whnf))
  refine EffK.append 1 (news := [vN (if k % 2 = 0 then bv / 16 else bv % 16)]) rfl rfl rfl rfl rfl rfl rfl rfl (Src.ownW (k := 0) rfl rfl) (by intro u hu; obtain rfl := List.mem_singleton.1 hu; rfl) (by simp [maxLen]; omega) (by show (_ + _) * 8 ≤ _; omega) fun A' cap' => ?_
  (conv => whnf); repeat ((first | refine RngK.mk (by omega) (by omega) ?_ | refine NzK.mk (by omega) ?_ | refine NnK.mk (by omega) ?_ | refine BdK.mk (by omega) (by omega) (by omega) ?_ | refine InsK.lit (by omega) (by omega) ?_ | refine SpK.lit ?_ | refine GrdK.same ?_ | refine GrdK.tf ?_ | refine GrdK.ft ?_ | refine PickK.t ?_ | refine PickK.f ?_); (conv => whnf))
  refine ⟨(k + 1, A', cap'), ⟨rfl, rfl, rfl, rfl, rfl, rfl, trivial⟩, ?_, by simp only; omega, by simp only; omega⟩
  dsimp only
  rw [hnt, List.map_append]
  exact HSub.of [1] rfl
/-- what is told of weights -/
def WOut (R : Option (List Nat)) (p : Nat) (v : Value) (H : Hp) : Prop :=
  ∃ A1 k c1 y t, v = .tuple #[.slice A1 k c1, vN y, vN t] ∧ ((t = 2 ∧ H = []) ∨ (t = 1 ∧ R = none ∧ H = []) ∨ (t = 0 ∧ ∃ ws, R = some ws ∧ k = ws.length ∧ y = p ∧ H = [.own A1 k c1 3 1 (ws.map vN)]))
theorem stC_at {E : List St} {k : Nat} {x : St} (h : E[k]? = some x) : ∀ q v, (stCells x)[q]? = some v → (E.flatMap stCells)[k * 3 + q]? = some v := by
  intro q v hv
  obtain ⟨hk, hx⟩ := List.getElem?_eq_some_iff.1 h
  rw [flat_rows]
  have hk2 : k < (E.map rowS).length := by rw [List.length_map]; exact hk
  refine flat_at hk2 (fun r hr => by obtain ⟨y, _, rfl⟩ := List.mem_map.1 hr; rfl) ?_
  rw [List.getElem_map, hx]
  exact hv
structure QS where
  f : Nat
  a : Nat
  b : Nat
  ws : List Nat
  p : Nat
  A : Option Addr
  c : Nat
structure QI (N L st fb : Nat) (E : List St) (R : Option (List Nat)) (s : QS) : Prop where
  a_ : s.a < 2 ^ fb
  b_ : s.b < 2 ^ fb
  fl : s.f + s.ws.length = 257
  le : s.ws.length ≤ 256
  st_ : 8 * st ≤ s.p
  p_ : s.p ≤ 8 * L
  r : s.ws.length ≤ 255 → pkL N st E s.f s.a s.b s.p s.ws = R
  r6 : s.ws.length = 256 → R = none
set_option maxHeartbeats 4000000 in
theorem packedW_spec (A : Option Addr) (n c : Nat) (bs : List UInt8) (off : Nat) (hn : n ≤ 1000000) (ho : off < bs.length) (hd : bs[off].toNat < 128) :
    FnS Tryd.prog 34 [.slice A n c, vN off] [] (fun w => Bytes w (blocks []) A n c bs) (WOut (pkW bs off bs[off].toNat) (off + 1 + bs[off].toNat)) := by
  refine FnS.introD Tryd.func34 rfl (by kernel_rfl) rfl fun w hH hp => ?_
  obtain rfl : bs.length = n := hp.len
  obtain ⟨R, hR⟩ : ∃ R, pkW bs off bs[off].toNat = R := ⟨_, rfl⟩
  rw [hR]
  obtain ⟨q, hq⟩ : ∃ q, bs[off].toNat = q := ⟨_, rfl⟩
  rw [hq] at hd hR
  rw [hq]
  unfold pkW at hR
  (conv => whnf); repeat ((first | refine RngK.mk (by omega) (by omega) ?_ | refine NzK.mk (by omega) ?_ | refine NnK.mk (by omega) ?_ | refine BdK.mk (by omega) (by omega) (by omega) ?_ | refine InsK.lit (by omega) (by omega) ?_ | refine SpK.lit ?_ | refine GrdK.same ?_ | refine GrdK.tf ?_ | refine GrdK.ft ?_ | refine PickK.t ?_ | refine PickK.f ?_); (conv => whnf))
  refine InsK.rd hp.rd (by omega) (by omega) ?_
  (conv => whnf); repeat ((first | refine RngK.mk (by omega) (by omega) ?_ | refine NzK.mk (by omega) ?_ | refine NnK.mk (by omega) ?_ | refine BdK.mk (by omega) (by omega) (by omega) ?_ | refine InsK.lit (by omega) (by omega) ?_ | refine SpK.lit ?_ | refine GrdK.same ?_ | refine GrdK.tf ?_ | refine GrdK.ft ?_ | refine PickK.t ?_ | refine PickK.f ?_); (conv => whnf))
  refine LdK.rd (v := vU8 bs[off]) hp.rd off rfl rfl rfl (by simp [ho]) ?_
  (conv => whnf); repeat ((first | refine RngK.mk (by omega) (by omega) ?_ | refine NzK.mk (by omega) ?_ | refine NnK.mk (by omega) ?_ | refine BdK.mk (by omega) (by omega) (by omega) ?_ | refine InsK.lit (by omega) (by omega) ?_ | refine SpK.lit ?_ | refine GrdK.same ?_ | refine GrdK.tf ?_ | refine GrdK.ft ?_ | refine PickK.t ?_ | refine PickK.f ?_); (conv => whnf))
  rw [hq]
  (conv => whnf); repeat ((first | refine RngK.mk (by omega) (by omega) ?_ | refine NzK.mk (by omega) ?_ | refine NnK.mk (by omega) ?_ | refine BdK.mk (by omega) (by omega) (by omega) ?_ | refine InsK.lit (by omega) (by omega) ?_ | refine SpK.lit ?_ | refine GrdK.same ?_ | refine GrdK.tf ?_ | refine GrdK.ft ?_ | refine PickK.t ?_ | refine PickK.f ?_); (conv => whnf))
  refine InsK.rd hp.rd (by omega) (by omega) ?_
  (conv => whnf); repeat ((first | refine RngK.mk (by omega) (by omega) ?_ | refine NzK.mk (by omega) ?_ | refine NnK.mk (by omega) ?_ | refine BdK.mk (by omega) (by omega) (by omega) ?_ | refine InsK.lit (by omega) (by omega) ?_ | refine SpK.lit ?_ | refine GrdK.same ?_ | refine GrdK.tf ?_ | refine GrdK.ft ?_ | refine PickK.t ?_ | refine PickK.f ?_); (conv => whnf))
  refine LdK.rd (v := vU8 bs[off]) hp.rd off rfl rfl rfl (by simp [ho]) ?_
  (conv => whnf); repeat ((first | refine RngK.mk (by omega) (by omega) ?_ | refine NzK.mk (by omega) ?_ | refine NnK.mk (by omega) ?_ | refine BdK.mk (by omega) (by omega) (by omega) ?_ | refine InsK.lit (by omega) (by omega) ?_ | refine SpK.lit ?_ | refine GrdK.same ?_ | refine GrdK.tf ?_ | refine GrdK.ft ?_ | refine PickK.t ?_ | refine PickK.f ?_); (conv => whnf))
  rw [hq]
  by_cases h0 : q = 0
  · rw [show (((q : Nat) : Int) == 0) = true by rw [h0]; rfl]
    (conv => whnf); repeat ((first | refine RngK.mk (by omega) (by omega) ?_ | refine NzK.mk (by omega) ?_ | refine NnK.mk (by omega) ?_ | refine BdK.mk (by omega) (by omega) (by omega) ?_ | refine InsK.lit (by omega) (by omega) ?_ | refine SpK.lit ?_ | refine GrdK.same ?_ | refine GrdK.tf ?_ | refine GrdK.ft ?_ | refine PickK.t ?_ | refine PickK.f ?_); (conv => whnf))
    refine Wp.cond rfl (fun _ => ?_) (fun h => by cases h)
    (conv => whnf); repeat ((first | refine RngK.mk (by omega) (by omega) ?_ | refine NzK.mk (by omega) ?_ | refine NnK.mk (by omega) ?_ | refine BdK.mk (by omega) (by omega) (by omega) ?_ | refine InsK.lit (by omega) (by omega) ?_ | refine SpK.lit ?_ | refine GrdK.same ?_ | refine GrdK.tf ?_ | refine GrdK.ft ?_ | refine PickK.t ?_ | refine PickK.f ?_); (conv => whnf))
    exact ⟨_, HSub.nil _, none, 0, 0, 0, 2, rfl, .inl ⟨rfl, rfl⟩⟩
  rw [show (((q : Nat) : Int) == 0) = false from beq_eq_false_iff_ne.2 (by omega)]
  (conv => whnf); repeat ((first | refine RngK.mk (by omega) (by omega) ?_ | refine NzK.mk (by omega) ?_ | refine NnK.mk (by omega) ?_ | refine BdK.mk (by omega) (by omega) (by omega) ?_ | refine InsK.lit (by omega) (by omega) ?_ | refine SpK.lit ?_ | refine GrdK.same ?_ | refine GrdK.tf ?_ | refine GrdK.ft ?_ | refine PickK.t ?_ | refine PickK.f ?_); (conv => whnf))
  refine Wp.cond rfl (fun h => ?_) (fun h => ?_)
  · (conv => whnf); repeat ((first | refine RngK.mk (by omega) (by omega) ?_ | refine NzK.mk (by omega) ?_ | refine NnK.mk (by omega) ?_ | refine BdK.mk (by omega) (by omega) (by omega) ?_ | refine InsK.lit (by omega) (by omega) ?_ | refine SpK.lit ?_ | refine GrdK.same ?_ | refine GrdK.tf ?_ | refine GrdK.ft ?_ | refine PickK.t ?_ | refine PickK.f ?_); (conv => whnf))
    exact ⟨_, HSub.nil _, none, 0, 0, 0, 2, rfl, .inl ⟨rfl, rfl⟩⟩
  have h := dF h
  (conv => whnf); repeat ((first | refine RngK.mk (by omega) (by omega) ?_ | refine NzK.mk (by omega) ?_ | refine NnK.mk (by omega) ?_ | refine BdK.mk (by omega) (by omega) (by omega) ?_ | refine InsK.lit (by omega) (by omega) ?_ | refine SpK.lit ?_ | refine GrdK.same ?_ | refine GrdK.tf ?_ | refine GrdK.ft ?_ | refine PickK.t ?_ | refine PickK.f ?_); (conv => whnf))
  refine CallK.of [] (sread_spec A bs.length c bs (off + 1) 255 6 (by omega) (by omega) (by omega) (by omega)) rfl (fun w hw => hp.pass hw) ?_
  rintro _ _ ⟨A1, k1, c1, fb, y1, t1, rfl, ⟨rfl, cs, fb', p, hrf, rfl, rfl, rfl, rfl⟩ | ⟨rfl, hrf, rfl⟩ | ⟨rfl, rfl⟩⟩
  rotate_left
  · rw [hrf] at hR
    subst hR
    (conv => whnf); repeat ((first | refine RngK.mk (by omega) (by omega) ?_ | refine NzK.mk (by omega) ?_ | refine NnK.mk (by omega) ?_ | refine BdK.mk (by omega) (by omega) (by omega) ?_ | refine InsK.lit (by omega) (by omega) ?_ | refine SpK.lit ?_ | refine GrdK.same ?_ | refine GrdK.tf ?_ | refine GrdK.ft ?_ | refine PickK.t ?_ | refine PickK.f ?_); (conv => whnf))
    refine Wp.cond rfl (fun _ => ?_) (fun h => by cases h)
    (conv => whnf); repeat ((first | refine RngK.mk (by omega) (by omega) ?_ | refine NzK.mk (by omega) ?_ | refine NnK.mk (by omega) ?_ | refine BdK.mk (by omega) (by omega) (by omega) ?_ | refine InsK.lit (by omega) (by omega) ?_ | refine SpK.lit ?_ | refine GrdK.same ?_ | refine GrdK.tf ?_ | refine GrdK.ft ?_ | refine PickK.t ?_ | refine PickK.f ?_); (conv => whnf))
    exact ⟨_, HSub.nil _, none, 0, 0, 0, 1, rfl, .inr (.inl ⟨rfl, rfl, rfl⟩)⟩
  · (conv => whnf); repeat ((first | refine RngK.mk (by omega) (by omega) ?_ | refine NzK.mk (by omega) ?_ | refine NnK.mk (by omega) ?_ | refine BdK.mk (by omega) (by omega) (by omega) ?_ | refine InsK.lit (by omega) (by omega) ?_ | refine SpK.lit ?_ | refine GrdK.same ?_ | refine GrdK.tf ?_ | refine GrdK.ft ?_ | refine PickK.t ?_ | refine PickK.f ?_); (conv => whnf))
    refine Wp.cond rfl (fun _ => ?_) (fun h => by cases h)
    (conv => whnf); repeat ((first | refine RngK.mk (by omega) (by omega) ?_ | refine NzK.mk (by omega) ?_ | refine NnK.mk (by omega) ?_ | refine BdK.mk (by omega) (by omega) (by omega) ?_ | refine InsK.lit (by omega) (by omega) ?_ | refine SpK.lit ?_ | refine GrdK.same ?_ | refine GrdK.tf ?_ | refine GrdK.ft ?_ | refine PickK.t ?_ | refine PickK.f ?_); (conv => whnf))
    exact ⟨_, HSub.nil _, none, 0, 0, 0, 2, rfl, .inl ⟨rfl, rfl⟩⟩
  rw [hrf] at hR
  obtain ⟨hcc, hsum, _, hfb6, hp1, hp2⟩ := rfS_facts hrf (by omega) (by omega)
  have hfb5 := hcc.b5
  have hE := Es.of hcc hsum hfb6
  have hcs1 : 1 ≤ cs.length := by
    rcases Nat.eq_zero_or_pos cs.length with h0 | h0
    · obtain rfl := List.length_eq_zero_iff.1 h0
      have hs0 : 0 = 2 ^ fb := hsum
      have := Nat.two_pow_pos fb
      omega
    · exact h0
  have hlc := hcc.len
  obtain ⟨st, hste⟩ : ∃ st, (p + 7) / 8 = st := ⟨_, rfl⟩
  dsimp only at hR
  rw [hste] at hR
  rw [hste]
  have ebh : (off : Int) + 1 + (q : Int) = ((off + 1 + q : Nat) : Int) := by omega
  have eb1 : ((off + 1 + q : Nat) : Int) - 1 = ((off + q : Nat) : Int) := by omega
  have hoq : off + q < bs.length := by omega
  have hgd : bs.getD (off + q) 0 = bs[off + q] := by simp [hoq]
  rw [hgd] at hR
  (conv => whnf); repeat ((first | refine RngK.mk (by omega) (by omega) ?_ | refine NzK.mk (by omega) ?_ | refine NnK.mk (by omega) ?_ | refine BdK.mk (by omega) (by omega) (by omega) ?_ | refine InsK.lit (by omega) (by omega) ?_ | refine SpK.lit ?_ | refine GrdK.same ?_ | refine GrdK.tf ?_ | refine GrdK.ft ?_ | refine PickK.t ?_ | refine PickK.f ?_); (conv => whnf))
  refine Wp.cond rfl (fun h => by cases h) (fun _ => ?_)
  (conv => whnf); repeat ((first | refine RngK.mk (by omega) (by omega) ?_ | refine NzK.mk (by omega) ?_ | refine NnK.mk (by omega) ?_ | refine BdK.mk (by omega) (by omega) (by omega) ?_ | refine InsK.lit (by omega) (by omega) ?_ | refine SpK.lit ?_ | refine GrdK.same ?_ | refine GrdK.tf ?_ | refine GrdK.ft ?_ | refine PickK.t ?_ | refine PickK.f ?_); (conv => whnf))
  rw [ebh]
  by_cases hst : off + 1 + q ≤ st
  · rw [if_pos (.inr (.inr hst))] at hR
    subst hR
    rw [decide_eq_true (show ((st : Nat) : Int) ≥ ((off + 1 + q : Nat) : Int) by omega)]
    (conv => whnf); repeat ((first | refine RngK.mk (by omega) (by omega) ?_ | refine NzK.mk (by omega) ?_ | refine NnK.mk (by omega) ?_ | refine BdK.mk (by omega) (by omega) (by omega) ?_ | refine InsK.lit (by omega) (by omega) ?_ | refine SpK.lit ?_ | refine GrdK.same ?_ | refine GrdK.tf ?_ | refine GrdK.ft ?_ | refine PickK.t ?_ | refine PickK.f ?_); (conv => whnf))
    refine Wp.cond rfl (fun _ => ?_) (fun h => by cases h)
    (conv => whnf); repeat ((first | refine RngK.mk (by omega) (by omega) ?_ | refine NzK.mk (by omega) ?_ | refine NnK.mk (by omega) ?_ | refine BdK.mk (by omega) (by omega) (by omega) ?_ | refine InsK.lit (by omega) (by omega) ?_ | refine SpK.lit ?_ | refine GrdK.same ?_ | refine GrdK.tf ?_ | refine GrdK.ft ?_ | refine PickK.t ?_ | refine PickK.f ?_); (conv => whnf))
    exact ⟨_, HSub.nil _, none, 0, 0, 0, 1, rfl, .inr (.inl ⟨rfl, rfl, rfl⟩)⟩
  rw [decide_eq_false (show ¬ ((st : Nat) : Int) ≥ ((off + 1 + q : Nat) : Int) by omega)]
  (conv => whnf); repeat ((first | refine RngK.mk (by omega) (by omega) ?_ | refine NzK.mk (by omega) ?_ | refine NnK.mk (by omega) ?_ | refine BdK.mk (by omega) (by omega) (by omega) ?_ | refine InsK.lit (by omega) (by omega) ?_ | refine SpK.lit ?_ | refine GrdK.same ?_ | refine GrdK.tf ?_ | refine GrdK.ft ?_ | refine PickK.t ?_ | refine PickK.f ?_); (conv => whnf))
  rw [eb1]
  refine InsK.rd hp.rd (by omega) (by omega) ?_
  (conv => whnf); repeat ((first | refine RngK.mk (by omega) (by omega) ?_ | refine NzK.mk (by omega) ?_ | refine NnK.mk (by omega) ?_ | refine BdK.mk (by omega) (by omega) (by omega) ?_ | refine InsK.lit (by omega) (by omega) ?_ | refine SpK.lit ?_ | refine GrdK.same ?_ | refine GrdK.tf ?_ | refine GrdK.ft ?_ | refine PickK.t ?_ | refine PickK.f ?_); (conv => whnf))
  refine LdK.rd (v := vU8 bs[off + q]) hp.rd (off + q) rfl rfl rfl (by simp [hoq]) ?_
  (conv => whnf); repeat ((first | refine RngK.mk (by omega) (by omega) ?_ | refine NzK.mk (by omega) ?_ | refine NnK.mk (by omega) ?_ | refine BdK.mk (by omega) (by omega) (by omega) ?_ | refine InsK.lit (by omega) (by omega) ?_ | refine SpK.lit ?_ | refine GrdK.same ?_ | refine GrdK.tf ?_ | refine GrdK.ft ?_ | refine PickK.t ?_ | refine PickK.f ?_); (conv => whnf))
  refine Wp.cond rfl (fun h => ?_) (fun h => ?_)
  · have h := eqT h
    rw [if_pos (.inr (.inl (by omega)))] at hR
    subst hR
    (conv => whnf); repeat ((first | refine RngK.mk (by omega) (by omega) ?_ | refine NzK.mk (by omega) ?_ | refine NnK.mk (by omega) ?_ | refine BdK.mk (by omega) (by omega) (by omega) ?_ | refine InsK.lit (by omega) (by omega) ?_ | refine SpK.lit ?_ | refine GrdK.same ?_ | refine GrdK.tf ?_ | refine GrdK.ft ?_ | refine PickK.t ?_ | refine PickK.f ?_); (conv => whnf))
    exact ⟨_, HSub.nil _, none, 0, 0, 0, 1, rfl, .inr (.inl ⟨rfl, rfl, rfl⟩)⟩
  have h := eqF h
  have hb0 : 0 < bs[off + q].toNat := by omega
  have hw8 : wd bs[off + q].toNat ≤ 8 := wd_lt (by have := bs[off + q].toNat_lt; omega)
  have hwp := wd_pos hb0
  rw [if_neg (by omega)] at hR
  (conv => whnf); repeat ((first | refine RngK.mk (by omega) (by omega) ?_ | refine NzK.mk (by omega) ?_ | refine NnK.mk (by omega) ?_ | refine BdK.mk (by omega) (by omega) (by omega) ?_ | refine InsK.lit (by omega) (by omega) ?_ | refine SpK.lit ?_ | refine GrdK.same ?_ | refine GrdK.tf ?_ | refine GrdK.ft ?_ | refine PickK.t ?_ | refine PickK.f ?_); (conv => whnf))
  refine CallK.of [] (build_spec A1 cs.length c1 fb cs hcc hcs1) rfl (fun w hw => Rd.ofOwn hw 0 rfl) ?_
  rintro _ _ ⟨A2, c2, rfl, rfl⟩
  obtain ⟨E, hEe⟩ : ∃ E, buildN cs fb = E := ⟨_, rfl⟩
  rw [hEe] at hE hR
  rw [hEe]
  (conv => whnf); repeat ((first | refine RngK.mk (by omega) (by omega) ?_ | refine NzK.mk (by omega) ?_ | refine NnK.mk (by omega) ?_ | refine BdK.mk (by omega) (by omega) (by omega) ?_ | refine InsK.lit (by omega) (by omega) ?_ | refine SpK.lit ?_ | refine GrdK.same ?_ | refine GrdK.tf ?_ | refine GrdK.ft ?_ | refine PickK.t ?_ | refine PickK.f ?_); (conv => whnf))
  rw [eb1]
  refine EffK.litV rfl rfl rfl rfl rfl rfl rfl rfl rfl ?_
  (conv => whnf); repeat ((first | refine RngK.mk (by omega) (by omega) ?_ | refine NzK.mk (by omega) ?_ | refine NnK.mk (by omega) ?_ | refine BdK.mk (by omega) (by omega) (by omega) ?_ | refine InsK.lit (by omega) (by omega) ?_ | refine SpK.lit ?_ | refine GrdK.same ?_ | refine GrdK.tf ?_ | refine GrdK.ft ?_ | refine PickK.t ?_ | refine PickK.f ?_); (conv => whnf))
  intro b3
  (conv => whnf); repeat ((first | refine RngK.mk (by omega) (by omega) ?_ | refine NzK.mk (by omega) ?_ | refine NnK.mk (by omega) ?_ | refine BdK.mk (by omega) (by omega) (by omega) ?_ | refine InsK.lit (by omega) (by omega) ?_ | refine SpK.lit ?_ | refine GrdK.same ?_ | refine GrdK.tf ?_ | refine GrdK.ft ?_ | refine PickK.t ?_ | refine PickK.f ?_); (conv => whnf))
  have hrr := rread_spec A (some ⟨b3, 0, none⟩) bs.length c 2 2 (off + q) st bs [(fb : Int), (fb : Int)] (by omega) hoq (by omega) hb0 (by omega)
  obtain ⟨P, hP⟩ : ∃ P, 8 * (off + q) + wd bs[off + q].toNat - 1 = P := ⟨_, rfl⟩
  rw [hP] at hrr hR
  have hP8 : 8 * (off + q) ≤ P := by omega
  have hP9 : P ≤ 8 * bs.length := by omega
  have efb : (((fb : Nat) : Int) % 25).toNat = fb := by omega
  have hrev : rev (num bs) st [] P [(fb : Int), (fb : Int)] = if P < 8 * st + fb then ([], false, P) else if P - fb < 8 * st + fb then ([(bitsN (num bs) (P - fb) fb : Int)], false, P - fb) else ([(bitsN (num bs) (P - fb) fb : Int), (bitsN (num bs) (P - fb - fb) fb : Int)], true, P - fb - fb) := by
    simp only [rev, efb, List.nil_append]
    rfl
  rw [hrev] at hrr
  by_cases k1 : P < 8 * st + fb
  · rw [if_pos (by omega)] at hR
    subst hR
    rw [if_pos k1] at hrr
    refine CallK.of [] hrr rfl (fun w hw => ⟨hp.pass hw, ⟨Rd.ofOwn hw 0 rfl, Nat.le_refl _, by simp [maxLen], fun z hz => by simp only [List.mem_cons, List.not_mem_nil, or_false] at hz; omega⟩⟩) ?_
    rintro _ _ ⟨A3, c3, rfl, rfl⟩
    (conv => whnf); repeat ((first | refine RngK.mk (by omega) (by omega) ?_ | refine NzK.mk (by omega) ?_ | refine NnK.mk (by omega) ?_ | refine BdK.mk (by omega) (by omega) (by omega) ?_ | refine InsK.lit (by omega) (by omega) ?_ | refine SpK.lit ?_ | refine GrdK.same ?_ | refine GrdK.tf ?_ | refine GrdK.ft ?_ | refine PickK.t ?_ | refine PickK.f ?_); (conv => whnf))
    refine Wp.cond rfl (fun _ => ?_) (fun h => by cases h)
    (conv => whnf); repeat ((first | refine RngK.mk (by omega) (by omega) ?_ | refine NzK.mk (by omega) ?_ | refine NnK.mk (by omega) ?_ | refine BdK.mk (by omega) (by omega) (by omega) ?_ | refine InsK.lit (by omega) (by omega) ?_ | refine SpK.lit ?_ | refine GrdK.same ?_ | refine GrdK.tf ?_ | refine GrdK.ft ?_ | refine PickK.t ?_ | refine PickK.f ?_); (conv => whnf))
    exact ⟨_, HSub.nil _, none, 0, 0, 0, 1, rfl, .inr (.inl ⟨rfl, rfl, rfl⟩)⟩
  rw [if_neg k1] at hrr
  by_cases k2 : P - fb < 8 * st + fb
  · rw [if_pos (by omega)] at hR
    subst hR
    rw [if_pos k2] at hrr
    refine CallK.of [] hrr rfl (fun w hw => ⟨hp.pass hw, ⟨Rd.ofOwn hw 0 rfl, Nat.le_refl _, by simp [maxLen], fun z hz => by simp only [List.mem_cons, List.not_mem_nil, or_false] at hz; omega⟩⟩) ?_
    rintro _ _ ⟨A3, c3, rfl, rfl⟩
    (conv => whnf); repeat ((first | refine RngK.mk (by omega) (by omega) ?_ | refine NzK.mk (by omega) ?_ | refine NnK.mk (by omega) ?_ | refine BdK.mk (by omega) (by omega) (by omega) ?_ | refine InsK.lit (by omega) (by omega) ?_ | refine SpK.lit ?_ | refine GrdK.same ?_ | refine GrdK.tf ?_ | refine GrdK.ft ?_ | refine PickK.t ?_ | refine PickK.f ?_); (conv => whnf))
    refine Wp.cond rfl (fun _ => ?_) (fun h => by cases h)
    (conv => whnf); repeat ((first | refine RngK.mk (by omega) (by omega) ?_ | refine NzK.mk (by omega) ?_ | refine NnK.mk (by omega) ?_ | refine BdK.mk (by omega) (by omega) (by omega) ?_ | refine InsK.lit (by omega) (by omega) ?_ | refine SpK.lit ?_ | refine GrdK.same ?_ | refine GrdK.tf ?_ | refine GrdK.ft ?_ | refine PickK.t ?_ | refine PickK.f ?_); (conv => whnf))
    exact ⟨_, HSub.nil _, none, 0, 0, 0, 1, rfl, .inr (.inl ⟨rfl, rfl, rfl⟩)⟩
  rw [if_neg k2] at hrr
  rw [if_neg (by omega), show P - 2 * fb = P - fb - fb by omega] at hR
  refine CallK.of [] hrr rfl (fun w hw => ⟨hp.pass hw, ⟨Rd.ofOwn hw 0 rfl, Nat.le_refl _, by simp [maxLen], fun z hz => by simp only [List.mem_cons, List.not_mem_nil, or_false] at hz; omega⟩⟩) ?_
  rintro _ _ ⟨A3, c3, rfl, rfl⟩
  have hs1 := bitsN_lt (num bs) (P - fb) fb
  have hs2 := bitsN_lt (num bs) (P - fb - fb) fb
  obtain ⟨n1, hn1⟩ : ∃ k, bitsN (num bs) (P - fb) fb = k := ⟨_, rfl⟩
  obtain ⟨n2, hn2⟩ : ∃ k, bitsN (num bs) (P - fb - fb) fb = k := ⟨_, rfl⟩
  rw [hn1] at hs1 hR
  rw [hn2] at hs2 hR
  rw [hn1, hn2]
  have hEl := hE.len
  have h64 : 2 ^ fb ≤ 2 ^ 6 := Nat.pow_le_pow_right (by omega) hfb6
  (conv => whnf); repeat ((first | refine RngK.mk (by omega) (by omega) ?_ | refine NzK.mk (by omega) ?_ | refine NnK.mk (by omega) ?_ | refine BdK.mk (by omega) (by omega) (by omega) ?_ | refine InsK.lit (by omega) (by omega) ?_ | refine SpK.lit ?_ | refine GrdK.same ?_ | refine GrdK.tf ?_ | refine GrdK.ft ?_ | refine PickK.t ?_ | refine PickK.f ?_); (conv => whnf))
  refine Wp.own 0 rfl fun hA3 => ?_
  refine Wp.own 2 rfl fun hA2 => ?_
  obtain ⟨gA, hgA⟩ := hA2.ad (by omega)
  subst hgA
  refine Wp.cond rfl (fun h => by cases h) (fun _ => ?_)
  (conv => whnf); repeat ((first | refine RngK.mk (by omega) (by omega) ?_ | refine NzK.mk (by omega) ?_ | refine NnK.mk (by omega) ?_ | refine BdK.mk (by omega) (by omega) (by omega) ?_ | refine InsK.lit (by omega) (by omega) ?_ | refine SpK.lit ?_ | refine GrdK.same ?_ | refine GrdK.tf ?_ | refine GrdK.ft ?_ | refine PickK.t ?_ | refine PickK.f ?_); (conv => whnf))
  refine EffK.lit0 rfl rfl fun bk => ?_
  (conv => whnf); repeat ((first | refine RngK.mk (by omega) (by omega) ?_ | refine NzK.mk (by omega) ?_ | refine NnK.mk (by omega) ?_ | refine BdK.mk (by omega) (by omega) (by omega) ?_ | refine InsK.lit (by omega) (by omega) ?_ | refine SpK.lit ?_ | refine GrdK.same ?_ | refine GrdK.tf ?_ | refine GrdK.ft ?_ | refine PickK.t ?_ | refine PickK.f ?_); (conv => whnf))
  refine DrwK.ord (by kernel_rfl) [0, 1, 2, 3, 4, 5, 6, 7] (by kernel_rfl) ?_; conv => whnf
  (conv => whnf); repeat ((first | refine RngK.mk (by omega) (by omega) ?_ | refine NzK.mk (by omega) ?_ | refine NnK.mk (by omega) ?_ | refine BdK.mk (by omega) (by omega) (by omega) ?_ | refine InsK.lit (by omega) (by omega) ?_ | refine SpK.lit ?_ | refine GrdK.same ?_ | refine GrdK.tf ?_ | refine GrdK.ft ?_ | refine PickK.t ?_ | refine PickK.f ?_); (conv => whnf))
  refine InsK.own hA3 (by omega) (by show (0 : Int) < 2; omega) ?_
  (conv => whnf); repeat ((first | refine RngK.mk (by omega) (by omega) ?_ | refine NzK.mk (by omega) ?_ | refine NnK.mk (by omega) ?_ | refine BdK.mk (by omega) (by omega) (by omega) ?_ | refine InsK.lit (by omega) (by omega) ?_ | refine SpK.lit ?_ | refine GrdK.same ?_ | refine GrdK.tf ?_ | refine GrdK.ft ?_ | refine PickK.t ?_ | refine PickK.f ?_); (conv => whnf))
  refine LdK.own 1 0 rfl rfl rfl rfl rfl ?_
  (conv => whnf); repeat ((first | refine RngK.mk (by omega) (by omega) ?_ | refine NzK.mk (by omega) ?_ | refine NnK.mk (by omega) ?_ | refine BdK.mk (by omega) (by omega) (by omega) ?_ | refine InsK.lit (by omega) (by omega) ?_ | refine SpK.lit ?_ | refine GrdK.same ?_ | refine GrdK.tf ?_ | refine GrdK.ft ?_ | refine PickK.t ?_ | refine PickK.f ?_); (conv => whnf))
  refine InsK.own hA3 (by omega) (by show (1 : Int) < 2; omega) ?_
  (conv => whnf); repeat ((first | refine RngK.mk (by omega) (by omega) ?_ | refine NzK.mk (by omega) ?_ | refine NnK.mk (by omega) ?_ | refine BdK.mk (by omega) (by omega) (by omega) ?_ | refine InsK.lit (by omega) (by omega) ?_ | refine SpK.lit ?_ | refine GrdK.same ?_ | refine GrdK.tf ?_ | refine GrdK.ft ?_ | refine PickK.t ?_ | refine PickK.f ?_); (conv => whnf))
  refine LdK.own 1 1 rfl rfl rfl rfl rfl ?_
  (conv => whnf); repeat ((first | refine RngK.mk (by omega) (by omega) ?_ | refine NzK.mk (by omega) ?_ | refine NnK.mk (by omega) ?_ | refine BdK.mk (by omega) (by omega) (by omega) ?_ | refine InsK.lit (by omega) (by omega) ?_ | refine SpK.lit ?_ | refine GrdK.same ?_ | refine GrdK.tf ?_ | refine GrdK.ft ?_ | refine PickK.t ?_ | refine PickK.f ?_); (conv => whnf))
  refine Wp.cutEx 0 (fun t : List Nat × Option Addr × Nat => [(7, vN (off + 1 + q)), (16, .slice t.2.1 t.1.length t.2.2)]) (fun t => [.own t.2.1 t.1.length t.2.2 3 1 (t.1.map vN)]) (fun t => (t.1.length ≤ 255 → R = some t.1) ∧ (255 < t.1.length → R = none)) ?_ fun ⟨L, A6, c6⟩ ⟨hL1, hL2⟩ => ?_
  rotate_left
  · dsimp only at hL1 hL2 ⊢
    (conv => whnf); repeat ((first | refine RngK.mk (by omega) (by omega) ?_ | refine NzK.mk (by omega) ?_ | refine NnK.mk (by omega) ?_ | refine BdK.mk (by omega) (by omega) (by omega) ?_ | refine InsK.lit (by omega) (by omega) ?_ | refine SpK.lit ?_ | refine GrdK.same ?_ | refine GrdK.tf ?_ | refine GrdK.ft ?_ | refine PickK.t ?_ | refine PickK.f ?_); (conv => whnf))
    refine Wp.cond rfl (fun h => ?_) (fun h => ?_)
    · have h := dT h
      have := hL2 (by omega)
      subst this
      (conv => whnf); repeat ((first | refine RngK.mk (by omega) (by omega) ?_ | refine NzK.mk (by omega) ?_ | refine NnK.mk (by omega) ?_ | refine BdK.mk (by omega) (by omega) (by omega) ?_ | refine InsK.lit (by omega) (by omega) ?_ | refine SpK.lit ?_ | refine GrdK.same ?_ | refine GrdK.tf ?_ | refine GrdK.ft ?_ | refine PickK.t ?_ | refine PickK.f ?_); (conv => whnf))
      exact ⟨_, HSub.nil _, none, 0, 0, 0, 1, rfl, .inr (.inl ⟨rfl, rfl, rfl⟩)⟩
    · have h := dF h
      have hRL := hL1 (by omega)
      (conv => whnf); repeat ((first | refine RngK.mk (by omega) (by omega) ?_ | refine NzK.mk (by omega) ?_ | refine NnK.mk (by omega) ?_ | refine BdK.mk (by omega) (by omega) (by omega) ?_ | refine InsK.lit (by omega) (by omega) ?_ | refine SpK.lit ?_ | refine GrdK.same ?_ | refine GrdK.tf ?_ | refine GrdK.ft ?_ | refine PickK.t ?_ | refine PickK.f ?_); (conv => whnf))
      exact ⟨_, HSub.refl _, A6, L.length, c6, off + 1 + q, 0, rfl, .inr (.inr ⟨rfl, L, hRL, rfl, rfl, rfl⟩)⟩
  refine Wp.loop (fun s : QS => [(0, .slice A bs.length c), (7, vN (off + 1 + q)), (10, vN st), (12, .slice (some ⟨gA, 0, none⟩) E.length c2), (15, vN s.p), (16, .slice s.A s.ws.length s.c), (17, vN s.a), (18, vN s.b)])
    (fun s => [.own s.A s.ws.length s.c 3 1 (s.ws.map vN), OwnS 89 E (some ⟨gA, 0, none⟩) c2]) (QI (num bs) bs.length st fb E R) (fun s => 257 - s.ws.length) ⟨257, n1, n2, [], P - fb - fb, some ⟨bk, 0, none⟩, 0⟩
    ⟨rfl, rfl, rfl, rfl, rfl, rfl, rfl, rfl, trivial⟩ (HSub.of [0, 2] rfl) ⟨hs1, hs2, rfl, Nat.zero_le _, by show 8 * st ≤ P - fb - fb; omega, by show P - fb - fb ≤ _; omega, fun _ => hR, fun h => by cases h⟩ fun ⟨f, a, b, ws, pp, A4, c4⟩ ⟨ha, hb, hfl, hwl, hsp, hpl, hR, hR6⟩ => ?_
  dsimp only at ha hb hfl hwl hsp hpl hR hR6 ⊢
  (conv => whnf); repeat ((first | refine RngK.mk (by omega) (by omega) ?_ | refine NzK.mk (by omega) ?_ | refine NnK.mk (by omega) ?_ | refine BdK.mk (by omega) (by omega) (by omega) ?_ | refine InsK.lit (by omega) (by omega) ?_ | refine SpK.lit ?_ | refine GrdK.same ?_ | refine GrdK.tf ?_ | refine GrdK.ft ?_ | refine PickK.t ?_ | refine PickK.f ?_); (conv => whnf))
  refine Wp.cond rfl (fun h => ?_) (fun h => ?_)
  rotate_left
  · have h := dF h
    (conv => whnf); repeat ((first | refine RngK.mk (by omega) (by omega) ?_ | refine NzK.mk (by omega) ?_ | refine NnK.mk (by omega) ?_ | refine BdK.mk (by omega) (by omega) (by omega) ?_ | refine InsK.lit (by omega) (by omega) ?_ | refine SpK.lit ?_ | refine GrdK.same ?_ | refine GrdK.tf ?_ | refine GrdK.ft ?_ | refine PickK.t ?_ | refine PickK.f ?_); (conv => whnf))
    exact ⟨(ws, A4, c4), ⟨rfl, rfl, trivial⟩, HSub.of [0] rfl, fun hl => absurd hl (by show ¬ ws.length ≤ 255; omega), fun _ => hR6 (by omega)⟩
  have h := dT h
  have hR := hR (by omega)
  obtain ⟨f1, rfl⟩ : ∃ g, f = g + 1 := ⟨f - 1, by omega⟩
  rw [pkL_step] at hR
  obtain ⟨en1, en2, en3, en4⟩ := hE.ent ha
  have ey1 := (hE.ent hb).1
  have hxa := stC_at (hE.at_ ha)
  have hyb := stC_at (hE.at_ hb) 0 _ rfl
  have hnx := hE.next (N := num bs) (p := pp - (enS E a).2.1) ha
  obtain ⟨x, hx⟩ : ∃ x, enS E a = x := ⟨_, rfl⟩
  obtain ⟨y, hy⟩ : ∃ y, enS E b = y := ⟨_, rfl⟩
  rw [hx] at hR en1 en2 en3 en4 hxa hnx
  rw [hy] at hR ey1 hyb
  (conv => whnf); repeat ((first | refine RngK.mk (by omega) (by omega) ?_ | refine NzK.mk (by omega) ?_ | refine NnK.mk (by omega) ?_ | refine BdK.mk (by omega) (by omega) (by omega) ?_ | refine InsK.lit (by omega) (by omega) ?_ | refine SpK.lit ?_ | refine GrdK.same ?_ | refine GrdK.tf ?_ | refine GrdK.ft ?_ | refine PickK.t ?_ | refine PickK.f ?_); (conv => whnf))
  refine LdK.ownN 1 (a * 3) (cs := stCells x) rfl rfl rfl rfl rfl rfl rfl hxa ?_
  (conv => whnf); repeat ((first | refine RngK.mk (by omega) (by omega) ?_ | refine NzK.mk (by omega) ?_ | refine NnK.mk (by omega) ?_ | refine BdK.mk (by omega) (by omega) (by omega) ?_ | refine InsK.lit (by omega) (by omega) ?_ | refine SpK.lit ?_ | refine GrdK.same ?_ | refine GrdK.tf ?_ | refine GrdK.ft ?_ | refine PickK.t ?_ | refine PickK.f ?_); (conv => whnf))
  refine ⟨_, _, rfl, rfl, ?_⟩
  intro b19
  (conv => whnf); repeat ((first | refine RngK.mk (by omega) (by omega) ?_ | refine NzK.mk (by omega) ?_ | refine NnK.mk (by omega) ?_ | refine BdK.mk (by omega) (by omega) (by omega) ?_ | refine InsK.lit (by omega) (by omega) ?_ | refine SpK.lit ?_ | refine GrdK.same ?_ | refine GrdK.tf ?_ | refine GrdK.ft ?_ | refine PickK.t ?_ | refine PickK.f ?_); (conv => whnf))
  refine StK.blkNE 0 (stCells x) rfl rfl rfl rfl rfl rfl ?_
  (conv => whnf); repeat ((first | refine RngK.mk (by omega) (by omega) ?_ | refine NzK.mk (by omega) ?_ | refine NnK.mk (by omega) ?_ | refine BdK.mk (by omega) (by omega) (by omega) ?_ | refine InsK.lit (by omega) (by omega) ?_ | refine SpK.lit ?_ | refine GrdK.same ?_ | refine GrdK.tf ?_ | refine GrdK.ft ?_ | refine PickK.t ?_ | refine PickK.f ?_); (conv => whnf))
  refine LdK.blk 0 rfl rfl rfl rfl ?_
  (conv => whnf); repeat ((first | refine RngK.mk (by omega) (by omega) ?_ | refine NzK.mk (by omega) ?_ | refine NnK.mk (by omega) ?_ | refine BdK.mk (by omega) (by omega) (by omega) ?_ | refine InsK.lit (by omega) (by omega) ?_ | refine SpK.lit ?_ | refine GrdK.same ?_ | refine GrdK.tf ?_ | refine GrdK.ft ?_ | refine PickK.t ?_ | refine PickK.f ?_); (conv => whnf))
  refine EffK.litV rfl rfl rfl rfl rfl rfl rfl rfl rfl ?_
  (conv => whnf); repeat ((first | refine RngK.mk (by omega) (by omega) ?_ | refine NzK.mk (by omega) ?_ | refine NnK.mk (by omega) ?_ | refine BdK.mk (by omega) (by omega) (by omega) ?_ | refine InsK.lit (by omega) (by omega) ?_ | refine SpK.lit ?_ | refine GrdK.same ?_ | refine GrdK.tf ?_ | refine GrdK.ft ?_ | refine PickK.t ?_ | refine PickK.f ?_); (conv => whnf))
  intro b5
  (conv => whnf); repeat ((first | refine RngK.mk (by omega) (by omega) ?_ | refine NzK.mk (by omega) ?_ | refine NnK.mk (by omega) ?_ | refine BdK.mk (by omega) (by omega) (by omega) ?_ | refine InsK.lit (by omega) (by omega) ?_ | refine SpK.lit ?_ | refine GrdK.same ?_ | refine GrdK.tf ?_ | refine GrdK.ft ?_ | refine PickK.t ?_ | refine PickK.f ?_); (conv => whnf))
  refine EffK.append 2 (news := [vN x.1]) rfl rfl rfl rfl rfl rfl rfl rfl (Src.ownW (k := 0) rfl rfl) (by intro u hu; obtain rfl := List.mem_singleton.1 hu; rfl) (by simp [maxLen]; omega) (by show (_ + _) * 8 ≤ _; omega) fun A5 c5 => ?_
  (conv => whnf); repeat ((first | refine RngK.mk (by omega) (by omega) ?_ | refine NzK.mk (by omega) ?_ | refine NnK.mk (by omega) ?_ | refine BdK.mk (by omega) (by omega) (by omega) ?_ | refine InsK.lit (by omega) (by omega) ?_ | refine SpK.lit ?_ | refine GrdK.same ?_ | refine GrdK.tf ?_ | refine GrdK.ft ?_ | refine PickK.t ?_ | refine PickK.f ?_); (conv => whnf))
  refine LdK.blk 1 rfl rfl rfl rfl ?_
  (conv => whnf); repeat ((first | refine RngK.mk (by omega) (by omega) ?_ | refine NzK.mk (by omega) ?_ | refine NnK.mk (by omega) ?_ | refine BdK.mk (by omega) (by omega) (by omega) ?_ | refine InsK.lit (by omega) (by omega) ?_ | refine SpK.lit ?_ | refine GrdK.same ?_ | refine GrdK.tf ?_ | refine GrdK.ft ?_ | refine PickK.t ?_ | refine PickK.f ?_); (conv => whnf))
  refine Wp.cond rfl (fun g => ?_) (fun g => ?_)
  · have g := dT g
    rw [if_pos (by omega)] at hR
    (conv => whnf); repeat ((first | refine RngK.mk (by omega) (by omega) ?_ | refine NzK.mk (by omega) ?_ | refine NnK.mk (by omega) ?_ | refine BdK.mk (by omega) (by omega) (by omega) ?_ | refine InsK.lit (by omega) (by omega) ?_ | refine SpK.lit ?_ | refine GrdK.same ?_ | refine GrdK.tf ?_ | refine GrdK.ft ?_ | refine PickK.t ?_ | refine PickK.f ?_); (conv => whnf))
    refine LdK.own 3 (b * 3 + 0) rfl rfl rfl rfl hyb ?_
    (conv => whnf); repeat ((first | refine RngK.mk (by omega) (by omega) ?_ | refine NzK.mk (by omega) ?_ | refine NnK.mk (by omega) ?_ | refine BdK.mk (by omega) (by omega) (by omega) ?_ | refine InsK.lit (by omega) (by omega) ?_ | refine SpK.lit ?_ | refine GrdK.same ?_ | refine GrdK.tf ?_ | refine GrdK.ft ?_ | refine PickK.t ?_ | refine PickK.f ?_); (conv => whnf))
    refine EffK.litV rfl rfl rfl rfl rfl rfl rfl rfl rfl ?_
    (conv => whnf); repeat ((first | refine RngK.mk (by omega) (by omega) ?_ | refine NzK.mk (by omega) ?_ | refine NnK.mk (by omega) ?_ | refine BdK.mk (by omega) (by omega) (by omega) ?_ | refine InsK.lit (by omega) (by omega) ?_ | refine SpK.lit ?_ | refine GrdK.same ?_ | refine GrdK.tf ?_ | refine GrdK.ft ?_ | refine PickK.t ?_ | refine PickK.f ?_); (conv => whnf))
    intro b6
    (conv => whnf); repeat ((first | refine RngK.mk (by omega) (by omega) ?_ | refine NzK.mk (by omega) ?_ | refine NnK.mk (by omega) ?_ | refine BdK.mk (by omega) (by omega) (by omega) ?_ | refine InsK.lit (by omega) (by omega) ?_ | refine SpK.lit ?_ | refine GrdK.same ?_ | refine GrdK.tf ?_ | refine GrdK.ft ?_ | refine PickK.t ?_ | refine PickK.f ?_); (conv => whnf))
    refine EffK.append 3 (news := [vN y.1]) rfl rfl rfl rfl rfl rfl rfl rfl (Src.ownW (k := 0) rfl rfl) (by intro u hu; obtain rfl := List.mem_singleton.1 hu; rfl) (by simp [maxLen]; omega) (by show (_ + _) * 8 ≤ _; omega) fun A7 c7 => ?_
    (conv => whnf); repeat ((first | refine RngK.mk (by omega) (by omega) ?_ | refine NzK.mk (by omega) ?_ | refine NnK.mk (by omega) ?_ | refine BdK.mk (by omega) (by omega) (by omega) ?_ | refine InsK.lit (by omega) (by omega) ?_ | refine SpK.lit ?_ | refine GrdK.same ?_ | refine GrdK.tf ?_ | refine GrdK.ft ?_ | refine PickK.t ?_ | refine PickK.f ?_); (conv => whnf))
    refine ⟨(ws ++ [x.1, y.1], A7, c7), ⟨rfl, ?_, trivial⟩, ?_, ?_, ?_⟩
    · show some (Value.slice A7 _ c7) = some (Value.slice A7 (ws ++ [x.1, y.1]).length c7)
      rw [List.length_append]
      rfl
    · dsimp only
      rw [List.length_append, List.map_append, show [x.1, y.1].map vN = [vN x.1] ++ [vN y.1] from rfl, ← List.append_assoc]
      exact HSub.of [3] rfl
    · intro hl
      simp only [List.length_append, List.length_cons, List.length_nil] at hl
      rw [if_neg (by omega)] at hR
      exact hR.symm
    · intro hl
      simp only [List.length_append, List.length_cons, List.length_nil] at hl
      rw [if_pos (by omega)] at hR
      exact hR.symm
  have g := dF g
  rw [if_neg (by omega)] at hR
  have epb : (pp : Int) - (x.2.1 : Int) = ((pp - x.2.1 : Nat) : Int) := by omega
  (conv => whnf); repeat ((first | refine RngK.mk (by omega) (by omega) ?_ | refine NzK.mk (by omega) ?_ | refine NnK.mk (by omega) ?_ | refine BdK.mk (by omega) (by omega) (by omega) ?_ | refine InsK.lit (by omega) (by omega) ?_ | refine SpK.lit ?_ | refine GrdK.same ?_ | refine GrdK.tf ?_ | refine GrdK.ft ?_ | refine PickK.t ?_ | refine PickK.f ?_); (conv => whnf))
  refine LdK.blk 1 rfl rfl rfl rfl ?_
  (conv => whnf); repeat ((first | refine RngK.mk (by omega) (by omega) ?_ | refine NzK.mk (by omega) ?_ | refine NnK.mk (by omega) ?_ | refine BdK.mk (by omega) (by omega) (by omega) ?_ | refine InsK.lit (by omega) (by omega) ?_ | refine SpK.lit ?_ | refine GrdK.same ?_ | refine GrdK.tf ?_ | refine GrdK.ft ?_ | refine PickK.t ?_ | refine PickK.f ?_); (conv => whnf))
  rw [epb]
  refine DrwK.ord (by kernel_rfl) [0, 1, 2, 3, 4, 5, 6, 7, 8, 9, 10] (by kernel_rfl) ?_; conv => whnf
  (conv => whnf); repeat ((first | refine RngK.mk (by omega) (by omega) ?_ | refine NzK.mk (by omega) ?_ | refine NnK.mk (by omega) ?_ | refine BdK.mk (by omega) (by omega) (by omega) ?_ | refine InsK.lit (by omega) (by omega) ?_ | refine SpK.lit ?_ | refine GrdK.same ?_ | refine GrdK.tf ?_ | refine GrdK.ft ?_ | refine PickK.t ?_ | refine PickK.f ?_); (conv => whnf))
  refine LdK.blk 1 rfl rfl rfl rfl ?_
  (conv => whnf); repeat ((first | refine RngK.mk (by omega) (by omega) ?_ | refine NzK.mk (by omega) ?_ | refine NnK.mk (by omega) ?_ | refine BdK.mk (by omega) (by omega) (by omega) ?_ | refine InsK.lit (by omega) (by omega) ?_ | refine SpK.lit ?_ | refine GrdK.same ?_ | refine GrdK.tf ?_ | refine GrdK.ft ?_ | refine PickK.t ?_ | refine PickK.f ?_); (conv => whnf))
  refine LdK.blk 1 rfl rfl rfl rfl ?_
  (conv => whnf); repeat ((first | refine RngK.mk (by omega) (by omega) ?_ | refine NzK.mk (by omega) ?_ | refine NnK.mk (by omega) ?_ | refine BdK.mk (by omega) (by omega) (by omega) ?_ | refine InsK.lit (by omega) (by omega) ?_ | refine SpK.lit ?_ | refine GrdK.same ?_ | refine GrdK.tf ?_ | refine GrdK.ft ?_ | refine PickK.t ?_ | refine PickK.f ?_); (conv => whnf))
  refine CallK.of [] (bitsAt_spec A bs.length c bs (pp - x.2.1) x.2.1 (by omega) (by omega)) rfl (fun w hw => ⟨hp.pass hw, by omega⟩) ?_
  rintro _ _ ⟨rfl, rfl⟩
  (conv => whnf); repeat ((first | refine RngK.mk (by omega) (by omega) ?_ | refine NzK.mk (by omega) ?_ | refine NnK.mk (by omega) ?_ | refine BdK.mk (by omega) (by omega) (by omega) ?_ | refine InsK.lit (by omega) (by omega) ?_ | refine SpK.lit ?_ | refine GrdK.same ?_ | refine GrdK.tf ?_ | refine GrdK.ft ?_ | refine PickK.t ?_ | refine PickK.f ?_); (conv => whnf))
  refine KfK.of (LdK.blk 1 rfl rfl rfl rfl rfl) ?_
  (conv => whnf); repeat ((first | refine RngK.mk (by omega) (by omega) ?_ | refine NzK.mk (by omega) ?_ | refine NnK.mk (by omega) ?_ | refine BdK.mk (by omega) (by omega) (by omega) ?_ | refine InsK.lit (by omega) (by omega) ?_ | refine SpK.lit ?_ | refine GrdK.same ?_ | refine GrdK.tf ?_ | refine GrdK.ft ?_ | refine PickK.t ?_ | refine PickK.f ?_); (conv => whnf))
  refine KfK.of (LdK.blk 1 rfl rfl rfl rfl rfl) ?_
  (conv => whnf); repeat ((first | refine RngK.mk (by omega) (by omega) ?_ | refine NzK.mk (by omega) ?_ | refine NnK.mk (by omega) ?_ | refine BdK.mk (by omega) (by omega) (by omega) ?_ | refine InsK.lit (by omega) (by omega) ?_ | refine SpK.lit ?_ | refine GrdK.same ?_ | refine GrdK.tf ?_ | refine GrdK.ft ?_ | refine PickK.t ?_ | refine PickK.f ?_); (conv => whnf))
  have esum : x.2.2 + ((bitsN (num bs) (pp - x.2.1) x.2.1 : Nat) : Int) = ((x.2.2.toNat + bitsN (num bs) (pp - x.2.1) x.2.1 : Nat) : Int) := by omega
  have hlen : (ws ++ [x.1]).length = ws.length + 1 := by rw [List.length_append, List.length_singleton]
  refine ⟨⟨f1, b, x.2.2.toNat + bitsN (num bs) (pp - x.2.1) x.2.1, ws ++ [x.1], pp - x.2.1, A5, c5⟩, ⟨rfl, rfl, rfl, rfl, rfl, ?_, rfl, ?_, trivial⟩, ?_, ⟨hb, hnx, by show f1 + (ws ++ [x.1]).length = 257; omega, by show (ws ++ [x.1]).length ≤ 256; omega, by show 8 * st ≤ pp - x.2.1; omega, by show pp - x.2.1 ≤ _; omega, ?_, ?_⟩, by show 257 - (ws ++ [x.1]).length < 257 - ws.length; omega⟩
  · show some (Value.slice A5 _ c5) = some (Value.slice A5 (ws ++ [x.1]).length c5)
    rw [hlen]
  · show some (vI _) = some (vI _)
    rw [esum]
  · dsimp only
    rw [hlen, List.map_append]
    exact HSub.of [2, 2] rfl
  · intro hl
    have hl : (ws ++ [x.1]).length ≤ 255 := hl
    rw [if_neg (by omega)] at hR
    exact hR
  · intro hl
    have hl : (ws ++ [x.1]).length = 256 := hl
    rw [if_pos (by omega)] at hR
    exact hR.symm
end Go.Proofs.YtgdhdkjbilifiaaDoor
