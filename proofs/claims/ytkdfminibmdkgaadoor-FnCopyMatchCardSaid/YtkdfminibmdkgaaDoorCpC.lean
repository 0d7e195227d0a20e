/- The law FnCopyMatch: it returns true. -/
import Derived.Test.YtkdfminibmdkgaaDoorCpB
namespace Go.Proofs.YtkdfminibmdkgaaDoor
open Go Go.Sx
set_option maxRecDepth 100000
theorem kept_spec (A : Option Addr) (n c : Nat) (ps : List Piece) (s : Nat) (hs : s ≤ 1000000) (hj : (joined ps).length ≤ 1000000) : FnS Tryd.prog 11 [vI s, .slice A n c] [] (fun w => Pieces w (blocks []) A n c ps)
    (fun v H => ∃ A0 c0, OwnA A0 (joined ps).length c0 ∧ v = .slice (cutA A0 ((joined ps).length - s) c0 1) ((joined ps).length - ((joined ps).length - s)) (c0 - ((joined ps).length - s)) ∧ H = [.own A0 (joined ps).length c0 5 1 ((joined ps).map vU8)]) := by
  refine FnS.introD Tryd.func11 rfl (by kernel_rfl) rfl fun w hH hp => ?_
  (conv => whnf); repeat ((first | refine RngK.mk (by omega) (by omega) ?_ | refine NzK.mk (by omega) ?_ | refine NnK.mk (by omega) ?_ | refine BdK.mk (by omega) (by omega) (by omega) ?_ | refine InsK.lit (by omega) (by omega) ?_ | refine SpK.lit ?_ | refine GrdK.same ?_ | refine GrdK.tf ?_ | refine GrdK.ft ?_ | refine PickK.t ?_ | refine PickK.f ?_); (conv => whnf))
  refine CallK.ofA [] (joined_spec A n c ps hj) rfl (fun w hw => hp.pass hw) ?_
  rintro _ _ ⟨A1, c1, rfl, rfl⟩ hA
  have hA := hA _ _ _ _ _ _ List.mem_cons_self
  have hAc := hA.1
  (conv => whnf); repeat ((first | refine RngK.mk (by omega) (by omega) ?_ | refine NzK.mk (by omega) ?_ | refine NnK.mk (by omega) ?_ | refine BdK.mk (by omega) (by omega) (by omega) ?_ | refine InsK.lit (by omega) (by omega) ?_ | refine SpK.lit ?_ | refine GrdK.same ?_ | refine GrdK.tf ?_ | refine GrdK.ft ?_ | refine PickK.t ?_ | refine PickK.f ?_); (conv => whnf))
  have em : (if ((joined ps).length : Int) - (s : Int) > 0 then ((joined ps).length : Int) - (s : Int) else 0) = (((joined ps).length - s : Nat) : Int) := by split <;> omega
  rw [em]
  (conv => whnf); repeat ((first | refine RngK.mk (by omega) (by omega) ?_ | refine NzK.mk (by omega) ?_ | refine NnK.mk (by omega) ?_ | refine BdK.mk (by omega) (by omega) (by omega) ?_ | refine InsK.lit (by omega) (by omega) ?_ | refine SpK.lit ?_ | refine GrdK.same ?_ | refine GrdK.tf ?_ | refine GrdK.ft ?_ | refine PickK.t ?_ | refine PickK.f ?_); (conv => whnf))
  refine SpK.own hA ?_
  rw [Int.toNat_natCast, Int.toNat_natCast]
  (conv => whnf); repeat ((first | refine RngK.mk (by omega) (by omega) ?_ | refine NzK.mk (by omega) ?_ | refine NnK.mk (by omega) ?_ | refine BdK.mk (by omega) (by omega) (by omega) ?_ | refine InsK.lit (by omega) (by omega) ?_ | refine SpK.lit ?_ | refine GrdK.same ?_ | refine GrdK.tf ?_ | refine GrdK.ft ?_ | refine PickK.t ?_ | refine PickK.f ?_); (conv => whnf))
  exact ⟨_, HSub.refl _, A1, c1, hA, rfl, rfl⟩
theorem copied_spec (A : Option Addr) (n c : Nat) (ps : List Piece) (s : Nat) (B : Option Addr) (bl bc : Nat) (bs : List UInt8) (o m : Nat) (hs : s ≤ 1000000) (hj : (joined ps).length ≤ 1000000) (hbl : bl ≤ 1000000) (hm : m ≤ 100000) (ho : o ≤ 2147483647) :
    FnS Tryd.prog 8 [vI s, .slice A n c, .slice B bl bc, vI o, vI m] [] (fun w => Pieces w (blocks []) A n c ps ∧ Bytes w (blocks []) B bl bc bs)
      (fun v H => ((cpOut (lastN s (joined ps)) bs o m).2 = false ∧ ∃ A1 k c1, v = .tuple #[.slice A1 k c1, vB false] ∧ H = []) ∨
        ((cpOut (lastN s (joined ps)) bs o m).2 = true ∧ ∃ A0 c0, OwnA A0 ((lastN s (joined ps)).length + bs.length + m) c0 ∧ v = .tuple #[.slice (cutA A0 (lastN s (joined ps)).length c0 1) (bs.length + m) (c0 - (lastN s (joined ps)).length), vB true] ∧
          H = [.own A0 ((lastN s (joined ps)).length + bs.length + m) c0 5 1 ((lastN s (joined ps) ++ bs ++ per (lastN s (joined ps) ++ bs) o m).map vU8)])) := by
  refine FnS.introD Tryd.func8 rfl (by kernel_rfl) rfl fun w hH ⟨hp, hB⟩ => ?_
  obtain rfl : bs.length = bl := hB.len
  have hlast := lastN_len s (joined ps)
  (conv => whnf); repeat ((first | refine RngK.mk (by omega) (by omega) ?_ | refine NzK.mk (by omega) ?_ | refine NnK.mk (by omega) ?_ | refine BdK.mk (by omega) (by omega) (by omega) ?_ | refine InsK.lit (by omega) (by omega) ?_ | refine SpK.lit ?_ | refine GrdK.same ?_ | refine GrdK.tf ?_ | refine GrdK.ft ?_ | refine PickK.t ?_ | refine PickK.f ?_); (conv => whnf))
  refine CallK.of [] (kept_spec A n c ps s hs hj) rfl (fun w hw => hp.pass hw) ?_
  rintro _ _ ⟨A0, c0, hA0, rfl, rfl⟩
  have hA0c := hA0.1
  obtain ⟨J, hJ⟩ : ∃ J, joined ps = J := ⟨_, rfl⟩
  rw [hJ] at hlast hA0 hA0c hj ⊢
  obtain ⟨Kp, hKp⟩ : ∃ Kp, lastN s J = Kp := ⟨_, rfl⟩
  have hkl : J.length - (J.length - s) = Kp.length := by rw [← hKp, hlast]; omega
  have hkd : ((J.map vU8).drop ((J.length - s) * 1)).take (Kp.length * 1) = Kp.map vU8 := by
    rw [Nat.mul_one, Nat.mul_one, ← List.map_drop, List.take_of_length_le (by rw [List.length_map, List.length_drop]; omega), ← hKp]
    rfl
  rw [hKp] at hlast ⊢
  rw [hkl]
  (conv => whnf); repeat ((first | refine RngK.mk (by omega) (by omega) ?_ | refine NzK.mk (by omega) ?_ | refine NnK.mk (by omega) ?_ | refine BdK.mk (by omega) (by omega) (by omega) ?_ | refine InsK.lit (by omega) (by omega) ?_ | refine SpK.lit ?_ | refine GrdK.same ?_ | refine GrdK.tf ?_ | refine GrdK.ft ?_ | refine PickK.t ?_ | refine PickK.f ?_); (conv => whnf))
  refine EffK.lit0 rfl rfl fun b1 => ?_
  (conv => whnf); repeat ((first | refine RngK.mk (by omega) (by omega) ?_ | refine NzK.mk (by omega) ?_ | refine NnK.mk (by omega) ?_ | refine BdK.mk (by omega) (by omega) (by omega) ?_ | refine InsK.lit (by omega) (by omega) ?_ | refine SpK.lit ?_ | refine GrdK.same ?_ | refine GrdK.tf ?_ | refine GrdK.ft ?_ | refine PickK.t ?_ | refine PickK.f ?_); (conv => whnf))
  refine EffK.append 0 (news := ((J.map vU8).drop ((J.length - s) * 1)).take (Kp.length * 1)) rfl rfl rfl rfl rfl rfl rfl rfl (Src.ownCut (k := 1) (sz := 1) rfl (by simp) rfl (by omega) hA0c rfl) ?_ (by simp [maxLen]; omega) (by show (_ + _) * 1 ≤ _; omega) fun A5 c5 => ?_
  · intro u hu
    rw [hkd] at hu
    exact vU8_one u hu
  rw [hkd, Nat.zero_add, List.nil_append]
  (conv => whnf); repeat ((first | refine RngK.mk (by omega) (by omega) ?_ | refine NzK.mk (by omega) ?_ | refine NnK.mk (by omega) ?_ | refine BdK.mk (by omega) (by omega) (by omega) ?_ | refine InsK.lit (by omega) (by omega) ?_ | refine SpK.lit ?_ | refine GrdK.same ?_ | refine GrdK.tf ?_ | refine GrdK.ft ?_ | refine PickK.t ?_ | refine PickK.f ?_); (conv => whnf))
  refine EffK.append 0 (news := bs.map vU8) rfl rfl rfl rfl rfl rfl rfl rfl (Src.rd hB.rd) vU8_one (by simp [maxLen]; omega) (by show (_ + _) * 1 ≤ _; omega) fun A6 c6 => ?_
  rw [← List.map_append]
  have hal : (Kp ++ bs).length = Kp.length + bs.length := by simp
  have hcp : cpOut Kp bs o m = if o = 0 ∨ (Kp ++ bs).length < o then (bs, false) else (bs ++ per (Kp ++ bs) o m, true) := rfl
  obtain ⟨cp, hcpe⟩ : ∃ cp, cpOut Kp bs o m = cp := ⟨_, rfl⟩
  rw [hcpe] at hcp ⊢
  (conv => whnf); repeat ((first | refine RngK.mk (by omega) (by omega) ?_ | refine NzK.mk (by omega) ?_ | refine NnK.mk (by omega) ?_ | refine BdK.mk (by omega) (by omega) (by omega) ?_ | refine InsK.lit (by omega) (by omega) ?_ | refine SpK.lit ?_ | refine GrdK.same ?_ | refine GrdK.tf ?_ | refine GrdK.ft ?_ | refine PickK.t ?_ | refine PickK.f ?_); (conv => whnf))
  by_cases c1 : ((o : Nat) : Int) < 1
  · rw [if_pos (.inl (by omega))] at hcp
    subst hcp
    rw [decide_eq_true c1]
    (conv => whnf); repeat ((first | refine RngK.mk (by omega) (by omega) ?_ | refine NzK.mk (by omega) ?_ | refine NnK.mk (by omega) ?_ | refine BdK.mk (by omega) (by omega) (by omega) ?_ | refine InsK.lit (by omega) (by omega) ?_ | refine SpK.lit ?_ | refine GrdK.same ?_ | refine GrdK.tf ?_ | refine GrdK.ft ?_ | refine PickK.t ?_ | refine PickK.f ?_); (conv => whnf))
    refine Wp.cond rfl (fun _ => ?_) (fun h => by cases h)
    (conv => whnf); repeat ((first | refine RngK.mk (by omega) (by omega) ?_ | refine NzK.mk (by omega) ?_ | refine NnK.mk (by omega) ?_ | refine BdK.mk (by omega) (by omega) (by omega) ?_ | refine InsK.lit (by omega) (by omega) ?_ | refine SpK.lit ?_ | refine GrdK.same ?_ | refine GrdK.tf ?_ | refine GrdK.ft ?_ | refine PickK.t ?_ | refine PickK.f ?_); (conv => whnf))
    exact ⟨_, HSub.nil _, .inl ⟨rfl, none, 0, 0, rfl, rfl⟩⟩
  rw [decide_eq_false c1]
  (conv => whnf); repeat ((first | refine RngK.mk (by omega) (by omega) ?_ | refine NzK.mk (by omega) ?_ | refine NnK.mk (by omega) ?_ | refine BdK.mk (by omega) (by omega) (by omega) ?_ | refine InsK.lit (by omega) (by omega) ?_ | refine SpK.lit ?_ | refine GrdK.same ?_ | refine GrdK.tf ?_ | refine GrdK.ft ?_ | refine PickK.t ?_ | refine PickK.f ?_); (conv => whnf))
  refine Wp.cond rfl (fun h => ?_) (fun h => ?_)
  · have h : ((o : Nat) : Int) > ((Kp.length + bs.length : Nat) : Int) := dT h
    rw [if_pos (.inr (by omega))] at hcp
    subst hcp
    (conv => whnf); repeat ((first | refine RngK.mk (by omega) (by omega) ?_ | refine NzK.mk (by omega) ?_ | refine NnK.mk (by omega) ?_ | refine BdK.mk (by omega) (by omega) (by omega) ?_ | refine InsK.lit (by omega) (by omega) ?_ | refine SpK.lit ?_ | refine GrdK.same ?_ | refine GrdK.tf ?_ | refine GrdK.ft ?_ | refine PickK.t ?_ | refine PickK.f ?_); (conv => whnf))
    exact ⟨_, HSub.nil _, .inl ⟨rfl, none, 0, 0, rfl, rfl⟩⟩
  have h : ¬ ((o : Nat) : Int) > ((Kp.length + bs.length : Nat) : Int) := dF h
  rw [if_neg (by omega)] at hcp
  subst hcp
  (conv => whnf); repeat ((first | refine RngK.mk (by omega) (by omega) ?_ | refine NzK.mk (by omega) ?_ | refine NnK.mk (by omega) ?_ | refine BdK.mk (by omega) (by omega) (by omega) ?_ | refine InsK.lit (by omega) (by omega) ?_ | refine SpK.lit ?_ | refine GrdK.same ?_ | refine GrdK.tf ?_ | refine GrdK.ft ?_ | refine PickK.t ?_ | refine PickK.f ?_); (conv => whnf))
  obtain ⟨all, hall⟩ : ∃ all, Kp ++ bs = all := ⟨_, rfl⟩
  rw [hall] at hal ⊢
  rw [← hal]
  have e0 : all ++ per all o 0 = all := by simp [per]
  refine Wp.cutEx 0 (fun t : Option Addr × Nat => [(12, .slice (cutA A0 (J.length - s) c0 1) Kp.length (c0 - (J.length - s))), (13, .slice t.1 (all.length + m) t.2)])
    (fun t => [.own t.1 (all.length + m) t.2 5 1 ((all ++ per all o m).map vU8)]) (fun t => OwnA t.1 (all.length + m) t.2) ?_ fun ⟨A7, c7⟩ hA7 => ?_
  · refine Wp.loop (fun t : Nat × Option Addr × Nat => [(3, vI o), (12, .slice (cutA A0 (J.length - s) c0 1) Kp.length (c0 - (J.length - s))), (13, .slice t.2.1 (all.length + t.1) t.2.2), (30, vI m), (31, vI t.1)])
      (fun t => [.own t.2.1 (all.length + t.1) t.2.2 5 1 ((all ++ per all o t.1).map vU8)]) (fun t => t.1 ≤ m) (fun t => m - t.1) (0, A6, c6)
      ⟨rfl, rfl, rfl, rfl, rfl, trivial⟩ (by dsimp only; rw [e0]; exact HSub.of [0] rfl) (Nat.zero_le _) fun ⟨k, A7, c7⟩ hk => ?_
    dsimp only at hk ⊢
    (conv => whnf); repeat ((first | refine RngK.mk (by omega) (by omega) ?_ | refine NzK.mk (by omega) ?_ | refine NnK.mk (by omega) ?_ | refine BdK.mk (by omega) (by omega) (by omega) ?_ | refine InsK.lit (by omega) (by omega) ?_ | refine SpK.lit ?_ | refine GrdK.same ?_ | refine GrdK.tf ?_ | refine GrdK.ft ?_ | refine PickK.t ?_ | refine PickK.f ?_); (conv => whnf))
    refine Wp.own 0 rfl fun hA7 => ?_
    refine Wp.cond rfl (fun h => ?_) (fun h => ?_)
    · have h := dT h
      have hb := per_back (all := all) (o := o) (n := k) (by omega) (by omega)
      have hs := per_succ all o k
      obtain ⟨y, hy⟩ : ∃ y, all.getD (all.length - o + k % o) 0 = y := ⟨_, rfl⟩
      rw [hy] at hb hs
      have hgb : ((all ++ per all o k).map vU8)[all.length + k - o]? = some (vU8 y) := by rw [List.getElem?_map, hb]; rfl
      have eo : ((all.length + k : Nat) : Int) - ((o : Nat) : Int) = ((all.length + k - o : Nat) : Int) := by omega
      (conv => whnf); repeat ((first | refine RngK.mk (by omega) (by omega) ?_ | refine NzK.mk (by omega) ?_ | refine NnK.mk (by omega) ?_ | refine BdK.mk (by omega) (by omega) (by omega) ?_ | refine InsK.lit (by omega) (by omega) ?_ | refine SpK.lit ?_ | refine GrdK.same ?_ | refine GrdK.tf ?_ | refine GrdK.ft ?_ | refine PickK.t ?_ | refine PickK.f ?_); (conv => whnf))
      rw [eo]
      refine InsK.own hA7 (by omega) (by omega) ?_
      (conv => whnf); repeat ((first | refine RngK.mk (by omega) (by omega) ?_ | refine NzK.mk (by omega) ?_ | refine NnK.mk (by omega) ?_ | refine BdK.mk (by omega) (by omega) (by omega) ?_ | refine InsK.lit (by omega) (by omega) ?_ | refine SpK.lit ?_ | refine GrdK.same ?_ | refine GrdK.tf ?_ | refine GrdK.ft ?_ | refine PickK.t ?_ | refine PickK.f ?_); (conv => whnf))
      refine LdK.own 0 (all.length + k - o) rfl rfl rfl rfl hgb ?_
      (conv => whnf); repeat ((first | refine RngK.mk (by omega) (by omega) ?_ | refine NzK.mk (by omega) ?_ | refine NnK.mk (by omega) ?_ | refine BdK.mk (by omega) (by omega) (by omega) ?_ | refine InsK.lit (by omega) (by omega) ?_ | refine SpK.lit ?_ | refine GrdK.same ?_ | refine GrdK.tf ?_ | refine GrdK.ft ?_ | refine PickK.t ?_ | refine PickK.f ?_); (conv => whnf))
      refine EffK.litV rfl rfl rfl rfl rfl rfl rfl rfl rfl ?_
      (conv => whnf); repeat ((first | refine RngK.mk (by omega) (by omega) ?_ | refine NzK.mk (by omega) ?_ | refine NnK.mk (by omega) ?_ | refine BdK.mk (by omega) (by omega) (by omega) ?_ | refine InsK.lit (by omega) (by omega) ?_ | refine SpK.lit ?_ | refine GrdK.same ?_ | refine GrdK.tf ?_ | refine GrdK.ft ?_ | refine PickK.t ?_ | refine PickK.f ?_); (conv => whnf))
      intro b2
      (conv => whnf); repeat ((first | refine RngK.mk (by omega) (by omega) ?_ | refine NzK.mk (by omega) ?_ | refine NnK.mk (by omega) ?_ | refine BdK.mk (by omega) (by omega) (by omega) ?_ | refine InsK.lit (by omega) (by omega) ?_ | refine SpK.lit ?_ | refine GrdK.same ?_ | refine GrdK.tf ?_ | refine GrdK.ft ?_ | refine PickK.t ?_ | refine PickK.f ?_); (conv => whnf))
      refine EffK.append 1 (news := [vU8 y]) rfl rfl rfl rfl rfl rfl rfl rfl (Src.ownW (k := 0) rfl rfl) (by intro u hu; rcases List.mem_singleton.1 hu with rfl; rfl) (by simp [maxLen]; omega) (by show (_ + _) * 1 ≤ _; omega) fun A8 c8 => ?_
      (conv => whnf); repeat ((first | refine RngK.mk (by omega) (by omega) ?_ | refine NzK.mk (by omega) ?_ | refine NnK.mk (by omega) ?_ | refine BdK.mk (by omega) (by omega) (by omega) ?_ | refine InsK.lit (by omega) (by omega) ?_ | refine SpK.lit ?_ | refine GrdK.same ?_ | refine GrdK.tf ?_ | refine GrdK.ft ?_ | refine PickK.t ?_ | refine PickK.f ?_); (conv => whnf))
      have es : (all ++ per all o k).map vU8 ++ [vU8 y] = (all ++ per all o (k + 1)).map vU8 := by rw [hs, ← List.append_assoc, List.map_append (l₁ := all ++ per all o k)]; rfl
      refine ⟨(k + 1, A8, c8), ⟨rfl, rfl, rfl, rfl, rfl, trivial⟩, ?_, by simp only; omega, by simp only; omega⟩
      dsimp only
      rw [← es]
      exact HSub.of [1] rfl
    · have h := dF h
      obtain rfl : k = m := by omega
      (conv => whnf); repeat ((first | refine RngK.mk (by omega) (by omega) ?_ | refine NzK.mk (by omega) ?_ | refine NnK.mk (by omega) ?_ | refine BdK.mk (by omega) (by omega) (by omega) ?_ | refine InsK.lit (by omega) (by omega) ?_ | refine SpK.lit ?_ | refine GrdK.same ?_ | refine GrdK.tf ?_ | refine GrdK.ft ?_ | refine PickK.t ?_ | refine PickK.f ?_); (conv => whnf))
      exact ⟨(A7, c7), ⟨rfl, rfl, trivial⟩, HSub.refl _, hA7⟩
  · dsimp only at hA7 ⊢
    have hA7c := hA7.1
    (conv => whnf); repeat ((first | refine RngK.mk (by omega) (by omega) ?_ | refine NzK.mk (by omega) ?_ | refine NnK.mk (by omega) ?_ | refine BdK.mk (by omega) (by omega) (by omega) ?_ | refine InsK.lit (by omega) (by omega) ?_ | refine SpK.lit ?_ | refine GrdK.same ?_ | refine GrdK.tf ?_ | refine GrdK.ft ?_ | refine PickK.t ?_ | refine PickK.f ?_); (conv => whnf))
    refine SpK.own hA7 ?_
    rw [Int.toNat_natCast, Int.toNat_natCast]
    (conv => whnf); repeat ((first | refine RngK.mk (by omega) (by omega) ?_ | refine NzK.mk (by omega) ?_ | refine NnK.mk (by omega) ?_ | refine BdK.mk (by omega) (by omega) (by omega) ?_ | refine InsK.lit (by omega) (by omega) ?_ | refine SpK.lit ?_ | refine GrdK.same ?_ | refine GrdK.tf ?_ | refine GrdK.ft ?_ | refine PickK.t ?_ | refine PickK.f ?_); (conv => whnf))
    have e1 : all.length + m - Kp.length = bs.length + m := by omega
    rw [e1]
    exact ⟨_, HSub.refl _, .inr ⟨rfl, A7, c7, hA7, rfl, rfl⟩⟩
theorem tooLong_two (a b : Int) : tooLong 0 [a, b] = decide (a > 1000000 ∨ b > 1000000 - a) := by
  simp only [tooLong]
  by_cases h1 : a > 1000000
  · simp [h1]
  · by_cases h2 : b > 1000000 - a <;> simp [h1, h2]
theorem wf_int {z : Int} (h : (Lit.int .i64 z).wf = true) : -9223372036854775808 ≤ z ∧ z ≤ 9223372036854775807 := by
  simp [Lit.wf, IntKind.min, IntKind.max, IntKind.signed, IntKind.bits] at h
  omega
theorem noPieces {w : World} {W : Nat → Prop} : Pieces w W none 0 0 [] := ⟨Rd.nil 1, Nat.le_refl _, Nat.zero_le _, fun p hp => by cases hp⟩
set_option maxHeartbeats 4000000 in
theorem lawCopyMatch (s : Int) (A : Option Addr) (n c : Nat) (ps : List Piece) (B : Option Addr) (bl bc : Nat) (bs : List UInt8) (o m : Int) (e : Addr) :
    FnS Tryd.prog 3 [vI s, .slice A n c, .slice B bl bc, vI o, vI m] [] (fun w => (Lit.int .i64 s).wf = true ∧ Pieces w (blocks []) A n c ps ∧ Bytes w (blocks []) B bl bc bs ∧ (Lit.int .i64 o).wf = true ∧ (Lit.int .i64 m).wf = true ∧ LaidE w (blocks []) e) (Is (vB true)) := by
  refine FnS.introD Tryd.func3 rfl (by kernel_rfl) rfl fun w hH ⟨_, hp, hB, _, _, hL⟩ => ?_
  obtain rfl : bs.length = bl := hB.len
  have hle := hB.le
  have hmx := hB.max
  simp only [maxLen] at hmx
  (conv => whnf); repeat ((first | refine RngK.mk (by omega) (by omega) ?_ | refine NzK.mk (by omega) ?_ | refine NnK.mk (by omega) ?_ | refine BdK.mk (by omega) (by omega) (by omega) ?_ | refine InsK.lit (by omega) (by omega) ?_ | refine SpK.lit ?_ | refine GrdK.same ?_ | refine GrdK.tf ?_ | refine GrdK.ft ?_ | refine PickK.t ?_ | refine PickK.f ?_); (conv => whnf))
  refine CallK.of [] (fits1_spec A n c ps) rfl (fun w hw => hp.pass hw) ?_
  rintro _ _ ⟨rfl, rfl⟩
  (conv => whnf); repeat ((first | refine RngK.mk (by omega) (by omega) ?_ | refine NzK.mk (by omega) ?_ | refine NnK.mk (by omega) ?_ | refine BdK.mk (by omega) (by omega) (by omega) ?_ | refine InsK.lit (by omega) (by omega) ?_ | refine SpK.lit ?_ | refine GrdK.same ?_ | refine GrdK.tf ?_ | refine GrdK.ft ?_ | refine PickK.t ?_ | refine PickK.f ?_); (conv => whnf))
  cases hfit : fits1 ps with
  | false =>
    (conv => whnf); repeat ((first | refine RngK.mk (by omega) (by omega) ?_ | refine NzK.mk (by omega) ?_ | refine NnK.mk (by omega) ?_ | refine BdK.mk (by omega) (by omega) (by omega) ?_ | refine InsK.lit (by omega) (by omega) ?_ | refine SpK.lit ?_ | refine GrdK.same ?_ | refine GrdK.tf ?_ | refine GrdK.ft ?_ | refine PickK.t ?_ | refine PickK.f ?_); (conv => whnf))
    refine Wp.cond rfl (fun _ => ?_) (fun h => by cases h)
    (conv => whnf); repeat ((first | refine RngK.mk (by omega) (by omega) ?_ | refine NzK.mk (by omega) ?_ | refine NnK.mk (by omega) ?_ | refine BdK.mk (by omega) (by omega) (by omega) ?_ | refine InsK.lit (by omega) (by omega) ?_ | refine SpK.lit ?_ | refine GrdK.same ?_ | refine GrdK.tf ?_ | refine GrdK.ft ?_ | refine PickK.t ?_ | refine PickK.f ?_); (conv => whnf))
    exact ⟨[], HSub.nil _, rfl, rfl⟩
  | true =>
  (conv => whnf); repeat ((first | refine RngK.mk (by omega) (by omega) ?_ | refine NzK.mk (by omega) ?_ | refine NnK.mk (by omega) ?_ | refine BdK.mk (by omega) (by omega) (by omega) ?_ | refine InsK.lit (by omega) (by omega) ?_ | refine SpK.lit ?_ | refine GrdK.same ?_ | refine GrdK.tf ?_ | refine GrdK.ft ?_ | refine PickK.t ?_ | refine PickK.f ?_); (conv => whnf))
  refine Wp.cond rfl (fun g1 => ?_) (fun g1 => ?_)
  · (conv => whnf); repeat ((first | refine RngK.mk (by omega) (by omega) ?_ | refine NzK.mk (by omega) ?_ | refine NnK.mk (by omega) ?_ | refine BdK.mk (by omega) (by omega) (by omega) ?_ | refine InsK.lit (by omega) (by omega) ?_ | refine SpK.lit ?_ | refine GrdK.same ?_ | refine GrdK.tf ?_ | refine GrdK.ft ?_ | refine PickK.t ?_ | refine PickK.f ?_); (conv => whnf))
    exact ⟨[], HSub.nil _, rfl, rfl⟩
  have g1 : ¬ ((bs.length : Nat) : Int) > 2147483647 := dF g1
  (conv => whnf); repeat ((first | refine RngK.mk (by omega) (by omega) ?_ | refine NzK.mk (by omega) ?_ | refine NnK.mk (by omega) ?_ | refine BdK.mk (by omega) (by omega) (by omega) ?_ | refine InsK.lit (by omega) (by omega) ?_ | refine SpK.lit ?_ | refine GrdK.same ?_ | refine GrdK.tf ?_ | refine GrdK.ft ?_ | refine PickK.t ?_ | refine PickK.f ?_); (conv => whnf))
  refine CallK.of [] (sizeP_spec A n c ps) rfl (fun w hw => hp.pass hw) ?_
  rintro _ _ ⟨rfl, rfl⟩
  (conv => whnf); repeat ((first | refine RngK.mk (by omega) (by omega) ?_ | refine NzK.mk (by omega) ?_ | refine NnK.mk (by omega) ?_ | refine BdK.mk (by omega) (by omega) (by omega) ?_ | refine InsK.lit (by omega) (by omega) ?_ | refine SpK.lit ?_ | refine GrdK.same ?_ | refine GrdK.tf ?_ | refine GrdK.ft ?_ | refine PickK.t ?_ | refine PickK.f ?_); (conv => whnf))
  refine EffK.litV rfl rfl rfl rfl rfl rfl rfl rfl rfl ?_
  (conv => whnf); repeat ((first | refine RngK.mk (by omega) (by omega) ?_ | refine NzK.mk (by omega) ?_ | refine NnK.mk (by omega) ?_ | refine BdK.mk (by omega) (by omega) (by omega) ?_ | refine InsK.lit (by omega) (by omega) ?_ | refine SpK.lit ?_ | refine GrdK.same ?_ | refine GrdK.tf ?_ | refine GrdK.ft ?_ | refine PickK.t ?_ | refine PickK.f ?_); (conv => whnf))
  intro b
  (conv => whnf); repeat ((first | refine RngK.mk (by omega) (by omega) ?_ | refine NzK.mk (by omega) ?_ | refine NnK.mk (by omega) ?_ | refine BdK.mk (by omega) (by omega) (by omega) ?_ | refine InsK.lit (by omega) (by omega) ?_ | refine SpK.lit ?_ | refine GrdK.same ?_ | refine GrdK.tf ?_ | refine GrdK.ft ?_ | refine PickK.t ?_ | refine PickK.f ?_); (conv => whnf))
  have hsz := sizeP_bound ps 0 (by omega) (by omega)
  refine CallK.of [] (tooLong_spec (some ⟨b, 0, none⟩) 2 2 [sizeP 0 ps, (bs.length : Int)] (by intro x hx; simp only [List.mem_cons, List.not_mem_nil, or_false] at hx; omega)) rfl (fun w hw => ⟨Rd.ofOwn hw 0 rfl, by decide⟩) ?_
  rintro _ _ ⟨rfl, rfl⟩
  rw [tooLong_two]
  (conv => whnf); repeat ((first | refine RngK.mk (by omega) (by omega) ?_ | refine NzK.mk (by omega) ?_ | refine NnK.mk (by omega) ?_ | refine BdK.mk (by omega) (by omega) (by omega) ?_ | refine InsK.lit (by omega) (by omega) ?_ | refine SpK.lit ?_ | refine GrdK.same ?_ | refine GrdK.tf ?_ | refine GrdK.ft ?_ | refine PickK.t ?_ | refine PickK.f ?_); (conv => whnf))
  refine Wp.cond rfl (fun g2 => ?_) (fun g2 => ?_)
  · (conv => whnf); repeat ((first | refine RngK.mk (by omega) (by omega) ?_ | refine NzK.mk (by omega) ?_ | refine NnK.mk (by omega) ?_ | refine BdK.mk (by omega) (by omega) (by omega) ?_ | refine InsK.lit (by omega) (by omega) ?_ | refine SpK.lit ?_ | refine GrdK.same ?_ | refine GrdK.tf ?_ | refine GrdK.ft ?_ | refine PickK.t ?_ | refine PickK.f ?_); (conv => whnf))
    exact ⟨[], HSub.nil _, rfl, rfl⟩
  have g2 := dF g2
  have hj := sizeP_joined ps 0 (fun p hp' => (hp.each p hp').len) (by omega) (by omega) (by omega)
  have hj : (joined ps).length ≤ 1000000 := by omega
  have hbl : bs.length ≤ 1000000 := by omega
  clear g1 g2 hsz
  (conv => whnf); repeat ((first | refine RngK.mk (by omega) (by omega) ?_ | refine NzK.mk (by omega) ?_ | refine NnK.mk (by omega) ?_ | refine BdK.mk (by omega) (by omega) (by omega) ?_ | refine InsK.lit (by omega) (by omega) ?_ | refine SpK.lit ?_ | refine GrdK.same ?_ | refine GrdK.tf ?_ | refine GrdK.ft ?_ | refine PickK.t ?_ | refine PickK.f ?_); (conv => whnf))
  refine EffK.litV rfl rfl rfl rfl rfl rfl rfl rfl rfl ?_
  (conv => whnf); repeat ((first | refine RngK.mk (by omega) (by omega) ?_ | refine NzK.mk (by omega) ?_ | refine NnK.mk (by omega) ?_ | refine BdK.mk (by omega) (by omega) (by omega) ?_ | refine InsK.lit (by omega) (by omega) ?_ | refine SpK.lit ?_ | refine GrdK.same ?_ | refine GrdK.tf ?_ | refine GrdK.ft ?_ | refine PickK.t ?_ | refine PickK.f ?_); (conv => whnf))
  intro b1
  (conv => whnf); repeat ((first | refine RngK.mk (by omega) (by omega) ?_ | refine NzK.mk (by omega) ?_ | refine NnK.mk (by omega) ?_ | refine BdK.mk (by omega) (by omega) (by omega) ?_ | refine InsK.lit (by omega) (by omega) ?_ | refine SpK.lit ?_ | refine GrdK.same ?_ | refine GrdK.tf ?_ | refine GrdK.ft ?_ | refine PickK.t ?_ | refine PickK.f ?_); (conv => whnf))
  refine CallK.of [] (cmatch_spec none 0 0 [] 1 (some ⟨b1, 0, none⟩) 1 1 [5] 1 2 e (by omega) (by omega) (by decide) (by omega) (by omega) (by omega)) rfl
    (fun w hw => ⟨noPieces, Bytes.ofOwn (bs := [5]) hw 0 rfl, hL.pass hw⟩) ?_
  have h555 : cpOut (lastN 1 (joined [])) [5] 1 2 = ([5, 5, 5], true) := by decide +kernel
  rw [h555]
  rintro _ _ ⟨A1, c1, rfl, rfl⟩
  (conv => whnf); repeat ((first | refine RngK.mk (by omega) (by omega) ?_ | refine NzK.mk (by omega) ?_ | refine NnK.mk (by omega) ?_ | refine BdK.mk (by omega) (by omega) (by omega) ?_ | refine InsK.lit (by omega) (by omega) ?_ | refine SpK.lit ?_ | refine GrdK.same ?_ | refine GrdK.tf ?_ | refine GrdK.ft ?_ | refine PickK.t ?_ | refine PickK.f ?_); (conv => whnf))
  by_cases c1 : s < 1
  · rw [decide_eq_true c1]
    (conv => whnf); repeat ((first | refine RngK.mk (by omega) (by omega) ?_ | refine NzK.mk (by omega) ?_ | refine NnK.mk (by omega) ?_ | refine BdK.mk (by omega) (by omega) (by omega) ?_ | refine InsK.lit (by omega) (by omega) ?_ | refine SpK.lit ?_ | refine GrdK.same ?_ | refine GrdK.tf ?_ | refine GrdK.ft ?_ | refine PickK.t ?_ | refine PickK.f ?_); (conv => whnf))
    refine Wp.cond rfl (fun _ => ?_) (fun h => by cases h)
    (conv => whnf); repeat ((first | refine RngK.mk (by omega) (by omega) ?_ | refine NzK.mk (by omega) ?_ | refine NnK.mk (by omega) ?_ | refine BdK.mk (by omega) (by omega) (by omega) ?_ | refine InsK.lit (by omega) (by omega) ?_ | refine SpK.lit ?_ | refine GrdK.same ?_ | refine GrdK.tf ?_ | refine GrdK.ft ?_ | refine PickK.t ?_ | refine PickK.f ?_); (conv => whnf))
    exact ⟨[], HSub.nil _, rfl, rfl⟩
  rw [decide_eq_false c1]
  (conv => whnf); repeat ((first | refine RngK.mk (by omega) (by omega) ?_ | refine NzK.mk (by omega) ?_ | refine NnK.mk (by omega) ?_ | refine BdK.mk (by omega) (by omega) (by omega) ?_ | refine InsK.lit (by omega) (by omega) ?_ | refine SpK.lit ?_ | refine GrdK.same ?_ | refine GrdK.tf ?_ | refine GrdK.ft ?_ | refine PickK.t ?_ | refine PickK.f ?_); (conv => whnf))
  by_cases c2 : s > 1000000
  · rw [decide_eq_true c2]
    (conv => whnf); repeat ((first | refine RngK.mk (by omega) (by omega) ?_ | refine NzK.mk (by omega) ?_ | refine NnK.mk (by omega) ?_ | refine BdK.mk (by omega) (by omega) (by omega) ?_ | refine InsK.lit (by omega) (by omega) ?_ | refine SpK.lit ?_ | refine GrdK.same ?_ | refine GrdK.tf ?_ | refine GrdK.ft ?_ | refine PickK.t ?_ | refine PickK.f ?_); (conv => whnf))
    refine Wp.cond rfl (fun _ => ?_) (fun h => by cases h)
    (conv => whnf); repeat ((first | refine RngK.mk (by omega) (by omega) ?_ | refine NzK.mk (by omega) ?_ | refine NnK.mk (by omega) ?_ | refine BdK.mk (by omega) (by omega) (by omega) ?_ | refine InsK.lit (by omega) (by omega) ?_ | refine SpK.lit ?_ | refine GrdK.same ?_ | refine GrdK.tf ?_ | refine GrdK.ft ?_ | refine PickK.t ?_ | refine PickK.f ?_); (conv => whnf))
    exact ⟨[], HSub.nil _, rfl, rfl⟩
  rw [decide_eq_false c2]
  (conv => whnf); repeat ((first | refine RngK.mk (by omega) (by omega) ?_ | refine NzK.mk (by omega) ?_ | refine NnK.mk (by omega) ?_ | refine BdK.mk (by omega) (by omega) (by omega) ?_ | refine InsK.lit (by omega) (by omega) ?_ | refine SpK.lit ?_ | refine GrdK.same ?_ | refine GrdK.tf ?_ | refine GrdK.ft ?_ | refine PickK.t ?_ | refine PickK.f ?_); (conv => whnf))
  by_cases c3 : o < 1
  · rw [decide_eq_true c3]
    (conv => whnf); repeat ((first | refine RngK.mk (by omega) (by omega) ?_ | refine NzK.mk (by omega) ?_ | refine NnK.mk (by omega) ?_ | refine BdK.mk (by omega) (by omega) (by omega) ?_ | refine InsK.lit (by omega) (by omega) ?_ | refine SpK.lit ?_ | refine GrdK.same ?_ | refine GrdK.tf ?_ | refine GrdK.ft ?_ | refine PickK.t ?_ | refine PickK.f ?_); (conv => whnf))
    refine Wp.cond rfl (fun _ => ?_) (fun h => by cases h)
    (conv => whnf); repeat ((first | refine RngK.mk (by omega) (by omega) ?_ | refine NzK.mk (by omega) ?_ | refine NnK.mk (by omega) ?_ | refine BdK.mk (by omega) (by omega) (by omega) ?_ | refine InsK.lit (by omega) (by omega) ?_ | refine SpK.lit ?_ | refine GrdK.same ?_ | refine GrdK.tf ?_ | refine GrdK.ft ?_ | refine PickK.t ?_ | refine PickK.f ?_); (conv => whnf))
    exact ⟨[], HSub.nil _, rfl, rfl⟩
  rw [decide_eq_false c3]
  (conv => whnf); repeat ((first | refine RngK.mk (by omega) (by omega) ?_ | refine NzK.mk (by omega) ?_ | refine NnK.mk (by omega) ?_ | refine BdK.mk (by omega) (by omega) (by omega) ?_ | refine InsK.lit (by omega) (by omega) ?_ | refine SpK.lit ?_ | refine GrdK.same ?_ | refine GrdK.tf ?_ | refine GrdK.ft ?_ | refine PickK.t ?_ | refine PickK.f ?_); (conv => whnf))
  by_cases c4 : o > 2147483647
  · rw [decide_eq_true c4]
    (conv => whnf); repeat ((first | refine RngK.mk (by omega) (by omega) ?_ | refine NzK.mk (by omega) ?_ | refine NnK.mk (by omega) ?_ | refine BdK.mk (by omega) (by omega) (by omega) ?_ | refine InsK.lit (by omega) (by omega) ?_ | refine SpK.lit ?_ | refine GrdK.same ?_ | refine GrdK.tf ?_ | refine GrdK.ft ?_ | refine PickK.t ?_ | refine PickK.f ?_); (conv => whnf))
    refine Wp.cond rfl (fun _ => ?_) (fun h => by cases h)
    (conv => whnf); repeat ((first | refine RngK.mk (by omega) (by omega) ?_ | refine NzK.mk (by omega) ?_ | refine NnK.mk (by omega) ?_ | refine BdK.mk (by omega) (by omega) (by omega) ?_ | refine InsK.lit (by omega) (by omega) ?_ | refine SpK.lit ?_ | refine GrdK.same ?_ | refine GrdK.tf ?_ | refine GrdK.ft ?_ | refine PickK.t ?_ | refine PickK.f ?_); (conv => whnf))
    exact ⟨[], HSub.nil _, rfl, rfl⟩
  rw [decide_eq_false c4]
  (conv => whnf); repeat ((first | refine RngK.mk (by omega) (by omega) ?_ | refine NzK.mk (by omega) ?_ | refine NnK.mk (by omega) ?_ | refine BdK.mk (by omega) (by omega) (by omega) ?_ | refine InsK.lit (by omega) (by omega) ?_ | refine SpK.lit ?_ | refine GrdK.same ?_ | refine GrdK.tf ?_ | refine GrdK.ft ?_ | refine PickK.t ?_ | refine PickK.f ?_); (conv => whnf))
  by_cases c5 : m < 0
  · rw [decide_eq_true c5]
    (conv => whnf); repeat ((first | refine RngK.mk (by omega) (by omega) ?_ | refine NzK.mk (by omega) ?_ | refine NnK.mk (by omega) ?_ | refine BdK.mk (by omega) (by omega) (by omega) ?_ | refine InsK.lit (by omega) (by omega) ?_ | refine SpK.lit ?_ | refine GrdK.same ?_ | refine GrdK.tf ?_ | refine GrdK.ft ?_ | refine PickK.t ?_ | refine PickK.f ?_); (conv => whnf))
    refine Wp.cond rfl (fun _ => ?_) (fun h => by cases h)
    (conv => whnf); repeat ((first | refine RngK.mk (by omega) (by omega) ?_ | refine NzK.mk (by omega) ?_ | refine NnK.mk (by omega) ?_ | refine BdK.mk (by omega) (by omega) (by omega) ?_ | refine InsK.lit (by omega) (by omega) ?_ | refine SpK.lit ?_ | refine GrdK.same ?_ | refine GrdK.tf ?_ | refine GrdK.ft ?_ | refine PickK.t ?_ | refine PickK.f ?_); (conv => whnf))
    exact ⟨[], HSub.nil _, rfl, rfl⟩
  rw [decide_eq_false c5]
  (conv => whnf); repeat ((first | refine RngK.mk (by omega) (by omega) ?_ | refine NzK.mk (by omega) ?_ | refine NnK.mk (by omega) ?_ | refine BdK.mk (by omega) (by omega) (by omega) ?_ | refine InsK.lit (by omega) (by omega) ?_ | refine SpK.lit ?_ | refine GrdK.same ?_ | refine GrdK.tf ?_ | refine GrdK.ft ?_ | refine PickK.t ?_ | refine PickK.f ?_); (conv => whnf))
  by_cases c6 : m > 100000
  · rw [decide_eq_true c6]
    (conv => whnf); repeat ((first | refine RngK.mk (by omega) (by omega) ?_ | refine NzK.mk (by omega) ?_ | refine NnK.mk (by omega) ?_ | refine BdK.mk (by omega) (by omega) (by omega) ?_ | refine InsK.lit (by omega) (by omega) ?_ | refine SpK.lit ?_ | refine GrdK.same ?_ | refine GrdK.tf ?_ | refine GrdK.ft ?_ | refine PickK.t ?_ | refine PickK.f ?_); (conv => whnf))
    refine Wp.cond rfl (fun _ => ?_) (fun h => by cases h)
    (conv => whnf); repeat ((first | refine RngK.mk (by omega) (by omega) ?_ | refine NzK.mk (by omega) ?_ | refine NnK.mk (by omega) ?_ | refine BdK.mk (by omega) (by omega) (by omega) ?_ | refine InsK.lit (by omega) (by omega) ?_ | refine SpK.lit ?_ | refine GrdK.same ?_ | refine GrdK.tf ?_ | refine GrdK.ft ?_ | refine PickK.t ?_ | refine PickK.f ?_); (conv => whnf))
    exact ⟨[], HSub.nil _, rfl, rfl⟩
  rw [decide_eq_false c6]
  refine Wp.cond rfl (fun h => by cases h) (fun _ => ?_)
  obtain ⟨s, rfl⟩ := Int.eq_ofNat_of_zero_le (show 0 ≤ s by omega)
  obtain ⟨o, rfl⟩ := Int.eq_ofNat_of_zero_le (show 0 ≤ o by omega)
  obtain ⟨m, rfl⟩ := Int.eq_ofNat_of_zero_le (show 0 ≤ m by omega)
  have hcp : cpOut (lastN s (joined ps)) bs o m = if o = 0 ∨ (lastN s (joined ps) ++ bs).length < o then (bs, false) else (bs ++ per (lastN s (joined ps) ++ bs) o m, true) := rfl
  have hcm := cmatch_spec A n c ps s B bs.length bc bs o m e (by omega) (by omega) hj hbl (by omega) (by omega)
  have hlast := lastN_len s (joined ps)
  (conv => whnf); repeat ((first | refine RngK.mk (by omega) (by omega) ?_ | refine NzK.mk (by omega) ?_ | refine NnK.mk (by omega) ?_ | refine BdK.mk (by omega) (by omega) (by omega) ?_ | refine InsK.lit (by omega) (by omega) ?_ | refine SpK.lit ?_ | refine GrdK.same ?_ | refine GrdK.tf ?_ | refine GrdK.ft ?_ | refine PickK.t ?_ | refine PickK.f ?_); (conv => whnf))
  refine CallK.of [] (copied_spec A n c ps s B bs.length bc bs o m (by omega) hj hbl (by omega) (by omega)) rfl (fun w hw => ⟨hp.pass hw, hB.pass hw⟩) ?_
  obtain ⟨⟨out, ok⟩, hout⟩ : ∃ x, cpOut (lastN s (joined ps)) bs o m = x := ⟨_, rfl⟩
  rw [hout] at hcm hcp ⊢
  dsimp only at hcm ⊢
  rintro _ _ (⟨rfl, A2, k, c2', rfl, rfl⟩ | ⟨rfl, A2, c2', hA2, rfl, rfl⟩)
  · (conv => whnf); repeat ((first | refine RngK.mk (by omega) (by omega) ?_ | refine NzK.mk (by omega) ?_ | refine NnK.mk (by omega) ?_ | refine BdK.mk (by omega) (by omega) (by omega) ?_ | refine InsK.lit (by omega) (by omega) ?_ | refine SpK.lit ?_ | refine GrdK.same ?_ | refine GrdK.tf ?_ | refine GrdK.ft ?_ | refine PickK.t ?_ | refine PickK.f ?_); (conv => whnf))
    refine CallK.of [] hcm rfl (fun w hw => ⟨hp.pass hw, hB.pass hw, hL.pass hw⟩) ?_
    rintro _ _ ⟨A3, c3', rfl, rfl⟩
    (conv => whnf); repeat ((first | refine RngK.mk (by omega) (by omega) ?_ | refine NzK.mk (by omega) ?_ | refine NnK.mk (by omega) ?_ | refine BdK.mk (by omega) (by omega) (by omega) ?_ | refine InsK.lit (by omega) (by omega) ?_ | refine SpK.lit ?_ | refine GrdK.same ?_ | refine GrdK.tf ?_ | refine GrdK.ft ?_ | refine PickK.t ?_ | refine PickK.f ?_); (conv => whnf))
    by_cases hm0 : m = 0
    · rw [show (((m : Nat) : Int) == 0) = true by rw [hm0]; rfl]
      (conv => whnf); repeat ((first | refine RngK.mk (by omega) (by omega) ?_ | refine NzK.mk (by omega) ?_ | refine NnK.mk (by omega) ?_ | refine BdK.mk (by omega) (by omega) (by omega) ?_ | refine InsK.lit (by omega) (by omega) ?_ | refine SpK.lit ?_ | refine GrdK.same ?_ | refine GrdK.tf ?_ | refine GrdK.ft ?_ | refine PickK.t ?_ | refine PickK.f ?_); (conv => whnf))
      exact ⟨[], HSub.nil _, rfl, rfl⟩
    · rw [show (((m : Nat) : Int) == 0) = false by simpa using hm0]
      (conv => whnf); repeat ((first | refine RngK.mk (by omega) (by omega) ?_ | refine NzK.mk (by omega) ?_ | refine NnK.mk (by omega) ?_ | refine BdK.mk (by omega) (by omega) (by omega) ?_ | refine InsK.lit (by omega) (by omega) ?_ | refine SpK.lit ?_ | refine GrdK.same ?_ | refine GrdK.tf ?_ | refine GrdK.ft ?_ | refine PickK.t ?_ | refine PickK.f ?_); (conv => whnf))
      refine ValK.eqBool rfl ?_
      (conv => whnf); repeat ((first | refine RngK.mk (by omega) (by omega) ?_ | refine NzK.mk (by omega) ?_ | refine NnK.mk (by omega) ?_ | refine BdK.mk (by omega) (by omega) (by omega) ?_ | refine InsK.lit (by omega) (by omega) ?_ | refine SpK.lit ?_ | refine GrdK.same ?_ | refine GrdK.tf ?_ | refine GrdK.ft ?_ | refine PickK.t ?_ | refine PickK.f ?_); (conv => whnf))
      exact ⟨[], HSub.nil _, rfl, rfl⟩
  · have hout2 : out = bs ++ per (lastN s (joined ps) ++ bs) o m := by
      split at hcp
      · cases hcp
      · injection hcp
    have hol : out.length = bs.length + m := by rw [hout2, List.length_append, per_len]
    have hA2c := hA2.1
    (conv => whnf); repeat ((first | refine RngK.mk (by omega) (by omega) ?_ | refine NzK.mk (by omega) ?_ | refine NnK.mk (by omega) ?_ | refine BdK.mk (by omega) (by omega) (by omega) ?_ | refine InsK.lit (by omega) (by omega) ?_ | refine SpK.lit ?_ | refine GrdK.same ?_ | refine GrdK.tf ?_ | refine GrdK.ft ?_ | refine PickK.t ?_ | refine PickK.f ?_); (conv => whnf))
    refine CallK.of [] hcm rfl (fun w hw => ⟨hp.pass hw, hB.pass hw, hL.pass hw⟩) ?_
    rintro _ _ ⟨A3, c3', rfl, rfl⟩
    have hwant : (((lastN s (joined ps) ++ bs ++ per (lastN s (joined ps) ++ bs) o m).map vU8).drop ((lastN s (joined ps)).length * 1)).take ((bs.length + m) * 1) = out.map vU8 := by
      rw [Nat.mul_one, Nat.mul_one, ← List.map_drop, ← List.map_take, List.append_assoc, List.drop_left' rfl, ← hout2, List.take_of_length_le (by omega)]
    (conv => whnf); repeat ((first | refine RngK.mk (by omega) (by omega) ?_ | refine NzK.mk (by omega) ?_ | refine NnK.mk (by omega) ?_ | refine BdK.mk (by omega) (by omega) (by omega) ?_ | refine InsK.lit (by omega) (by omega) ?_ | refine SpK.lit ?_ | refine GrdK.same ?_ | refine GrdK.tf ?_ | refine GrdK.ft ?_ | refine PickK.t ?_ | refine PickK.f ?_); (conv => whnf))
    by_cases hm0 : m = 0
    · rw [show (((m : Nat) : Int) == 0) = true by rw [hm0]; rfl]
      (conv => whnf); repeat ((first | refine RngK.mk (by omega) (by omega) ?_ | refine NzK.mk (by omega) ?_ | refine NnK.mk (by omega) ?_ | refine BdK.mk (by omega) (by omega) (by omega) ?_ | refine InsK.lit (by omega) (by omega) ?_ | refine SpK.lit ?_ | refine GrdK.same ?_ | refine GrdK.tf ?_ | refine GrdK.ft ?_ | refine PickK.t ?_ | refine PickK.f ?_); (conv => whnf))
      refine CallK.of [] (sameBytes_spec A3 (cutA A2 (lastN s (joined ps)).length c2' 1) out.length (bs.length + m) c3' (c2' - (lastN s (joined ps)).length) out out) rfl (fun w hw => ⟨Rd.ofOwn hw 0 rfl, ?_, by simp [maxLen]; omega⟩) ?_
      · have h := (Rd.ofOwn hw 1 rfl).cut (l := (lastN s (joined ps)).length) (q := bs.length + m) (c := c2') (by omega) hA2c
        rw [hwant] at h
        exact h
      rintro _ _ ⟨rfl, rfl⟩
      rw [decide_eq_true rfl]
      (conv => whnf); repeat ((first | refine RngK.mk (by omega) (by omega) ?_ | refine NzK.mk (by omega) ?_ | refine NnK.mk (by omega) ?_ | refine BdK.mk (by omega) (by omega) (by omega) ?_ | refine InsK.lit (by omega) (by omega) ?_ | refine SpK.lit ?_ | refine GrdK.same ?_ | refine GrdK.tf ?_ | refine GrdK.ft ?_ | refine PickK.t ?_ | refine PickK.f ?_); (conv => whnf))
      exact ⟨[], HSub.nil _, rfl, rfl⟩
    · rw [show (((m : Nat) : Int) == 0) = false by simpa using hm0]
      (conv => whnf); repeat ((first | refine RngK.mk (by omega) (by omega) ?_ | refine NzK.mk (by omega) ?_ | refine NnK.mk (by omega) ?_ | refine BdK.mk (by omega) (by omega) (by omega) ?_ | refine InsK.lit (by omega) (by omega) ?_ | refine SpK.lit ?_ | refine GrdK.same ?_ | refine GrdK.tf ?_ | refine GrdK.ft ?_ | refine PickK.t ?_ | refine PickK.f ?_); (conv => whnf))
      refine ValK.eqBool rfl ?_
      (conv => whnf); repeat ((first | refine RngK.mk (by omega) (by omega) ?_ | refine NzK.mk (by omega) ?_ | refine NnK.mk (by omega) ?_ | refine BdK.mk (by omega) (by omega) (by omega) ?_ | refine InsK.lit (by omega) (by omega) ?_ | refine SpK.lit ?_ | refine GrdK.same ?_ | refine GrdK.tf ?_ | refine GrdK.ft ?_ | refine PickK.t ?_ | refine PickK.f ?_); (conv => whnf))
      refine CallK.of [] (sameBytes_spec A3 (cutA A2 (lastN s (joined ps)).length c2' 1) out.length (bs.length + m) c3' (c2' - (lastN s (joined ps)).length) out out) rfl (fun w hw => ⟨Rd.ofOwn hw 0 rfl, ?_, by simp [maxLen]; omega⟩) ?_
      · have h := (Rd.ofOwn hw 1 rfl).cut (l := (lastN s (joined ps)).length) (q := bs.length + m) (c := c2') (by omega) hA2c
        rw [hwant] at h
        exact h
      rintro _ _ ⟨rfl, rfl⟩
      rw [decide_eq_true rfl]
      (conv => whnf); repeat ((first | refine RngK.mk (by omega) (by omega) ?_ | refine NzK.mk (by omega) ?_ | refine NnK.mk (by omega) ?_ | refine BdK.mk (by omega) (by omega) (by omega) ?_ | refine InsK.lit (by omega) (by omega) ?_ | refine SpK.lit ?_ | refine GrdK.same ?_ | refine GrdK.tf ?_ | refine GrdK.ft ?_ | refine PickK.t ?_ | refine PickK.f ?_); (conv => whnf))
      exact ⟨[], HSub.nil _, rfl, rfl⟩
end Go.Proofs.YtkdfminibmdkgaaDoor
