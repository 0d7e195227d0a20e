/- Asking ahead, then reading backward: the model, the reference, the function. -/
import Derived.Test.YtagcmlbpppmbfaaDoorBj
namespace Go.Proofs.YtagcmlbpppmbfaaDoor
open Go Go.Sx
set_option maxRecDepth 100000
theorem ValK.neBool {P : Program} {t : TypeId} {x y : Operand} {a b : Bool} {K : Value → Prop} (ht : P.underlying t = some .bool) (h : K (.bool (!(a == b)))) : ValK P (do eqGuard .neq t x y (.bool a) (.bool b); binOp .neq t (.bool a) (.bool b)) K :=
  ⟨⟨.bool (!(a == b)), fun w => by simp [eqGuard, run_neq_bool w t a b ht], h⟩⟩
/-- sizes for which there are not so many bits above the start are left out -/
def fet (N st : Nat) : List Int → List Bool → Nat → List Int → List Int × List Bool × Nat
  | acc, th, p, [] => (acc, th, p)
  | acc, th, p, z :: r => if p < 8 * st + (z % 25).toNat then fet N st acc (th ++ [false]) p r else fet N st (acc ++ [(bitsN N (p - (z % 25).toNat) (z % 25).toNat : Int)]) (th ++ [true]) (p - (z % 25).toNat) r
theorem fet_len (N st : Nat) : ∀ (zs acc : List Int) (th : List Bool) (p : Nat), (fet N st acc th p zs).1.length ≤ acc.length + zs.length ∧ (fet N st acc th p zs).2.1.length = th.length + zs.length
  | [], acc, th, p => by simp [fet]
  | z :: r, acc, th, p => by
    rw [fet]
    split
    · have := fet_len N st r acc (th ++ [false]) p
      simp only [List.length_append, List.length_cons, List.length_nil] at this ⊢
      omega
    · have := fet_len N st r (acc ++ [(bitsN N (p - (z % 25).toNat) (z % 25).toNat : Int)]) (th ++ [true]) (p - (z % 25).toNat)
      simp only [List.length_append, List.length_cons, List.length_nil] at this ⊢
      omega
abbrev OwnB (E : TypeId) (th : List Bool) (A : Option Addr) (cap : Nat) : Chunk := .own A th.length cap E 1 (th.map vB)
theorem ownB_snoc (E : TypeId) (acc : List Bool) (z : Bool) (A : Option Addr) (cap : Nat) : OwnB E (acc ++ [z]) A cap = .own A (acc.length + 1) cap E 1 (acc.map vB ++ [vB z]) := by
  simp [OwnB]
theorem fetread_spec (A B : Option Addr) (n c m c' o st : Nat) (bs : List UInt8) (zs : List Int) (hn : n ≤ 1000000) (ho : o < bs.length) (hs : st ≤ o) (hb : 0 < bs[o].toNat) (hm : m ≤ 1000000) :
    FnS Tryd.prog 18 [.slice A n c, vI o, vI st, .slice B m c'] [] (fun w => Bytes w (blocks []) A n c bs ∧ Ints w (blocks []) B m c' zs)
      (fun v H => ∃ A1 c1 A2 c2, v = .tuple #[.slice A1 (fet (num bs) st [] [] (8 * o + wd bs[o].toNat - 1) zs).1.length c1, .slice A2 (fet (num bs) st [] [] (8 * o + wd bs[o].toNat - 1) zs).2.1.length c2, vI (fet (num bs) st [] [] (8 * o + wd bs[o].toNat - 1) zs).2.2] ∧
        H = [OwnI 3 (fet (num bs) st [] [] (8 * o + wd bs[o].toNat - 1) zs).1 A1 c1, OwnB 4 (fet (num bs) st [] [] (8 * o + wd bs[o].toNat - 1) zs).2.1 A2 c2]) := by
  refine FnS.introD Tryd.func18 rfl (by kernel_rfl) rfl fun w hH ⟨hp, hz⟩ => ?_
  have hlz := hz.len
  obtain rfl : bs.length = n := hp.len
  have hw : wd bs[o].toNat ≤ 8 := wd_lt (by have := bs[o].toNat_lt; omega)
  have hw2 := wd_pos hb
  obtain ⟨P, hP⟩ : ∃ P, 8 * o + wd bs[o].toNat - 1 = P := ⟨_, rfl⟩
  have hPn : P < 8 * bs.length := by omega
  have hPs : 8 * st ≤ P := by omega
  obtain ⟨F, hf⟩ : ∃ F, fet (num bs) st [] [] P zs = F := ⟨_, rfl⟩
  rw [hP, hf]
  (conv => whnf); repeat ((first | refine RngK.mk (by omega) (by omega) ?_ | refine NzK.mk (by omega) ?_ | refine NnK.mk (by omega) ?_ | refine BdK.mk (by omega) (by omega) (by omega) ?_ | refine InsK.lit (by omega) (by omega) ?_ | refine SpK.lit ?_ | refine GrdK.same ?_ | refine GrdK.tf ?_ | refine GrdK.ft ?_ | refine PickK.t ?_ | refine PickK.f ?_); (conv => whnf))
  refine EffK.litV rfl rfl rfl rfl rfl rfl rfl rfl rfl ?_
  (conv => whnf); repeat ((first | refine RngK.mk (by omega) (by omega) ?_ | refine NzK.mk (by omega) ?_ | refine NnK.mk (by omega) ?_ | refine BdK.mk (by omega) (by omega) (by omega) ?_ | refine InsK.lit (by omega) (by omega) ?_ | refine SpK.lit ?_ | refine GrdK.same ?_ | refine GrdK.tf ?_ | refine GrdK.ft ?_ | refine PickK.t ?_ | refine PickK.f ?_); (conv => whnf))
  intro b
  (conv => whnf); repeat ((first | refine RngK.mk (by omega) (by omega) ?_ | refine NzK.mk (by omega) ?_ | refine NnK.mk (by omega) ?_ | refine BdK.mk (by omega) (by omega) (by omega) ?_ | refine InsK.lit (by omega) (by omega) ?_ | refine SpK.lit ?_ | refine GrdK.same ?_ | refine GrdK.tf ?_ | refine GrdK.ft ?_ | refine PickK.t ?_ | refine PickK.f ?_); (conv => whnf))
  refine EffK.litV rfl rfl rfl rfl rfl rfl rfl rfl rfl ?_
  (conv => whnf); repeat ((first | refine RngK.mk (by omega) (by omega) ?_ | refine NzK.mk (by omega) ?_ | refine NnK.mk (by omega) ?_ | refine BdK.mk (by omega) (by omega) (by omega) ?_ | refine InsK.lit (by omega) (by omega) ?_ | refine SpK.lit ?_ | refine GrdK.same ?_ | refine GrdK.tf ?_ | refine GrdK.ft ?_ | refine PickK.t ?_ | refine PickK.f ?_); (conv => whnf))
  intro b'
  (conv => whnf); repeat ((first | refine RngK.mk (by omega) (by omega) ?_ | refine NzK.mk (by omega) ?_ | refine NnK.mk (by omega) ?_ | refine BdK.mk (by omega) (by omega) (by omega) ?_ | refine InsK.lit (by omega) (by omega) ?_ | refine SpK.lit ?_ | refine GrdK.same ?_ | refine GrdK.tf ?_ | refine GrdK.ft ?_ | refine PickK.t ?_ | refine PickK.f ?_); (conv => whnf))
  refine CallK.of [] (topOf_spec A bs.length c o bs ho (by omega)) rfl (fun w hw => hp.pass hw) ?_
  rintro _ _ ⟨rfl, rfl⟩
  rw [if_neg (by omega), hP]
  clear hP hw hw2
  (conv => whnf); repeat ((first | refine RngK.mk (by omega) (by omega) ?_ | refine NzK.mk (by omega) ?_ | refine NnK.mk (by omega) ?_ | refine BdK.mk (by omega) (by omega) (by omega) ?_ | refine InsK.lit (by omega) (by omega) ?_ | refine SpK.lit ?_ | refine GrdK.same ?_ | refine GrdK.tf ?_ | refine GrdK.ft ?_ | refine PickK.t ?_ | refine PickK.f ?_); (conv => whnf))
  refine Wp.loop (fun s : Nat × List Int × Option Addr × Nat × Nat × List Bool × Option Addr × Nat => [(0, .slice A bs.length c), (2, vI st), (23, .slice B m c'), (24, vI m), (25, vI s.1), (11, .slice s.2.2.1 s.2.1.length s.2.2.2.1), (13, vI s.2.2.2.2.1), (12, .slice s.2.2.2.2.2.2.1 s.2.2.2.2.2.1.length s.2.2.2.2.2.2.2)])
    (fun s => [OwnI 3 s.2.1 s.2.2.1 s.2.2.2.1, OwnB 4 s.2.2.2.2.2.1 s.2.2.2.2.2.2.1 s.2.2.2.2.2.2.2]) (fun s => s.1 ≤ m ∧ s.2.1.length ≤ s.1 ∧ s.2.2.2.2.2.1.length = s.1 ∧ s.2.2.2.2.1 ≤ 8 * bs.length ∧ 8 * st ≤ s.2.2.2.2.1 ∧ fet (num bs) st s.2.1 s.2.2.2.2.2.1 s.2.2.2.2.1 (zs.drop s.1) = F) (fun s => m - s.1) (0, [], some ⟨b, 0, none⟩, 0, P, [], some ⟨b', 0, none⟩, 0)
    ⟨rfl, rfl, rfl, rfl, rfl, rfl, rfl, rfl, trivial⟩ (HSub.of [1, 0] rfl) ⟨Nat.zero_le _, Nat.zero_le _, rfl, by simp only; omega, by simp only; omega, hf⟩ fun ⟨k, acc, A1, c1, p, th, A2, c2⟩ ⟨hk, hla, hlb, hpn, hps, hF⟩ => ?_
  dsimp only at hk hla hlb hpn hps hF ⊢
  (conv => whnf); repeat ((first | refine RngK.mk (by omega) (by omega) ?_ | refine NzK.mk (by omega) ?_ | refine NnK.mk (by omega) ?_ | refine BdK.mk (by omega) (by omega) (by omega) ?_ | refine InsK.lit (by omega) (by omega) ?_ | refine SpK.lit ?_ | refine GrdK.same ?_ | refine GrdK.tf ?_ | refine GrdK.ft ?_ | refine PickK.t ?_ | refine PickK.f ?_); (conv => whnf))
  refine Wp.cond rfl (fun h => ?_) (fun h => ?_)
  · have h := dT h
    have hk' : k < zs.length := by omega
    have hzl := hz.lim _ (List.getElem_mem hk')
    rw [drop_at hk', fet] at hF
    (conv => whnf); repeat ((first | refine RngK.mk (by omega) (by omega) ?_ | refine NzK.mk (by omega) ?_ | refine NnK.mk (by omega) ?_ | refine BdK.mk (by omega) (by omega) (by omega) ?_ | refine InsK.lit (by omega) (by omega) ?_ | refine SpK.lit ?_ | refine GrdK.same ?_ | refine GrdK.tf ?_ | refine GrdK.ft ?_ | refine PickK.t ?_ | refine PickK.f ?_); (conv => whnf))
    refine InsK.rd hz.rd (by omega) (by omega) ?_
    (conv => whnf); repeat ((first | refine RngK.mk (by omega) (by omega) ?_ | refine NzK.mk (by omega) ?_ | refine NnK.mk (by omega) ?_ | refine BdK.mk (by omega) (by omega) (by omega) ?_ | refine InsK.lit (by omega) (by omega) ?_ | refine SpK.lit ?_ | refine GrdK.same ?_ | refine GrdK.tf ?_ | refine GrdK.ft ?_ | refine PickK.t ?_ | refine PickK.f ?_); (conv => whnf))
    refine LdK.rd (v := vI zs[k]) hz.rd k rfl rfl rfl (by simp [hk']) ?_
    (conv => whnf); repeat ((first | refine RngK.mk (by omega) (by omega) ?_ | refine NzK.mk (by omega) ?_ | refine NnK.mk (by omega) ?_ | refine BdK.mk (by omega) (by omega) (by omega) ?_ | refine InsK.lit (by omega) (by omega) ?_ | refine SpK.lit ?_ | refine GrdK.same ?_ | refine GrdK.tf ?_ | refine GrdK.ft ?_ | refine PickK.t ?_ | refine PickK.f ?_); (conv => whnf))
    have h17 := Int.emod_nonneg zs[k] (show (25 : Int) ≠ 0 by omega)
    have h17' := Int.emod_lt_of_pos zs[k] (show (0 : Int) < 25 by omega)
    obtain ⟨q, hq⟩ := Int.eq_ofNat_of_zero_le h17
    rw [hq] at hF
    have hqt : ((q : Nat) : Int).toNat = q := by omega
    rw [hqt] at hF
    refine CallK.of0 (mod_spec zs[k] 25 (by omega) (by omega)) ?_
    rintro _ _ ⟨rfl, rfl⟩
    rw [hq]
    (conv => whnf); repeat ((first | refine RngK.mk (by omega) (by omega) ?_ | refine NzK.mk (by omega) ?_ | refine NnK.mk (by omega) ?_ | refine BdK.mk (by omega) (by omega) (by omega) ?_ | refine InsK.lit (by omega) (by omega) ?_ | refine SpK.lit ?_ | refine GrdK.same ?_ | refine GrdK.tf ?_ | refine GrdK.ft ?_ | refine PickK.t ?_ | refine PickK.f ?_); (conv => whnf))
    refine EffK.litV rfl rfl rfl rfl rfl rfl rfl rfl rfl ?_
    (conv => whnf); repeat ((first | refine RngK.mk (by omega) (by omega) ?_ | refine NzK.mk (by omega) ?_ | refine NnK.mk (by omega) ?_ | refine BdK.mk (by omega) (by omega) (by omega) ?_ | refine InsK.lit (by omega) (by omega) ?_ | refine SpK.lit ?_ | refine GrdK.same ?_ | refine GrdK.tf ?_ | refine GrdK.ft ?_ | refine PickK.t ?_ | refine PickK.f ?_); (conv => whnf))
    intro b3
    (conv => whnf); repeat ((first | refine RngK.mk (by omega) (by omega) ?_ | refine NzK.mk (by omega) ?_ | refine NnK.mk (by omega) ?_ | refine BdK.mk (by omega) (by omega) (by omega) ?_ | refine InsK.lit (by omega) (by omega) ?_ | refine SpK.lit ?_ | refine GrdK.same ?_ | refine GrdK.tf ?_ | refine GrdK.ft ?_ | refine PickK.t ?_ | refine PickK.f ?_); (conv => whnf))
    by_cases hc : p < 8 * st + q
    · rw [if_pos hc] at hF
      rw [decide_eq_false (show ¬ ((p : Int) - (q : Int)) ≥ 8 * (st : Int) by omega)]
      refine EffK.append 2 (news := [vB false]) rfl rfl rfl rfl rfl rfl rfl rfl (Src.ownW (k := 0) rfl rfl) (by intro u hu; obtain rfl := List.mem_singleton.1 hu; rfl) (by simp [maxLen]; omega) (by show (_ + _) * 1 ≤ _; omega) fun A' cap' => ?_
      (conv => whnf); repeat ((first | refine RngK.mk (by omega) (by omega) ?_ | refine NzK.mk (by omega) ?_ | refine NnK.mk (by omega) ?_ | refine BdK.mk (by omega) (by omega) (by omega) ?_ | refine InsK.lit (by omega) (by omega) ?_ | refine SpK.lit ?_ | refine GrdK.same ?_ | refine GrdK.tf ?_ | refine GrdK.ft ?_ | refine PickK.t ?_ | refine PickK.f ?_); (conv => whnf))
      refine Wp.cond rfl (fun h => by cases h) (fun _ => ?_)
      (conv => whnf); repeat ((first | refine RngK.mk (by omega) (by omega) ?_ | refine NzK.mk (by omega) ?_ | refine NnK.mk (by omega) ?_ | refine BdK.mk (by omega) (by omega) (by omega) ?_ | refine InsK.lit (by omega) (by omega) ?_ | refine SpK.lit ?_ | refine GrdK.same ?_ | refine GrdK.tf ?_ | refine GrdK.ft ?_ | refine PickK.t ?_ | refine PickK.f ?_); (conv => whnf))
      refine ⟨(k + 1, acc, A1, c1, p, th ++ [false], A', cap'), ⟨rfl, rfl, rfl, rfl, rfl, rfl, rfl, ?_, trivial⟩, ?_, ⟨by simp only; omega, by simp only; omega, by simp only [List.length_append, List.length_singleton]; omega, by simp only; omega, by simp only; omega, hF⟩, by simp only; omega⟩
      · show some _ = some _
        simp
      · dsimp only
        rw [ownB_snoc]
        exact HSub.of [1, 1] rfl
    · rw [if_neg hc] at hF
      rw [decide_eq_true (show ((p : Int) - (q : Int)) ≥ 8 * (st : Int) by omega)]
      refine EffK.append 2 (news := [vB true]) rfl rfl rfl rfl rfl rfl rfl rfl (Src.ownW (k := 0) rfl rfl) (by intro u hu; obtain rfl := List.mem_singleton.1 hu; rfl) (by simp [maxLen]; omega) (by show (_ + _) * 1 ≤ _; omega) fun A' cap' => ?_
      (conv => whnf); repeat ((first | refine RngK.mk (by omega) (by omega) ?_ | refine NzK.mk (by omega) ?_ | refine NnK.mk (by omega) ?_ | refine BdK.mk (by omega) (by omega) (by omega) ?_ | refine InsK.lit (by omega) (by omega) ?_ | refine SpK.lit ?_ | refine GrdK.same ?_ | refine GrdK.tf ?_ | refine GrdK.ft ?_ | refine PickK.t ?_ | refine PickK.f ?_); (conv => whnf))
      refine Wp.cond rfl (fun _ => ?_) (fun h => by cases h)
      (conv => whnf); repeat ((first | refine RngK.mk (by omega) (by omega) ?_ | refine NzK.mk (by omega) ?_ | refine NnK.mk (by omega) ?_ | refine BdK.mk (by omega) (by omega) (by omega) ?_ | refine InsK.lit (by omega) (by omega) ?_ | refine SpK.lit ?_ | refine GrdK.same ?_ | refine GrdK.tf ?_ | refine GrdK.ft ?_ | refine PickK.t ?_ | refine PickK.f ?_); (conv => whnf))
      have ep : (p : Int) - (q : Int) = ((p - q : Nat) : Int) := by omega
      rw [ep]
      refine CallK.of [] (bitsAt_spec A bs.length c bs (p - q) q (by omega) (by omega)) rfl (fun w hw => ⟨hp.pass hw, by omega⟩) ?_
      rintro _ _ ⟨rfl, rfl⟩
      (conv => whnf); repeat ((first | refine RngK.mk (by omega) (by omega) ?_ | refine NzK.mk (by omega) ?_ | refine NnK.mk (by omega) ?_ | refine BdK.mk (by omega) (by omega) (by omega) ?_ | refine InsK.lit (by omega) (by omega) ?_ | refine SpK.lit ?_ | refine GrdK.same ?_ | refine GrdK.tf ?_ | refine GrdK.ft ?_ | refine PickK.t ?_ | refine PickK.f ?_); (conv => whnf))
      refine EffK.litV rfl rfl rfl rfl rfl rfl rfl rfl rfl ?_
      (conv => whnf); repeat ((first | refine RngK.mk (by omega) (by omega) ?_ | refine NzK.mk (by omega) ?_ | refine NnK.mk (by omega) ?_ | refine BdK.mk (by omega) (by omega) (by omega) ?_ | refine InsK.lit (by omega) (by omega) ?_ | refine SpK.lit ?_ | refine GrdK.same ?_ | refine GrdK.tf ?_ | refine GrdK.ft ?_ | refine PickK.t ?_ | refine PickK.f ?_); (conv => whnf))
      intro b2
      (conv => whnf); repeat ((first | refine RngK.mk (by omega) (by omega) ?_ | refine NzK.mk (by omega) ?_ | refine NnK.mk (by omega) ?_ | refine BdK.mk (by omega) (by omega) (by omega) ?_ | refine InsK.lit (by omega) (by omega) ?_ | refine SpK.lit ?_ | refine GrdK.same ?_ | refine GrdK.tf ?_ | refine GrdK.ft ?_ | refine PickK.t ?_ | refine PickK.f ?_); (conv => whnf))
      refine EffK.append 2 (news := [vI (bitsN (num bs) (p - q) q : Nat)]) rfl rfl rfl rfl rfl rfl rfl rfl (Src.ownW (k := 0) rfl rfl) (by intro u hu; obtain rfl := List.mem_singleton.1 hu; rfl) (by simp [maxLen]; omega) (by show (_ + _) * 8 ≤ _; omega) fun A'' cap'' => ?_
      (conv => whnf); repeat ((first | refine RngK.mk (by omega) (by omega) ?_ | refine NzK.mk (by omega) ?_ | refine NnK.mk (by omega) ?_ | refine BdK.mk (by omega) (by omega) (by omega) ?_ | refine InsK.lit (by omega) (by omega) ?_ | refine SpK.lit ?_ | refine GrdK.same ?_ | refine GrdK.tf ?_ | refine GrdK.ft ?_ | refine PickK.t ?_ | refine PickK.f ?_); (conv => whnf))
      refine ⟨(k + 1, acc ++ [(bitsN (num bs) (p - q) q : Int)], A'', cap'', p - q, th ++ [true], A', cap'), ⟨rfl, rfl, rfl, rfl, rfl, ?_, rfl, ?_, trivial⟩, ?_, ⟨by simp only; omega, by simp only [List.length_append, List.length_singleton]; omega, by simp only [List.length_append, List.length_singleton]; omega, by simp only; omega, by simp only; omega, hF⟩, by simp only; omega⟩
      · show some _ = some _
        simp
      · show some _ = some _
        simp
      · dsimp only
        rw [own_snoc, ownB_snoc]
        exact HSub.of [2, 2] rfl
  · have h := dF h
    rw [List.drop_of_length_le (by omega), fet] at hF
    subst hF
    (conv => whnf); repeat ((first | refine RngK.mk (by omega) (by omega) ?_ | refine NzK.mk (by omega) ?_ | refine NnK.mk (by omega) ?_ | refine BdK.mk (by omega) (by omega) (by omega) ?_ | refine InsK.lit (by omega) (by omega) ?_ | refine SpK.lit ?_ | refine GrdK.same ?_ | refine GrdK.tf ?_ | refine GrdK.ft ?_ | refine PickK.t ?_ | refine PickK.f ?_); (conv => whnf))
    exact ⟨_, HSub.refl _, A1, c1, A2, c2, rfl, rfl⟩
end Go.Proofs.YtagcmlbpppmbfaaDoor
