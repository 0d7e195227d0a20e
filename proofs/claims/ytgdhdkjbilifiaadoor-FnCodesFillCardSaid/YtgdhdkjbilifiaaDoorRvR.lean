/- Reading backward: the reference. -/
import Derived.Test.YtgdhdkjbilifiaaDoorRvA
import Derived.Test.YtgdhdkjbilifiaaDoorOwn
namespace Go.Proofs.YtgdhdkjbilifiaaDoor
open Go Go.Sx
set_option maxRecDepth 100000
abbrev OwnI (E : TypeId) (zs : List Int) (A : Option Addr) (cap : Nat) : Chunk := .own A zs.length cap E 1 (zs.map vI)
theorem own_snoc (E : TypeId) (acc : List Int) (z : Int) (A : Option Addr) (cap : Nat) : OwnI E (acc ++ [z]) A cap = .own A (acc.length + 1) cap E 1 (acc.map vI ++ [vI z]) := by
  simp [OwnI]
theorem vI_one {zs : List Int} : ∀ u ∈ zs.map vI, u.oneCell' = true := by
  intro u hu
  obtain ⟨z, _, rfl⟩ := List.mem_map.1 hu
  rfl
structure Ints (w : World) (W : Nat → Prop) (A : Option Addr) (n c : Nat) (zs : List Int) : Prop where
  rd : Rd w W A n 1 (zs.map vI)
  le : n ≤ c
  max : c ≤ maxLen
  lim : ∀ z ∈ zs, -9223372036854775808 ≤ z ∧ z ≤ 9223372036854775807
theorem Ints.len {w : World} {W : Nat → Prop} {A : Option Addr} {n c : Nat} {zs : List Int} (h : Ints w W A n c zs) : zs.length = n := by simpa using h.rd.len
theorem Ints.pass {w0 w : World} {W : Nat → Prop} {Hin Hr : Hp} (hw : HInv w0 W (Hin ++ Hr) w) {A : Option Addr} {n c : Nat} {zs : List Int} (h : Ints w0 W A n c zs) : Ints w (blocks Hin) A n c zs :=
  ⟨h.rd.pass hw, h.le, h.max, h.lim⟩
/-- sizes are read one behind the other, down from a place, as long as there are so many bits above the start -/
def rev (N st : Nat) : List Int → Nat → List Int → List Int × Bool × Nat
  | acc, p, [] => (acc, true, p)
  | acc, p, z :: r => if p < 8 * st + (z % 25).toNat then (acc, false, p) else rev N st (acc ++ [(bitsN N (p - (z % 25).toNat) (z % 25).toNat : Int)]) (p - (z % 25).toNat) r
theorem rev_len (N st : Nat) : ∀ (zs acc : List Int) (p : Nat), (rev N st acc p zs).1.length ≤ acc.length + zs.length
  | [], acc, p => by simp [rev]
  | z :: r, acc, p => by
    rw [rev]
    split
    · simp
    · have := rev_len N st r (acc ++ [(bitsN N (p - (z % 25).toNat) (z % 25).toNat : Int)]) (p - (z % 25).toNat)
      simp only [List.length_append, List.length_cons, List.length_nil] at this ⊢
      omega
theorem rread_spec (A B : Option Addr) (n c m c' o st : Nat) (bs : List UInt8) (zs : List Int) (hn : n ≤ 1000000) (ho : o < bs.length) (hs : st ≤ o) (hb : 0 < bs[o].toNat) (hm : m ≤ 1000000) :
    FnS Tryd.prog 52 [.slice A n c, vI o, vI st, .slice B m c'] [] (fun w => Bytes w (blocks []) A n c bs ∧ Ints w (blocks []) B m c' zs)
      (fun v H => ∃ A1 c1, v = .tuple #[.slice A1 (rev (num bs) st [] (8 * o + wd bs[o].toNat - 1) zs).1.length c1, .bool (rev (num bs) st [] (8 * o + wd bs[o].toNat - 1) zs).2.1, vI (rev (num bs) st [] (8 * o + wd bs[o].toNat - 1) zs).2.2] ∧
        H = [OwnI 3 (rev (num bs) st [] (8 * o + wd bs[o].toNat - 1) zs).1 A1 c1]) := by
  refine FnS.introD Tryd.func52 rfl (by kernel_rfl) rfl fun w hH ⟨hp, hz⟩ => ?_
  have hlz := hz.len
  obtain rfl : bs.length = n := hp.len
  have hw : wd bs[o].toNat ≤ 8 := wd_lt (by have := bs[o].toNat_lt; omega)
  have hw2 := wd_pos hb
  obtain ⟨P, hP⟩ : ∃ P, 8 * o + wd bs[o].toNat - 1 = P := ⟨_, rfl⟩
  have hPn : P < 8 * bs.length := by omega
  obtain ⟨F, hf⟩ : ∃ F, rev (num bs) st [] P zs = F := ⟨_, rfl⟩
  rw [hP, hf]
  (conv => whnf); repeat ((first | refine RngK.mk (by omega) (by omega) ?_ | refine NzK.mk (by omega) ?_ | refine NnK.mk (by omega) ?_ | refine BdK.mk (by omega) (by omega) (by omega) ?_ | refine InsK.lit (by omega) (by omega) ?_ | refine SpK.lit ?_ | refine GrdK.same ?_ | refine GrdK.tf ?_ | refine GrdK.ft ?_ | refine PickK.t ?_ | refine PickK.f ?_); (conv => whnf))
  refine EffK.litV rfl rfl rfl rfl rfl rfl rfl rfl rfl ?_
  (conv => whnf); repeat ((first | refine RngK.mk (by omega) (by omega) ?_ | refine NzK.mk (by omega) ?_ | refine NnK.mk (by omega) ?_ | refine BdK.mk (by omega) (by omega) (by omega) ?_ | refine InsK.lit (by omega) (by omega) ?_ | refine SpK.lit ?_ | refine GrdK.same ?_ | refine GrdK.tf ?_ | refine GrdK.ft ?_ | refine PickK.t ?_ | refine PickK.f ?_); (conv => whnf))
  intro b
  (conv => whnf); repeat ((first | refine RngK.mk (by omega) (by omega) ?_ | refine NzK.mk (by omega) ?_ | refine NnK.mk (by omega) ?_ | refine BdK.mk (by omega) (by omega) (by omega) ?_ | refine InsK.lit (by omega) (by omega) ?_ | refine SpK.lit ?_ | refine GrdK.same ?_ | refine GrdK.tf ?_ | refine GrdK.ft ?_ | refine PickK.t ?_ | refine PickK.f ?_); (conv => whnf))
  refine CallK.of [] (topOf_spec A bs.length c o bs ho (by omega)) rfl (fun w hw => hp.pass hw) ?_
  rintro _ _ ⟨rfl, rfl⟩
  rw [if_neg (by omega), hP]
  clear hP hw hw2
  (conv => whnf); repeat ((first | refine RngK.mk (by omega) (by omega) ?_ | refine NzK.mk (by omega) ?_ | refine NnK.mk (by omega) ?_ | refine BdK.mk (by omega) (by omega) (by omega) ?_ | refine InsK.lit (by omega) (by omega) ?_ | refine SpK.lit ?_ | refine GrdK.same ?_ | refine GrdK.tf ?_ | refine GrdK.ft ?_ | refine PickK.t ?_ | refine PickK.f ?_); (conv => whnf))
  refine Wp.loop (fun s : Nat × List Int × Option Addr × Nat × Nat => [(0, .slice A bs.length c), (2, vI st), (20, .slice B m c'), (21, vI m), (22, vI s.1), (11, .slice s.2.2.1 s.2.1.length s.2.2.2.1), (12, vI s.2.2.2.2)])
    (fun s => [OwnI 3 s.2.1 s.2.2.1 s.2.2.2.1]) (fun s => s.1 ≤ m ∧ s.2.1.length = s.1 ∧ s.2.2.2.2 ≤ 8 * bs.length ∧ rev (num bs) st s.2.1 s.2.2.2.2 (zs.drop s.1) = F) (fun s => m - s.1) (0, [], some ⟨b, 0, none⟩, 0, P)
    ⟨rfl, rfl, rfl, rfl, rfl, rfl, rfl, trivial⟩ (HSub.refl _) ⟨Nat.zero_le _, rfl, by simp only; omega, hf⟩ fun ⟨k, acc, A1, c1, p⟩ ⟨hk, hla, hpn, hF⟩ => ?_
  dsimp only at hk hla hpn hF ⊢
  (conv => whnf); repeat ((first | refine RngK.mk (by omega) (by omega) ?_ | refine NzK.mk (by omega) ?_ | refine NnK.mk (by omega) ?_ | refine BdK.mk (by omega) (by omega) (by omega) ?_ | refine InsK.lit (by omega) (by omega) ?_ | refine SpK.lit ?_ | refine GrdK.same ?_ | refine GrdK.tf ?_ | refine GrdK.ft ?_ | refine PickK.t ?_ | refine PickK.f ?_); (conv => whnf))
  refine Wp.cond rfl (fun h => ?_) (fun h => ?_)
  · have h := dT h
    have hk' : k < zs.length := by omega
    have hzl := hz.lim _ (List.getElem_mem hk')
    rw [drop_at hk', rev] at hF
    (conv => whnf); repeat ((first | refine RngK.mk (by omega) (by omega) ?_ | refine NzK.mk (by omega) ?_ | refine NnK.mk (by omega) ?_ | refine BdK.mk (by omega) (by omega) (by omega) ?_ | refine InsK.lit (by omega) (by omega) ?_ | refine SpK.lit ?_ | refine GrdK.same ?_ | refine GrdK.tf ?_ | refine GrdK.ft ?_ | refine PickK.t ?_ | refine PickK.f ?_); (conv => whnf))
    refine InsK.rd hz.rd (by omega) (by omega) ?_
    (conv => whnf); repeat ((first | refine RngK.mk (by omega) (by omega) ?_ | refine NzK.mk (by omega) ?_ | refine NnK.mk (by omega) ?_ | refine BdK.mk (by omega) (by omega) (by omega) ?_ | refine InsK.lit (by omega) (by omega) ?_ | refine SpK.lit ?_ | refine GrdK.same ?_ | refine GrdK.tf ?_ | refine GrdK.ft ?_ | refine PickK.t ?_ | refine PickK.f ?_); (conv => whnf))
    refine LdK.rd (v := vI zs[k]) hz.rd k rfl rfl rfl (by simp [hk']) ?_
    (conv => whnf); repeat ((first | refine RngK.mk (by omega) (by omega) ?_ | refine NzK.mk (by omega) ?_ | refine NnK.mk (by omega) ?_ | refine BdK.mk (by omega) (by omega) (by omega) ?_ | refine InsK.lit (by omega) (by omega) ?_ | refine SpK.lit ?_ | refine GrdK.same ?_ | refine GrdK.tf ?_ | refine GrdK.ft ?_ | refine PickK.t ?_ | refine PickK.f ?_); (conv => whnf))
    have h17 := Int.emod_nonneg zs[k] (show (25 : Int) ≠ 0 by omega)
    have h17' := Int.emod_lt_of_pos zs[k] (show (0 : Int) < 25 by omega)
    obtain ⟨q, hq⟩ := Int.eq_ofNat_of_zero_le h17
    rw [hq] at hF
    have hqt : ((q : Nat) : Int).toNat = q := by omega
    rw [hqt] at hF
    refine CallK.of0 (mod_spec zs[k] 25 (by omega) (by omega)) ?_
    rintro _ _ ⟨rfl, rfl⟩
    rw [hq]
    (conv => whnf); repeat ((first | refine RngK.mk (by omega) (by omega) ?_ | refine NzK.mk (by omega) ?_ | refine NnK.mk (by omega) ?_ | refine BdK.mk (by omega) (by omega) (by omega) ?_ | refine InsK.lit (by omega) (by omega) ?_ | refine SpK.lit ?_ | refine GrdK.same ?_ | refine GrdK.tf ?_ | refine GrdK.ft ?_ | refine PickK.t ?_ | refine PickK.f ?_); (conv => whnf))
    refine Wp.cond rfl (fun h2 => ?_) (fun h2 => ?_)
    · have h2 := dT h2
      (conv => whnf); repeat ((first | refine RngK.mk (by omega) (by omega) ?_ | refine NzK.mk (by omega) ?_ | refine NnK.mk (by omega) ?_ | refine BdK.mk (by omega) (by omega) (by omega) ?_ | refine InsK.lit (by omega) (by omega) ?_ | refine SpK.lit ?_ | refine GrdK.same ?_ | refine GrdK.tf ?_ | refine GrdK.ft ?_ | refine PickK.t ?_ | refine PickK.f ?_); (conv => whnf))
      rw [if_pos (by omega)] at hF
      subst hF
      exact ⟨_, HSub.refl _, A1, c1, rfl, rfl⟩
    · have h2 := dF h2
      rw [if_neg (by omega)] at hF
      (conv => whnf); repeat ((first | refine RngK.mk (by omega) (by omega) ?_ | refine NzK.mk (by omega) ?_ | refine NnK.mk (by omega) ?_ | refine BdK.mk (by omega) (by omega) (by omega) ?_ | refine InsK.lit (by omega) (by omega) ?_ | refine SpK.lit ?_ | refine GrdK.same ?_ | refine GrdK.tf ?_ | refine GrdK.ft ?_ | refine PickK.t ?_ | refine PickK.f ?_); (conv => whnf))
      have ep : (p : Int) - (q : Int) = ((p - q : Nat) : Int) := by omega
      rw [ep]
      refine CallK.of [] (bitsAt_spec A bs.length c bs (p - q) q (by omega) (by omega)) rfl (fun w hw => ⟨hp.pass hw, by omega⟩) ?_
      rintro _ _ ⟨rfl, rfl⟩
      (conv => whnf); repeat ((first | refine RngK.mk (by omega) (by omega) ?_ | refine NzK.mk (by omega) ?_ | refine NnK.mk (by omega) ?_ | refine BdK.mk (by omega) (by omega) (by omega) ?_ | refine InsK.lit (by omega) (by omega) ?_ | refine SpK.lit ?_ | refine GrdK.same ?_ | refine GrdK.tf ?_ | refine GrdK.ft ?_ | refine PickK.t ?_ | refine PickK.f ?_); (conv => whnf))
      refine EffK.litV rfl rfl rfl rfl rfl rfl rfl rfl rfl ?_
      (conv => whnf); repeat ((first | refine RngK.mk (by omega) (by omega) ?_ | refine NzK.mk (by omega) ?_ | refine NnK.mk (by omega) ?_ | refine BdK.mk (by omega) (by omega) (by omega) ?_ | refine InsK.lit (by omega) (by omega) ?_ | refine SpK.lit ?_ | refine GrdK.same ?_ | refine GrdK.tf ?_ | refine GrdK.ft ?_ | refine PickK.t ?_ | refine PickK.f ?_); (conv => whnf))
      intro b2
      (conv => whnf); repeat ((first | refine RngK.mk (by omega) (by omega) ?_ | refine NzK.mk (by omega) ?_ | refine NnK.mk (by omega) ?_ | refine BdK.mk (by omega) (by omega) (by omega) ?_ | refine InsK.lit (by omega) (by omega) ?_ | refine SpK.lit ?_ | refine GrdK.same ?_ | refine GrdK.tf ?_ | refine GrdK.ft ?_ | refine PickK.t ?_ | refine PickK.f ?_); (conv => whnf))
      refine EffK.append 1 (news := [vI (bitsN (num bs) (p - q) q : Nat)]) rfl rfl rfl rfl rfl rfl rfl rfl (Src.ownW (k := 0) rfl rfl) (by intro u hu; obtain rfl := List.mem_singleton.1 hu; rfl) (by simp [maxLen]; omega) (by show (_ + _) * 8 ≤ _; omega) fun A' cap' => ?_
      (conv => whnf); repeat ((first | refine RngK.mk (by omega) (by omega) ?_ | refine NzK.mk (by omega) ?_ | refine NnK.mk (by omega) ?_ | refine BdK.mk (by omega) (by omega) (by omega) ?_ | refine InsK.lit (by omega) (by omega) ?_ | refine SpK.lit ?_ | refine GrdK.same ?_ | refine GrdK.tf ?_ | refine GrdK.ft ?_ | refine PickK.t ?_ | refine PickK.f ?_); (conv => whnf))
      refine ⟨(k + 1, acc ++ [(bitsN (num bs) (p - q) q : Int)], A', cap', p - q), ⟨rfl, rfl, rfl, rfl, rfl, ?_, rfl, trivial⟩, ?_, ⟨by simp only; omega, by simp only [List.length_append, List.length_singleton]; omega, by simp only; omega, hF⟩, by simp only; omega⟩
      · show some _ = some _
        simp
      · dsimp only
        rw [own_snoc]
        exact HSub.of [1] rfl
  · have h := dF h
    rw [List.drop_of_length_le (by omega), rev] at hF
    subst hF
    (conv => whnf); repeat ((first | refine RngK.mk (by omega) (by omega) ?_ | refine NzK.mk (by omega) ?_ | refine NnK.mk (by omega) ?_ | refine BdK.mk (by omega) (by omega) (by omega) ?_ | refine InsK.lit (by omega) (by omega) ?_ | refine SpK.lit ?_ | refine GrdK.same ?_ | refine GrdK.tf ?_ | refine GrdK.ft ?_ | refine PickK.t ?_ | refine PickK.f ?_); (conv => whnf))
    exact ⟨_, HSub.refl _, A1, c1, rfl, rfl⟩
end Go.Proofs.YtgdhdkjbilifiaaDoor
