/- impl.Reverse, and the law FnReverse. -/
import Derived.Test.YtagcmlbpppmbfaaDoorBi
import Derived.Test.YtagcmlbpppmbfaaDoorBe
namespace Go.Proofs.YtagcmlbpppmbfaaDoor
open Go Go.Sx
set_option maxRecDepth 100000
theorem rd6 {w0 w : World} {W : Nat → Prop} {Hin Hr : Hp} (hv : HInv w0 W (Hin ++ Hr) w) (k : Nat) {r : Nat} {T : TypeId} {cs : List Value} (hk : Hr[k]? = some (.blk r T cs)) (hcs : cs[6]? = some (Value.int .i64 0)) :
    Rd w (blocks Hin) (some ⟨r, 6, none⟩) 1 1 [.int .i64 0] := by
  have hcl : 6 < cs.length := (List.getElem?_eq_some_iff.1 hcs).1
  have := Rd.ofBlk hv k (b := r) (o := 6) (T := T) (cs := cs) (m := 1) (sz := 1) hk (by omega)
  have e1 : (cs.drop 6).take (1 * 1) = [Value.int .i64 0] := by
    rw [List.drop_eq_getElem_cons hcl]
    have := List.getElem?_eq_getElem hcl
    rw [hcs] at this
    injection this with this
    rw [← this]
    rfl
  rw [e1] at this
  exact this
theorem reverse_spec (A B : Option Addr) (n c m c' o st : Nat) (bs : List UInt8) (zs : List Int) (e u : Addr) (hn : n ≤ 1000000) (ho : o < bs.length) (hs : st ≤ o) (hm : m ≤ 1000001) :
    FnS Tryd.prog 13 [.slice A n c, vI o, vI st, .slice B m c'] [] (fun w => Bytes w (blocks []) A n c bs ∧ Ints w (blocks []) B m c' zs ∧ Laid w (blocks []) e u)
      (fun v H => (bs[o].toNat = 0 ∧ ∃ A1 c1, v = .tuple #[.slice A1 0 c1, .bool false, .bool false] ∧ H = []) ∨
        (0 < bs[o].toNat ∧ ∃ A1 c1, v = .tuple #[.slice A1 (rev (num bs) st [] (8 * o + wd bs[o].toNat - 1) zs).1.length c1, .bool true, .bool (rev (num bs) st [] (8 * o + wd bs[o].toNat - 1) zs).2.1] ∧
          H = [OwnI 3 (rev (num bs) st [] (8 * o + wd bs[o].toNat - 1) zs).1 A1 c1])) := by
  refine FnS.introD Tryd.func13 rfl (by kernel_rfl) rfl fun w hH ⟨hp, hz, hL⟩ => ?_
  have hlz := hz.len
  obtain rfl : bs.length = n := hp.len
  have hw : wd bs[o].toNat ≤ 8 := wd_lt (by have := bs[o].toNat_lt; omega)
  (conv => whnf); repeat ((first | refine RngK.mk (by omega) (by omega) ?_ | refine NzK.mk (by omega) ?_ | refine NnK.mk (by omega) ?_ | refine BdK.mk (by omega) (by omega) (by omega) ?_ | refine InsK.lit (by omega) (by omega) ?_ | refine SpK.lit ?_ | refine GrdK.same ?_ | refine GrdK.tf ?_ | refine GrdK.ft ?_ | refine PickK.t ?_ | refine PickK.f ?_); (conv => whnf))
  refine CallK.of [] (NewReverse_spec A bs.length c o st bs e u (by omega) ho hs) rfl (fun w hw => ⟨hp.pass hw, hL.pass hw⟩) ?_
  rintro v _ (⟨g, rfl, T, x, rfl⟩ | ⟨g, b, r, cs, rfl, hcs, rfl⟩)
  · (conv => whnf); repeat ((first | refine RngK.mk (by omega) (by omega) ?_ | refine NzK.mk (by omega) ?_ | refine NnK.mk (by omega) ?_ | refine BdK.mk (by omega) (by omega) (by omega) ?_ | refine InsK.lit (by omega) (by omega) ?_ | refine SpK.lit ?_ | refine GrdK.same ?_ | refine GrdK.tf ?_ | refine GrdK.ft ?_ | refine PickK.t ?_ | refine PickK.f ?_); (conv => whnf))
    refine ValK.neIface rfl ?_
    (conv => whnf); repeat ((first | refine RngK.mk (by omega) (by omega) ?_ | refine NzK.mk (by omega) ?_ | refine NnK.mk (by omega) ?_ | refine BdK.mk (by omega) (by omega) (by omega) ?_ | refine InsK.lit (by omega) (by omega) ?_ | refine SpK.lit ?_ | refine GrdK.same ?_ | refine GrdK.tf ?_ | refine GrdK.ft ?_ | refine PickK.t ?_ | refine PickK.f ?_); (conv => whnf))
    refine Wp.cond rfl (fun _ => ?_) (fun h => by cases h)
    (conv => whnf); repeat ((first | refine RngK.mk (by omega) (by omega) ?_ | refine NzK.mk (by omega) ?_ | refine NnK.mk (by omega) ?_ | refine BdK.mk (by omega) (by omega) (by omega) ?_ | refine InsK.lit (by omega) (by omega) ?_ | refine SpK.lit ?_ | refine GrdK.same ?_ | refine GrdK.tf ?_ | refine GrdK.ft ?_ | refine PickK.t ?_ | refine PickK.f ?_); (conv => whnf))
    refine EffK.litV rfl rfl rfl rfl rfl rfl rfl rfl rfl ?_
    (conv => whnf); repeat ((first | refine RngK.mk (by omega) (by omega) ?_ | refine NzK.mk (by omega) ?_ | refine NnK.mk (by omega) ?_ | refine BdK.mk (by omega) (by omega) (by omega) ?_ | refine InsK.lit (by omega) (by omega) ?_ | refine SpK.lit ?_ | refine GrdK.same ?_ | refine GrdK.tf ?_ | refine GrdK.ft ?_ | refine PickK.t ?_ | refine PickK.f ?_); (conv => whnf))
    intro b
    (conv => whnf); repeat ((first | refine RngK.mk (by omega) (by omega) ?_ | refine NzK.mk (by omega) ?_ | refine NnK.mk (by omega) ?_ | refine BdK.mk (by omega) (by omega) (by omega) ?_ | refine InsK.lit (by omega) (by omega) ?_ | refine SpK.lit ?_ | refine GrdK.same ?_ | refine GrdK.tf ?_ | refine GrdK.ft ?_ | refine PickK.t ?_ | refine PickK.f ?_); (conv => whnf))
    exact ⟨[], HSub.nil _, .inl ⟨g, some ⟨b, 0, none⟩, 0, rfl, rfl⟩⟩
  · have hw2 := wd_pos g
    obtain ⟨F, hf⟩ : ∃ F, rev (num bs) st [] (8 * o + wd bs[o].toNat - 1) zs = F := ⟨_, rfl⟩
    rw [hf]
    have hI : RbI (num bs) bs.length st o bs[o].toNat (wd bs[o].toNat - 1) := by
      refine ⟨hs, by omega, by omega, by have := bs[o].toNat_lt; omega, ?_⟩
      have := bitsN_low (num bs) (8 * o) (b := wd bs[o].toNat - 1) (c := 8) (by omega)
      rw [← num_byte ho] at this
      exact this
    have hpl : 8 * o + (wd bs[o].toNat - 1) = 8 * o + wd bs[o].toNat - 1 := by omega
    generalize 8 * o + wd bs[o].toNat - 1 = P at hpl hf
    generalize wd bs[o].toNat - 1 = cnt at hpl hI ⊢
    generalize bs[o].toNat = bits at hI g ⊢
    (conv => whnf); repeat ((first | refine RngK.mk (by omega) (by omega) ?_ | refine NzK.mk (by omega) ?_ | refine NnK.mk (by omega) ?_ | refine BdK.mk (by omega) (by omega) (by omega) ?_ | refine InsK.lit (by omega) (by omega) ?_ | refine SpK.lit ?_ | refine GrdK.same ?_ | refine GrdK.tf ?_ | refine GrdK.ft ?_ | refine PickK.t ?_ | refine PickK.f ?_); (conv => whnf))
    refine ValK.neNil rfl ?_
    (conv => whnf); repeat ((first | refine RngK.mk (by omega) (by omega) ?_ | refine NzK.mk (by omega) ?_ | refine NnK.mk (by omega) ?_ | refine BdK.mk (by omega) (by omega) (by omega) ?_ | refine InsK.lit (by omega) (by omega) ?_ | refine SpK.lit ?_ | refine GrdK.same ?_ | refine GrdK.tf ?_ | refine GrdK.ft ?_ | refine PickK.t ?_ | refine PickK.f ?_); (conv => whnf))
    refine Wp.cond rfl (fun h => by cases h) (fun _ => ?_)
    (conv => whnf); repeat ((first | refine RngK.mk (by omega) (by omega) ?_ | refine NzK.mk (by omega) ?_ | refine NnK.mk (by omega) ?_ | refine BdK.mk (by omega) (by omega) (by omega) ?_ | refine InsK.lit (by omega) (by omega) ?_ | refine SpK.lit ?_ | refine GrdK.same ?_ | refine GrdK.tf ?_ | refine GrdK.ft ?_ | refine PickK.t ?_ | refine PickK.f ?_); (conv => whnf))
    refine EffK.litV rfl rfl rfl rfl rfl rfl rfl rfl rfl ?_
    (conv => whnf); repeat ((first | refine RngK.mk (by omega) (by omega) ?_ | refine NzK.mk (by omega) ?_ | refine NnK.mk (by omega) ?_ | refine BdK.mk (by omega) (by omega) (by omega) ?_ | refine InsK.lit (by omega) (by omega) ?_ | refine SpK.lit ?_ | refine GrdK.same ?_ | refine GrdK.tf ?_ | refine GrdK.ft ?_ | refine PickK.t ?_ | refine PickK.f ?_); (conv => whnf))
    intro b0
    (conv => whnf); repeat ((first | refine RngK.mk (by omega) (by omega) ?_ | refine NzK.mk (by omega) ?_ | refine NnK.mk (by omega) ?_ | refine BdK.mk (by omega) (by omega) (by omega) ?_ | refine InsK.lit (by omega) (by omega) ?_ | refine SpK.lit ?_ | refine GrdK.same ?_ | refine GrdK.tf ?_ | refine GrdK.ft ?_ | refine PickK.t ?_ | refine PickK.f ?_); (conv => whnf))
    refine Wp.loop (fun s : Nat × List Int × Option Addr × Nat × Nat × Nat × Nat => [(11, .pointer (some ⟨b, 0, none⟩)), (29, .slice B m c'), (30, vI m), (31, vI s.1), (13, .slice s.2.2.1 s.2.1.length s.2.2.2.1)])
      (fun s => [OwnI 3 s.2.1 s.2.2.1 s.2.2.2.1, .blk b 88 (rbc r A bs.length c s.2.2.2.2.1 st s.2.2.2.2.2.1 s.2.2.2.2.2.2), .blk r 85 cs])
      (fun s => s.1 ≤ m ∧ s.2.1.length = s.1 ∧ RbI (num bs) bs.length st s.2.2.2.2.1 s.2.2.2.2.2.1 s.2.2.2.2.2.2 ∧ rev (num bs) st s.2.1 (8 * s.2.2.2.2.1 + s.2.2.2.2.2.2) (zs.drop s.1) = F) (fun s => m - s.1) (0, [], some ⟨b0, 0, none⟩, 0, o, bits, cnt)
      ⟨rfl, rfl, rfl, rfl, rfl, trivial⟩ (HSub.of [0, 0, 0] rfl) ⟨Nat.zero_le _, rfl, hI, by simp only [List.drop_zero]; rw [hpl]; exact hf⟩ fun ⟨k, acc, A1, c1, off, bits, cnt⟩ ⟨hk, hla, hI, hF⟩ => ?_
    dsimp only at hk hla hI hF ⊢
    (conv => whnf); repeat ((first | refine RngK.mk (by omega) (by omega) ?_ | refine NzK.mk (by omega) ?_ | refine NnK.mk (by omega) ?_ | refine BdK.mk (by omega) (by omega) (by omega) ?_ | refine InsK.lit (by omega) (by omega) ?_ | refine SpK.lit ?_ | refine GrdK.same ?_ | refine GrdK.tf ?_ | refine GrdK.ft ?_ | refine PickK.t ?_ | refine PickK.f ?_); (conv => whnf))
    refine Wp.cond rfl (fun h => ?_) (fun h => ?_)
    · have h := dT h
      have hk' : k < zs.length := by omega
      rw [drop_at hk', rev] at hF
      (conv => whnf); repeat ((first | refine RngK.mk (by omega) (by omega) ?_ | refine NzK.mk (by omega) ?_ | refine NnK.mk (by omega) ?_ | refine BdK.mk (by omega) (by omega) (by omega) ?_ | refine InsK.lit (by omega) (by omega) ?_ | refine SpK.lit ?_ | refine GrdK.same ?_ | refine GrdK.tf ?_ | refine GrdK.ft ?_ | refine PickK.t ?_ | refine PickK.f ?_); (conv => whnf))
      refine InsK.rd hz.rd (by omega) (by omega) ?_
      (conv => whnf); repeat ((first | refine RngK.mk (by omega) (by omega) ?_ | refine NzK.mk (by omega) ?_ | refine NnK.mk (by omega) ?_ | refine BdK.mk (by omega) (by omega) (by omega) ?_ | refine InsK.lit (by omega) (by omega) ?_ | refine SpK.lit ?_ | refine GrdK.same ?_ | refine GrdK.tf ?_ | refine GrdK.ft ?_ | refine PickK.t ?_ | refine PickK.f ?_); (conv => whnf))
      refine LdK.rd (v := vI zs[k]) hz.rd k rfl rfl rfl (by simp [hk']) ?_
      (conv => whnf); repeat ((first | refine RngK.mk (by omega) (by omega) ?_ | refine NzK.mk (by omega) ?_ | refine NnK.mk (by omega) ?_ | refine BdK.mk (by omega) (by omega) (by omega) ?_ | refine InsK.lit (by omega) (by omega) ?_ | refine SpK.lit ?_ | refine GrdK.same ?_ | refine GrdK.tf ?_ | refine GrdK.ft ?_ | refine PickK.t ?_ | refine PickK.f ?_); (conv => whnf))
      have hzl := hz.lim _ (List.getElem_mem hk')
      have h17 := Int.emod_nonneg zs[k] (show (25 : Int) ≠ 0 by omega)
      have h17' := Int.emod_lt_of_pos zs[k] (show (0 : Int) < 25 by omega)
      obtain ⟨q, hq⟩ := Int.eq_ofNat_of_zero_le h17
      rw [hq] at hF
      have hqt : ((q : Nat) : Int).toNat = q := by omega
      rw [hqt] at hF
      have e24 : zs[k] % (24 + 1) = ((q : Nat) : Int) := hq
      refine CallK.of0 (size_spec zs[k] 24 (by omega) (by omega)) ?_
      rintro _ _ ⟨rfl, rfl⟩
      rw [e24]
      (conv => whnf); repeat ((first | refine RngK.mk (by omega) (by omega) ?_ | refine NzK.mk (by omega) ?_ | refine NnK.mk (by omega) ?_ | refine BdK.mk (by omega) (by omega) (by omega) ?_ | refine InsK.lit (by omega) (by omega) ?_ | refine SpK.lit ?_ | refine GrdK.same ?_ | refine GrdK.tf ?_ | refine GrdK.ft ?_ | refine PickK.t ?_ | refine PickK.f ?_); (conv => whnf))
      refine CallK.of [1] (RVal_spec b r A bs.length c bs e u off st bits cnt q (by omega) hI (by omega)) rfl (fun w hw => ⟨hp.pass hw, hL.pass hw, rd6 hw 1 rfl hcs⟩) ?_
      rintro v _ ⟨off', bits', cnt', hI', rfl, ⟨g1, g2, rfl⟩ | ⟨g1, g2, T, x, rfl⟩⟩
      · rw [if_neg (by omega)] at hF
        have e1 : 8 * off + cnt - q = 8 * off' + cnt' := by omega
        rw [e1] at hF ⊢
        have hlb := bitsN_lt (num bs) (8 * off' + cnt') q
        have h2q : 2 ^ q ≤ 2 ^ 24 := Nat.pow_le_pow_right (by omega) (by omega)
        obtain ⟨val, hval⟩ : ∃ val, bitsN (num bs) (8 * off' + cnt') q = val := ⟨_, rfl⟩
        rw [hval] at hF hlb ⊢
        (conv => whnf); repeat ((first | refine RngK.mk (by omega) (by omega) ?_ | refine NzK.mk (by omega) ?_ | refine NnK.mk (by omega) ?_ | refine BdK.mk (by omega) (by omega) (by omega) ?_ | refine InsK.lit (by omega) (by omega) ?_ | refine SpK.lit ?_ | refine GrdK.same ?_ | refine GrdK.tf ?_ | refine GrdK.ft ?_ | refine PickK.t ?_ | refine PickK.f ?_); (conv => whnf))
        refine ValK.neNil rfl ?_
        (conv => whnf); repeat ((first | refine RngK.mk (by omega) (by omega) ?_ | refine NzK.mk (by omega) ?_ | refine NnK.mk (by omega) ?_ | refine BdK.mk (by omega) (by omega) (by omega) ?_ | refine InsK.lit (by omega) (by omega) ?_ | refine SpK.lit ?_ | refine GrdK.same ?_ | refine GrdK.tf ?_ | refine GrdK.ft ?_ | refine PickK.t ?_ | refine PickK.f ?_); (conv => whnf))
        refine Wp.cond rfl (fun h => by cases h) (fun _ => ?_)
        (conv => whnf); repeat ((first | refine RngK.mk (by omega) (by omega) ?_ | refine NzK.mk (by omega) ?_ | refine NnK.mk (by omega) ?_ | refine BdK.mk (by omega) (by omega) (by omega) ?_ | refine InsK.lit (by omega) (by omega) ?_ | refine SpK.lit ?_ | refine GrdK.same ?_ | refine GrdK.tf ?_ | refine GrdK.ft ?_ | refine PickK.t ?_ | refine PickK.f ?_); (conv => whnf))
        refine EffK.litV rfl rfl rfl rfl rfl rfl rfl rfl rfl ?_
        (conv => whnf); repeat ((first | refine RngK.mk (by omega) (by omega) ?_ | refine NzK.mk (by omega) ?_ | refine NnK.mk (by omega) ?_ | refine BdK.mk (by omega) (by omega) (by omega) ?_ | refine InsK.lit (by omega) (by omega) ?_ | refine SpK.lit ?_ | refine GrdK.same ?_ | refine GrdK.tf ?_ | refine GrdK.ft ?_ | refine PickK.t ?_ | refine PickK.f ?_); (conv => whnf))
        intro b2
        (conv => whnf); repeat ((first | refine RngK.mk (by omega) (by omega) ?_ | refine NzK.mk (by omega) ?_ | refine NnK.mk (by omega) ?_ | refine BdK.mk (by omega) (by omega) (by omega) ?_ | refine InsK.lit (by omega) (by omega) ?_ | refine SpK.lit ?_ | refine GrdK.same ?_ | refine GrdK.tf ?_ | refine GrdK.ft ?_ | refine PickK.t ?_ | refine PickK.f ?_); (conv => whnf))
        refine EffK.append 2 (news := [vI (val : Nat)]) rfl rfl rfl rfl rfl rfl rfl rfl (Src.ownW (k := 0) rfl rfl) (by intro u hu; obtain rfl := List.mem_singleton.1 hu; rfl) (by simp [maxLen]; omega) (by show (_ + _) * 8 ≤ _; omega) fun A' cap' => ?_
        (conv => whnf); repeat ((first | refine RngK.mk (by omega) (by omega) ?_ | refine NzK.mk (by omega) ?_ | refine NnK.mk (by omega) ?_ | refine BdK.mk (by omega) (by omega) (by omega) ?_ | refine InsK.lit (by omega) (by omega) ?_ | refine SpK.lit ?_ | refine GrdK.same ?_ | refine GrdK.tf ?_ | refine GrdK.ft ?_ | refine PickK.t ?_ | refine PickK.f ?_); (conv => whnf))
        refine ⟨(k + 1, acc ++ [(val : Int)], A', cap', off', bits', cnt'), ⟨rfl, rfl, rfl, rfl, ?_, trivial⟩, ?_, ⟨by simp only; omega, by simp only [List.length_append, List.length_singleton]; omega, hI', hF⟩, by simp only; omega⟩
        · show some _ = some _
          simp
        · dsimp only
          rw [own_snoc]
          exact HSub.of [2, 1, 1] rfl
      · rw [if_pos (by omega)] at hF
        subst hF
        (conv => whnf); repeat ((first | refine RngK.mk (by omega) (by omega) ?_ | refine NzK.mk (by omega) ?_ | refine NnK.mk (by omega) ?_ | refine BdK.mk (by omega) (by omega) (by omega) ?_ | refine InsK.lit (by omega) (by omega) ?_ | refine SpK.lit ?_ | refine GrdK.same ?_ | refine GrdK.tf ?_ | refine GrdK.ft ?_ | refine PickK.t ?_ | refine PickK.f ?_); (conv => whnf))
        refine ValK.neIface rfl ?_
        (conv => whnf); repeat ((first | refine RngK.mk (by omega) (by omega) ?_ | refine NzK.mk (by omega) ?_ | refine NnK.mk (by omega) ?_ | refine BdK.mk (by omega) (by omega) (by omega) ?_ | refine InsK.lit (by omega) (by omega) ?_ | refine SpK.lit ?_ | refine GrdK.same ?_ | refine GrdK.tf ?_ | refine GrdK.ft ?_ | refine PickK.t ?_ | refine PickK.f ?_); (conv => whnf))
        refine Wp.cond rfl (fun _ => ?_) (fun h => by cases h)
        (conv => whnf); repeat ((first | refine RngK.mk (by omega) (by omega) ?_ | refine NzK.mk (by omega) ?_ | refine NnK.mk (by omega) ?_ | refine BdK.mk (by omega) (by omega) (by omega) ?_ | refine InsK.lit (by omega) (by omega) ?_ | refine SpK.lit ?_ | refine GrdK.same ?_ | refine GrdK.tf ?_ | refine GrdK.ft ?_ | refine PickK.t ?_ | refine PickK.f ?_); (conv => whnf))
        exact ⟨_, HSub.of [1] rfl, .inr ⟨g, A1, c1, rfl, rfl⟩⟩
    · have h := dF h
      rw [List.drop_of_length_le (by omega), rev] at hF
      subst hF
      (conv => whnf); repeat ((first | refine RngK.mk (by omega) (by omega) ?_ | refine NzK.mk (by omega) ?_ | refine NnK.mk (by omega) ?_ | refine BdK.mk (by omega) (by omega) (by omega) ?_ | refine InsK.lit (by omega) (by omega) ?_ | refine SpK.lit ?_ | refine GrdK.same ?_ | refine GrdK.tf ?_ | refine GrdK.ft ?_ | refine PickK.t ?_ | refine PickK.f ?_); (conv => whnf))
      exact ⟨_, HSub.of [0] rfl, .inr ⟨g, A1, c1, rfl, rfl⟩⟩
end Go.Proofs.YtagcmlbpppmbfaaDoor
