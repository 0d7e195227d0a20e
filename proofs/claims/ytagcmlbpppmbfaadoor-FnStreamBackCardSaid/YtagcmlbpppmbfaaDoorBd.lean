/- impl.Forward. -/
import Derived.Test.YtagcmlbpppmbfaaDoorBc
namespace Go.Proofs.YtagcmlbpppmbfaaDoor
open Go Go.Sx
set_option maxRecDepth 100000
abbrev Place (off bits cnt : Nat) : Value := .agg #[vI off, .int .u32 bits, vI cnt]
/-- what reading forward comes to -/
structure FwdR (N n : Nat) (F : List Int × Bool × Nat) (A1 : Option Addr) (c1 off cnt off2 cnt2 : Nat) (v : Value) : Prop where
  eq : v = .tuple #[.slice A1 F.1.length c1, .bool F.2.1, Place off (bitsN N F.2.2 cnt) cnt, Place off2 (bitsN N F.2.2 cnt) cnt2]
  p : 8 * off - cnt = F.2.2
  le : cnt ≤ 8 * off
  on : off ≤ n
  lt : cnt < 32
  p2 : 8 * off2 - cnt2 = F.2.2
  le2 : cnt2 ≤ 8 * off2
  on2 : off2 ≤ n
  lt2 : cnt2 < 8
  cc : cnt2 ≤ cnt
theorem forward_spec (A B : Option Addr) (n c m c' o : Nat) (bs : List UInt8) (zs : List Int) (e u : Addr) (hn : n ≤ 1000000) (ho : o ≤ n) (hm : m ≤ 1000000) :
    FnS Tryd.prog 9 [.slice A n c, vI o, .slice B m c'] [] (fun w => Bytes w (blocks []) A n c bs ∧ Ints w (blocks []) B m c' zs ∧ Laid w (blocks []) e u)
      (fun v H => ∃ A1 c1 off cnt off2 cnt2, FwdR (num bs) n (fwd (num bs) n [] (8 * o) zs) A1 c1 off cnt off2 cnt2 v ∧ H = [OwnI 3 (fwd (num bs) n [] (8 * o) zs).1 A1 c1]) := by
  refine FnS.introD Tryd.func9 rfl (by kernel_rfl) rfl fun w hH ⟨hp, hz, hL⟩ => ?_
  have hlz := hz.len
  generalize hf : fwd (num bs) n [] (8 * o) zs = F
  (conv => whnf); repeat ((first | refine RngK.mk (by omega) (by omega) ?_ | refine NzK.mk (by omega) ?_ | refine NnK.mk (by omega) ?_ | refine BdK.mk (by omega) (by omega) (by omega) ?_ | refine InsK.lit (by omega) (by omega) ?_ | refine SpK.lit ?_ | refine GrdK.same ?_ | refine GrdK.tf ?_ | refine GrdK.ft ?_ | refine PickK.t ?_ | refine PickK.f ?_); (conv => whnf))
  refine ⟨_, _, rfl, rfl, ?_⟩
  intro b8
  (conv => whnf); repeat ((first | refine RngK.mk (by omega) (by omega) ?_ | refine NzK.mk (by omega) ?_ | refine NnK.mk (by omega) ?_ | refine BdK.mk (by omega) (by omega) (by omega) ?_ | refine InsK.lit (by omega) (by omega) ?_ | refine SpK.lit ?_ | refine GrdK.same ?_ | refine GrdK.tf ?_ | refine GrdK.ft ?_ | refine PickK.t ?_ | refine PickK.f ?_); (conv => whnf))
  refine ⟨_, _, rfl, rfl, ?_⟩
  intro b9
  (conv => whnf); repeat ((first | refine RngK.mk (by omega) (by omega) ?_ | refine NzK.mk (by omega) ?_ | refine NnK.mk (by omega) ?_ | refine BdK.mk (by omega) (by omega) (by omega) ?_ | refine InsK.lit (by omega) (by omega) ?_ | refine SpK.lit ?_ | refine GrdK.same ?_ | refine GrdK.tf ?_ | refine GrdK.ft ?_ | refine PickK.t ?_ | refine PickK.f ?_); (conv => whnf))
  refine CallK.of0 (NewBitReader_spec A n c o (by omega)) ?_
  rintro _ _ ⟨b, r, cs, rfl, hcs, rfl⟩
  (conv => whnf); repeat ((first | refine RngK.mk (by omega) (by omega) ?_ | refine NzK.mk (by omega) ?_ | refine NnK.mk (by omega) ?_ | refine BdK.mk (by omega) (by omega) (by omega) ?_ | refine InsK.lit (by omega) (by omega) ?_ | refine SpK.lit ?_ | refine GrdK.same ?_ | refine GrdK.tf ?_ | refine GrdK.ft ?_ | refine PickK.t ?_ | refine PickK.f ?_); (conv => whnf))
  refine EffK.litV rfl rfl rfl rfl rfl rfl rfl rfl rfl ?_
  (conv => whnf); repeat ((first | refine RngK.mk (by omega) (by omega) ?_ | refine NzK.mk (by omega) ?_ | refine NnK.mk (by omega) ?_ | refine BdK.mk (by omega) (by omega) (by omega) ?_ | refine InsK.lit (by omega) (by omega) ?_ | refine SpK.lit ?_ | refine GrdK.same ?_ | refine GrdK.tf ?_ | refine GrdK.ft ?_ | refine PickK.t ?_ | refine PickK.f ?_); (conv => whnf))
  intro b0
  (conv => whnf); repeat ((first | refine RngK.mk (by omega) (by omega) ?_ | refine NzK.mk (by omega) ?_ | refine NnK.mk (by omega) ?_ | refine BdK.mk (by omega) (by omega) (by omega) ?_ | refine InsK.lit (by omega) (by omega) ?_ | refine SpK.lit ?_ | refine GrdK.same ?_ | refine GrdK.tf ?_ | refine GrdK.ft ?_ | refine PickK.t ?_ | refine PickK.f ?_); (conv => whnf))
  have hcl : 6 < cs.length := (List.getElem?_eq_some_iff.1 hcs).1
  refine Wp.cutEx 0 (fun s : List Int × Bool × Option Addr × Nat × Nat × Nat => [(8, .pointer (some ⟨b8, 0, none⟩)), (9, .pointer (some ⟨b9, 0, none⟩)), (10, .pointer (some ⟨b, 0, none⟩)), (11, .slice s.2.2.1 s.1.length s.2.2.2.1), (12, .bool s.2.1)])
    (fun s => [OwnI 3 s.1 s.2.2.1 s.2.2.2.1, .blk b 69 (brc r A n c s.2.2.2.2.1 (bitsN (num bs) (8 * s.2.2.2.2.1 - s.2.2.2.2.2) s.2.2.2.2.2) s.2.2.2.2.2), .blk b8 27 [vI 0, .int .u32 0, vI 0], .blk b9 27 [vI 0, .int .u32 0, vI 0]])
    (fun s => s.2.2.2.2.2 ≤ 8 * s.2.2.2.2.1 ∧ s.2.2.2.2.1 ≤ n ∧ s.2.2.2.2.2 < 32 ∧ F = (s.1, s.2.1, 8 * s.2.2.2.2.1 - s.2.2.2.2.2)) ?_ fun ⟨acc, okk, A1, c1, off, cnt⟩ ⟨h1, h2, h3, hF⟩ => ?_
  · refine Wp.loop (fun s : Nat × List Int × Option Addr × Nat × Nat × Nat => [(8, .pointer (some ⟨b8, 0, none⟩)), (9, .pointer (some ⟨b9, 0, none⟩)), (10, .pointer (some ⟨b, 0, none⟩)), (23, .slice B m c'), (24, vI m), (25, vI s.1), (11, .slice s.2.2.1 s.2.1.length s.2.2.2.1), (12, .bool true)])
      (fun s => [OwnI 3 s.2.1 s.2.2.1 s.2.2.2.1, .blk b 69 (brc r A n c s.2.2.2.2.1 (bitsN (num bs) (8 * s.2.2.2.2.1 - s.2.2.2.2.2) s.2.2.2.2.2) s.2.2.2.2.2), .blk r 85 cs, .blk b8 27 [vI 0, .int .u32 0, vI 0], .blk b9 27 [vI 0, .int .u32 0, vI 0]])
      (fun s => s.1 ≤ m ∧ s.2.1.length = s.1 ∧ s.2.2.2.2.2 ≤ 8 * s.2.2.2.2.1 ∧ s.2.2.2.2.1 ≤ n ∧ s.2.2.2.2.2 < 32 ∧ fwd (num bs) n s.2.1 (8 * s.2.2.2.2.1 - s.2.2.2.2.2) (zs.drop s.1) = F) (fun s => m - s.1) (0, [], some ⟨b0, 0, none⟩, 0, o, 0)
      ⟨rfl, rfl, rfl, rfl, rfl, rfl, rfl, rfl, trivial⟩ ?_ ⟨Nat.zero_le _, rfl, Nat.zero_le _, ho, by simp only; omega, hf⟩ fun ⟨k, acc, A1, c1, off, cnt⟩ ⟨hk, hla, h1, h2, h3, hF⟩ => ?_
    · simp only [bitsN_zero]
      exact HSub.of [0, 0, 0, 1, 0] rfl
    dsimp only at hk hla h1 h2 h3 hF ⊢
    (conv => whnf); repeat ((first | refine RngK.mk (by omega) (by omega) ?_ | refine NzK.mk (by omega) ?_ | refine NnK.mk (by omega) ?_ | refine BdK.mk (by omega) (by omega) (by omega) ?_ | refine InsK.lit (by omega) (by omega) ?_ | refine SpK.lit ?_ | refine GrdK.same ?_ | refine GrdK.tf ?_ | refine GrdK.ft ?_ | refine PickK.t ?_ | refine PickK.f ?_); (conv => whnf))
    refine Wp.cond rfl (fun h => ?_) (fun h => ?_)
    · have h := dT h
      have hk' : k < zs.length := by omega
      rw [drop_at hk', fwd] at hF
      (conv => whnf); repeat ((first | refine RngK.mk (by omega) (by omega) ?_ | refine NzK.mk (by omega) ?_ | refine NnK.mk (by omega) ?_ | refine BdK.mk (by omega) (by omega) (by omega) ?_ | refine InsK.lit (by omega) (by omega) ?_ | refine SpK.lit ?_ | refine GrdK.same ?_ | refine GrdK.tf ?_ | refine GrdK.ft ?_ | refine PickK.t ?_ | refine PickK.f ?_); (conv => whnf))
      refine InsK.rd hz.rd (by omega) (by omega) ?_
      (conv => whnf); repeat ((first | refine RngK.mk (by omega) (by omega) ?_ | refine NzK.mk (by omega) ?_ | refine NnK.mk (by omega) ?_ | refine BdK.mk (by omega) (by omega) (by omega) ?_ | refine InsK.lit (by omega) (by omega) ?_ | refine SpK.lit ?_ | refine GrdK.same ?_ | refine GrdK.tf ?_ | refine GrdK.ft ?_ | refine PickK.t ?_ | refine PickK.f ?_); (conv => whnf))
      refine LdK.rd (v := vI zs[k]) hz.rd k rfl rfl rfl (by simp [hk']) ?_
      (conv => whnf); repeat ((first | refine RngK.mk (by omega) (by omega) ?_ | refine NzK.mk (by omega) ?_ | refine NnK.mk (by omega) ?_ | refine BdK.mk (by omega) (by omega) (by omega) ?_ | refine InsK.lit (by omega) (by omega) ?_ | refine SpK.lit ?_ | refine GrdK.same ?_ | refine GrdK.tf ?_ | refine GrdK.ft ?_ | refine PickK.t ?_ | refine PickK.f ?_); (conv => whnf))
      refine CallK.of [1] (MoreBits_spec b r A n c bs e u off cnt (by omega) h1 h2 h3) rfl (fun w hw => ⟨hp.pass hw, hL.pass hw, ?_⟩) ?_
      · have := Rd.ofBlk hw 1 (b := r) (o := 6) (T := 85) (cs := cs) (m := 1) (sz := 1) rfl (by omega)
        have e1 : (cs.drop 6).take (1 * 1) = [Value.int .i64 0] := by
          rw [List.drop_eq_getElem_cons hcl]
          have := List.getElem?_eq_getElem hcl
          rw [hcs] at this
          injection this with this
          rw [← this]
          rfl
        rw [e1] at this
        exact this
      rintro v _ ⟨off', cnt', g1, g2, g3, g4, rfl, hv⟩
      rcases hv with ⟨rfl, g5⟩ | ⟨⟨T, x, rfl⟩, g5, g6⟩
      · (conv => whnf); repeat ((first | refine RngK.mk (by omega) (by omega) ?_ | refine NzK.mk (by omega) ?_ | refine NnK.mk (by omega) ?_ | refine BdK.mk (by omega) (by omega) (by omega) ?_ | refine InsK.lit (by omega) (by omega) ?_ | refine SpK.lit ?_ | refine GrdK.same ?_ | refine GrdK.tf ?_ | refine GrdK.ft ?_ | refine PickK.t ?_ | refine PickK.f ?_); (conv => whnf))
        refine ValK.neNil rfl ?_
        (conv => whnf); repeat ((first | refine RngK.mk (by omega) (by omega) ?_ | refine NzK.mk (by omega) ?_ | refine NnK.mk (by omega) ?_ | refine BdK.mk (by omega) (by omega) (by omega) ?_ | refine InsK.lit (by omega) (by omega) ?_ | refine SpK.lit ?_ | refine GrdK.same ?_ | refine GrdK.tf ?_ | refine GrdK.ft ?_ | refine PickK.t ?_ | refine PickK.f ?_); (conv => whnf))
        refine Wp.cond rfl (fun h => by cases h) (fun _ => ?_)
        (conv => whnf); repeat ((first | refine RngK.mk (by omega) (by omega) ?_ | refine NzK.mk (by omega) ?_ | refine NnK.mk (by omega) ?_ | refine BdK.mk (by omega) (by omega) (by omega) ?_ | refine InsK.lit (by omega) (by omega) ?_ | refine SpK.lit ?_ | refine GrdK.same ?_ | refine GrdK.tf ?_ | refine GrdK.ft ?_ | refine PickK.t ?_ | refine PickK.f ?_); (conv => whnf))
        rw [if_neg (by omega)] at hF
        have h17 := Int.emod_nonneg zs[k] (show (17 : Int) ≠ 0 by omega)
        have h17' := Int.emod_lt_of_pos zs[k] (show (0 : Int) < 17 by omega)
        obtain ⟨q, hq⟩ := Int.eq_ofNat_of_zero_le h17
        rw [hq] at hF
        have hqt : ((q : Nat) : Int).toNat = q := by omega
        rw [hqt, ← g1] at hF
        have e16 : zs[k] % (16 + 1) = ((q : Nat) : Int) := hq
        have hb := bitsN_lt (num bs) (8 * off' - cnt') q
        have h2q : 2 ^ q ≤ 2 ^ 16 := Nat.pow_le_pow_right (by omega) (by omega)
        refine CallK.of0 (size_spec zs[k] 16 (by omega) (by omega)) ?_
        rintro _ _ ⟨rfl, rfl⟩
        rw [e16]
        (conv => whnf); repeat ((first | refine RngK.mk (by omega) (by omega) ?_ | refine NzK.mk (by omega) ?_ | refine NnK.mk (by omega) ?_ | refine BdK.mk (by omega) (by omega) (by omega) ?_ | refine InsK.lit (by omega) (by omega) ?_ | refine SpK.lit ?_ | refine GrdK.same ?_ | refine GrdK.tf ?_ | refine GrdK.ft ?_ | refine PickK.t ?_ | refine PickK.f ?_); (conv => whnf))
        refine CallK.of [0] (Val_spec b r A n c (num bs) off' cnt' q (by omega) g2 g4) rfl (fun _ _ => trivial) ?_
        rintro _ _ ⟨rfl, rfl⟩
        (conv => whnf); repeat ((first | refine RngK.mk (by omega) (by omega) ?_ | refine NzK.mk (by omega) ?_ | refine NnK.mk (by omega) ?_ | refine BdK.mk (by omega) (by omega) (by omega) ?_ | refine InsK.lit (by omega) (by omega) ?_ | refine SpK.lit ?_ | refine GrdK.same ?_ | refine GrdK.tf ?_ | refine GrdK.ft ?_ | refine PickK.t ?_ | refine PickK.f ?_); (conv => whnf))
        refine EffK.litV rfl rfl rfl rfl rfl rfl rfl rfl rfl ?_
        (conv => whnf); repeat ((first | refine RngK.mk (by omega) (by omega) ?_ | refine NzK.mk (by omega) ?_ | refine NnK.mk (by omega) ?_ | refine BdK.mk (by omega) (by omega) (by omega) ?_ | refine InsK.lit (by omega) (by omega) ?_ | refine SpK.lit ?_ | refine GrdK.same ?_ | refine GrdK.tf ?_ | refine GrdK.ft ?_ | refine PickK.t ?_ | refine PickK.f ?_); (conv => whnf))
        intro b2
        (conv => whnf); repeat ((first | refine RngK.mk (by omega) (by omega) ?_ | refine NzK.mk (by omega) ?_ | refine NnK.mk (by omega) ?_ | refine BdK.mk (by omega) (by omega) (by omega) ?_ | refine InsK.lit (by omega) (by omega) ?_ | refine SpK.lit ?_ | refine GrdK.same ?_ | refine GrdK.tf ?_ | refine GrdK.ft ?_ | refine PickK.t ?_ | refine PickK.f ?_); (conv => whnf))
        refine EffK.append 2 (news := [vI (bitsN (num bs) (8 * off' - cnt') q : Nat)]) rfl rfl rfl rfl rfl rfl rfl rfl (Src.ownW (k := 0) rfl rfl) (by intro u hu; obtain rfl := List.mem_singleton.1 hu; rfl) (by simp [maxLen]; omega) (by show (_ + _) * 8 ≤ _; omega) fun A' cap' => ?_
        (conv => whnf); repeat ((first | refine RngK.mk (by omega) (by omega) ?_ | refine NzK.mk (by omega) ?_ | refine NnK.mk (by omega) ?_ | refine BdK.mk (by omega) (by omega) (by omega) ?_ | refine InsK.lit (by omega) (by omega) ?_ | refine SpK.lit ?_ | refine GrdK.same ?_ | refine GrdK.tf ?_ | refine GrdK.ft ?_ | refine PickK.t ?_ | refine PickK.f ?_); (conv => whnf))
        refine ⟨(k + 1, acc ++ [(bitsN (num bs) (8 * off' - cnt') q : Int)], A', cap', off', cnt' - q), ⟨rfl, rfl, rfl, rfl, rfl, rfl, ?_, rfl, trivial⟩, ?_, ⟨by simp only; omega, by simp only [List.length_append, List.length_singleton]; omega, by simp only; omega, g3, by simp only; omega, ?_⟩, by simp only; omega⟩
        · show some _ = some _
          simp
        · dsimp only
          rw [own_snoc]
          exact HSub.of [2, 1, 1, 1, 1] rfl
        · dsimp only
          have e : 8 * off' - (cnt' - q) = 8 * off' - cnt' + q := by omega
          rw [e]
          exact hF
      · (conv => whnf); repeat ((first | refine RngK.mk (by omega) (by omega) ?_ | refine NzK.mk (by omega) ?_ | refine NnK.mk (by omega) ?_ | refine BdK.mk (by omega) (by omega) (by omega) ?_ | refine InsK.lit (by omega) (by omega) ?_ | refine SpK.lit ?_ | refine GrdK.same ?_ | refine GrdK.tf ?_ | refine GrdK.ft ?_ | refine PickK.t ?_ | refine PickK.f ?_); (conv => whnf))
        refine ValK.neIface rfl ?_
        (conv => whnf); repeat ((first | refine RngK.mk (by omega) (by omega) ?_ | refine NzK.mk (by omega) ?_ | refine NnK.mk (by omega) ?_ | refine BdK.mk (by omega) (by omega) (by omega) ?_ | refine InsK.lit (by omega) (by omega) ?_ | refine SpK.lit ?_ | refine GrdK.same ?_ | refine GrdK.tf ?_ | refine GrdK.ft ?_ | refine PickK.t ?_ | refine PickK.f ?_); (conv => whnf))
        refine Wp.cond rfl (fun _ => ?_) (fun h => by cases h)
        (conv => whnf); repeat ((first | refine RngK.mk (by omega) (by omega) ?_ | refine NzK.mk (by omega) ?_ | refine NnK.mk (by omega) ?_ | refine BdK.mk (by omega) (by omega) (by omega) ?_ | refine InsK.lit (by omega) (by omega) ?_ | refine SpK.lit ?_ | refine GrdK.same ?_ | refine GrdK.tf ?_ | refine GrdK.ft ?_ | refine PickK.t ?_ | refine PickK.f ?_); (conv => whnf))
        rw [if_pos (by omega), ← g1] at hF
        exact ⟨(acc, false, A1, c1, off', cnt'), ⟨rfl, rfl, rfl, rfl, rfl, trivial⟩, HSub.of [1, 0, 1, 1] rfl, g2, g3, g4, hF.symm⟩
    · have h := dF h
      rw [List.drop_of_length_le (by omega), fwd] at hF
      (conv => whnf); repeat ((first | refine RngK.mk (by omega) (by omega) ?_ | refine NzK.mk (by omega) ?_ | refine NnK.mk (by omega) ?_ | refine BdK.mk (by omega) (by omega) (by omega) ?_ | refine InsK.lit (by omega) (by omega) ?_ | refine SpK.lit ?_ | refine GrdK.same ?_ | refine GrdK.tf ?_ | refine GrdK.ft ?_ | refine PickK.t ?_ | refine PickK.f ?_); (conv => whnf))
      refine ⟨(acc, true, A1, c1, off, cnt), ⟨rfl, rfl, rfl, rfl, rfl, trivial⟩, HSub.of [0, 0, 1, 1] rfl, h1, h2, h3, hF.symm⟩
  · dsimp only at h1 h2 h3 hF ⊢
    subst hF
    (conv => whnf); repeat ((first | refine RngK.mk (by omega) (by omega) ?_ | refine NzK.mk (by omega) ?_ | refine NnK.mk (by omega) ?_ | refine BdK.mk (by omega) (by omega) (by omega) ?_ | refine InsK.lit (by omega) (by omega) ?_ | refine SpK.lit ?_ | refine GrdK.same ?_ | refine GrdK.tf ?_ | refine GrdK.ft ?_ | refine PickK.t ?_ | refine PickK.f ?_); (conv => whnf))
    refine CallK.of [1] (State_spec b r A n c off (bitsN (num bs) (8 * off - cnt) cnt) cnt) rfl (fun _ _ => trivial) ?_
    rintro _ _ ⟨rfl, rfl⟩
    (conv => whnf); repeat ((first | refine RngK.mk (by omega) (by omega) ?_ | refine NzK.mk (by omega) ?_ | refine NnK.mk (by omega) ?_ | refine BdK.mk (by omega) (by omega) (by omega) ?_ | refine InsK.lit (by omega) (by omega) ?_ | refine SpK.lit ?_ | refine GrdK.same ?_ | refine GrdK.tf ?_ | refine GrdK.ft ?_ | refine PickK.t ?_ | refine PickK.f ?_); (conv => whnf))
    refine ValK.build rfl ?_
    (conv => whnf); repeat ((first | refine RngK.mk (by omega) (by omega) ?_ | refine NzK.mk (by omega) ?_ | refine NnK.mk (by omega) ?_ | refine BdK.mk (by omega) (by omega) (by omega) ?_ | refine InsK.lit (by omega) (by omega) ?_ | refine SpK.lit ?_ | refine GrdK.same ?_ | refine GrdK.tf ?_ | refine GrdK.ft ?_ | refine PickK.t ?_ | refine PickK.f ?_); (conv => whnf))
    refine ⟨_, _, rfl, rfl, ?_⟩
    intro b18
    (conv => whnf); repeat ((first | refine RngK.mk (by omega) (by omega) ?_ | refine NzK.mk (by omega) ?_ | refine NnK.mk (by omega) ?_ | refine BdK.mk (by omega) (by omega) (by omega) ?_ | refine InsK.lit (by omega) (by omega) ?_ | refine SpK.lit ?_ | refine GrdK.same ?_ | refine GrdK.tf ?_ | refine GrdK.ft ?_ | refine PickK.t ?_ | refine PickK.f ?_); (conv => whnf))
    refine StK.blkNE 0 [vI off, .int .u32 (bitsN (num bs) (8 * off - cnt) cnt : Nat), vI cnt] rfl rfl rfl rfl rfl rfl ?_
    (conv => whnf); repeat ((first | refine RngK.mk (by omega) (by omega) ?_ | refine NzK.mk (by omega) ?_ | refine NnK.mk (by omega) ?_ | refine BdK.mk (by omega) (by omega) (by omega) ?_ | refine InsK.lit (by omega) (by omega) ?_ | refine SpK.lit ?_ | refine GrdK.same ?_ | refine GrdK.tf ?_ | refine GrdK.ft ?_ | refine PickK.t ?_ | refine PickK.f ?_); (conv => whnf))
    refine CallK.of [1] (Backup_spec b r A n c off (bitsN (num bs) (8 * off - cnt) cnt) cnt h1 h3 (by omega)) rfl (fun _ _ => trivial) ?_
    rintro _ _ ⟨rfl, off2, cnt2, g1, g2, g3, g4, g5, rfl⟩
    (conv => whnf); repeat ((first | refine RngK.mk (by omega) (by omega) ?_ | refine NzK.mk (by omega) ?_ | refine NnK.mk (by omega) ?_ | refine BdK.mk (by omega) (by omega) (by omega) ?_ | refine InsK.lit (by omega) (by omega) ?_ | refine SpK.lit ?_ | refine GrdK.same ?_ | refine GrdK.tf ?_ | refine GrdK.ft ?_ | refine PickK.t ?_ | refine PickK.f ?_); (conv => whnf))
    refine CallK.of [0] (State_spec b r A n c off2 (bitsN (num bs) (8 * off - cnt) cnt) cnt2) rfl (fun _ _ => trivial) ?_
    rintro _ _ ⟨rfl, rfl⟩
    (conv => whnf); repeat ((first | refine RngK.mk (by omega) (by omega) ?_ | refine NzK.mk (by omega) ?_ | refine NnK.mk (by omega) ?_ | refine BdK.mk (by omega) (by omega) (by omega) ?_ | refine InsK.lit (by omega) (by omega) ?_ | refine SpK.lit ?_ | refine GrdK.same ?_ | refine GrdK.tf ?_ | refine GrdK.ft ?_ | refine PickK.t ?_ | refine PickK.f ?_); (conv => whnf))
    refine DrwK.ord (by kernel_rfl) [0, 1, 2, 3, 4, 5, 6, 7, 8, 9, 10, 11, 12] (by kernel_rfl) ?_; conv => whnf
    (conv => whnf); repeat ((first | refine RngK.mk (by omega) (by omega) ?_ | refine NzK.mk (by omega) ?_ | refine NnK.mk (by omega) ?_ | refine BdK.mk (by omega) (by omega) (by omega) ?_ | refine InsK.lit (by omega) (by omega) ?_ | refine SpK.lit ?_ | refine GrdK.same ?_ | refine GrdK.tf ?_ | refine GrdK.ft ?_ | refine PickK.t ?_ | refine PickK.f ?_); (conv => whnf))
    refine LdK.blkN 1 rfl rfl rfl rfl rfl ?_
    (conv => whnf); repeat ((first | refine RngK.mk (by omega) (by omega) ?_ | refine NzK.mk (by omega) ?_ | refine NnK.mk (by omega) ?_ | refine BdK.mk (by omega) (by omega) (by omega) ?_ | refine InsK.lit (by omega) (by omega) ?_ | refine SpK.lit ?_ | refine GrdK.same ?_ | refine GrdK.tf ?_ | refine GrdK.ft ?_ | refine PickK.t ?_ | refine PickK.f ?_); (conv => whnf))
    refine ValK.build rfl ?_
    (conv => whnf); repeat ((first | refine RngK.mk (by omega) (by omega) ?_ | refine NzK.mk (by omega) ?_ | refine NnK.mk (by omega) ?_ | refine BdK.mk (by omega) (by omega) (by omega) ?_ | refine InsK.lit (by omega) (by omega) ?_ | refine SpK.lit ?_ | refine GrdK.same ?_ | refine GrdK.tf ?_ | refine GrdK.ft ?_ | refine PickK.t ?_ | refine PickK.f ?_); (conv => whnf))
    refine StK.blkNE 3 [vI off, .int .u32 (bitsN (num bs) (8 * off - cnt) cnt : Nat), vI cnt] rfl rfl rfl rfl rfl rfl ?_
    (conv => whnf); repeat ((first | refine RngK.mk (by omega) (by omega) ?_ | refine NzK.mk (by omega) ?_ | refine NnK.mk (by omega) ?_ | refine BdK.mk (by omega) (by omega) (by omega) ?_ | refine InsK.lit (by omega) (by omega) ?_ | refine SpK.lit ?_ | refine GrdK.same ?_ | refine GrdK.tf ?_ | refine GrdK.ft ?_ | refine PickK.t ?_ | refine PickK.f ?_); (conv => whnf))
    refine KfK.of (LdK.blkN 1 rfl rfl rfl rfl rfl rfl) ?_
    (conv => whnf); repeat ((first | refine RngK.mk (by omega) (by omega) ?_ | refine NzK.mk (by omega) ?_ | refine NnK.mk (by omega) ?_ | refine BdK.mk (by omega) (by omega) (by omega) ?_ | refine InsK.lit (by omega) (by omega) ?_ | refine SpK.lit ?_ | refine GrdK.same ?_ | refine GrdK.tf ?_ | refine GrdK.ft ?_ | refine PickK.t ?_ | refine PickK.f ?_); (conv => whnf))
    refine StK.blkNE 4 [vI off2, .int .u32 (bitsN (num bs) (8 * off - cnt) cnt : Nat), vI cnt2] rfl rfl rfl rfl rfl rfl ?_
    (conv => whnf); repeat ((first | refine RngK.mk (by omega) (by omega) ?_ | refine NzK.mk (by omega) ?_ | refine NnK.mk (by omega) ?_ | refine BdK.mk (by omega) (by omega) (by omega) ?_ | refine InsK.lit (by omega) (by omega) ?_ | refine SpK.lit ?_ | refine GrdK.same ?_ | refine GrdK.tf ?_ | refine GrdK.ft ?_ | refine PickK.t ?_ | refine PickK.f ?_); (conv => whnf))
    refine LdK.blkN 3 rfl rfl rfl rfl rfl ?_
    (conv => whnf); repeat ((first | refine RngK.mk (by omega) (by omega) ?_ | refine NzK.mk (by omega) ?_ | refine NnK.mk (by omega) ?_ | refine BdK.mk (by omega) (by omega) (by omega) ?_ | refine InsK.lit (by omega) (by omega) ?_ | refine SpK.lit ?_ | refine GrdK.same ?_ | refine GrdK.tf ?_ | refine GrdK.ft ?_ | refine PickK.t ?_ | refine PickK.f ?_); (conv => whnf))
    refine LdK.blkN 4 rfl rfl rfl rfl rfl ?_
    (conv => whnf); repeat ((first | refine RngK.mk (by omega) (by omega) ?_ | refine NzK.mk (by omega) ?_ | refine NnK.mk (by omega) ?_ | refine BdK.mk (by omega) (by omega) (by omega) ?_ | refine InsK.lit (by omega) (by omega) ?_ | refine SpK.lit ?_ | refine GrdK.same ?_ | refine GrdK.tf ?_ | refine GrdK.ft ?_ | refine PickK.t ?_ | refine PickK.f ?_); (conv => whnf))
    exact ⟨_, HSub.of [2] rfl, A1, c1, off, cnt, off2, cnt2, ⟨rfl, rfl, h1, h2, h3, g1, g2, by omega, g4, g5⟩, rfl⟩
end Go.Proofs.YtagcmlbpppmbfaaDoor
