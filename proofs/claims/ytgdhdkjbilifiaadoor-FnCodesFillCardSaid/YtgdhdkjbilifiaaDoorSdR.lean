/- Counts are read as the model says, and their table is built. -/
import Derived.Test.YtgdhdkjbilifiaaDoorSdA
import Derived.Test.YtgdhdkjbilifiaaDoorStZ
import Derived.Test.YtgdhdkjbilifiaaDoorBb0
namespace Go.Proofs.YtgdhdkjbilifiaaDoor
open Go Go.Sx
set_option maxRecDepth 100000
structure RS where
  f : Nat
  z : Bool
  left : Nat
  cs : List Int
  off : Nat
  cnt : Nat
structure RI (N L most b : Nat) (R : Option (List Int × Nat)) (s : RS) : Prop where
  r : rdS N L most s.f s.z (8 * s.off - s.cnt) s.left s.cs = R
  fu : 2 * (most + 1 - s.cs.length) + (if s.z = true then 1 else 0) + 1 ≤ s.f
  c1 : s.cnt ≤ 8 * s.off
  c2 : s.off ≤ L
  c3 : s.cnt < 32
  le : s.left ≤ 2 ^ b
  ln : s.cs.length ≤ most + 1
theorem bits_low {N p q c : Nat} (h : q ≤ c) (hc : c < 32) : iand .u32 ((bitsN N p c : Nat) : Int) ((2 ^ q - 1 : Nat) : Int) = ((bitsN N p q : Nat) : Int) := by
  have hlt := bitsN_lt N p c
  have h2k : 2 ^ c ≤ 2 ^ 31 := Nat.pow_le_pow_right (by omega) (by omega)
  have h2q : 2 ^ q ≤ 2 ^ c := Nat.pow_le_pow_right (by omega) h
  have h2p := Nat.two_pow_pos q
  rw [iand_u (k := .u32) rfl (by show _ < 2 ^ 32; omega) (by show _ < 2 ^ 32; omega), Nat.and_two_pow_sub_one_eq_mod, bitsN_low _ _ h]
theorem bits_shr {N off c q : Nat} (h : q ≤ c) (h1 : c ≤ 8 * off) (hc : c < 32) : ishr .u32 ((bitsN N (8 * off - c) c : Nat) : Int) ((q : Nat) : Int) = ((bitsN N (8 * off - (c - q)) (c - q) : Nat) : Int) := by
  rw [ishr_nat .u32 _ (by show _ ≤ 32; omega), bitsN_shr _ _ h]
  have : 8 * off - c + q = 8 * off - (c - q) := by omega
  rw [this]
set_option maxHeartbeats 4000000 in
theorem readFSE_spec (r : Nat) (A : Option Addr) (n c : Nat) (bs : List UInt8) (e u : Addr) (off most bits : Nat) (T : Option Addr) (m mc : Nat) (hn : n ≤ 16777216) (ho : off ≤ n) (hm : most ≤ 255) (hb : bits ≤ 9) (hmT : 2 ^ bits ≤ m) (hmm : m ≤ 1000000) :
    FnS Tryd.prog 65 [.pointer (some ⟨r, 0, none⟩), .slice A n c, vN off, vN most, vN bits, .slice T m mc] [.own T m mc 132 3 (flE (List.replicate m (0, 0, 0)))]
      (fun w => BrPre w (blocks [.own T m mc 132 3 (flE (List.replicate m (0, 0, 0)))]) r A n c bs e u)
      (fun v H => match rfS (num bs) n off most bits with
        | none => ∃ T' x, v = .tuple #[vI 0, vI 0, .iface T' x] ∧ H = [.own T m mc 132 3 (flE (List.replicate m (0, 0, 0)))]
        | some (cs, b, p) => v = .tuple #[vN b, vN ((p + 7) / 8), .nilIface] ∧ H = [.own T m mc 132 3 (flE (tabE (buildN cs b) [] (m - 2 ^ b)))]) := by
  refine FnS.introD Tryd.func65 rfl (by kernel_rfl) rfl fun w hH hp => ?_
  obtain rfl : bs.length = n := hp.by_.len
  generalize hW : blocks [.own T m mc 132 3 (flE (List.replicate m (0, 0, 0)))] = W at hp ⊢
  obtain ⟨R0, hR0⟩ : ∃ R0, rfS (num bs) bs.length off most bits = R0 := ⟨_, rfl⟩
  rw [hR0]
  have hfacts := fun cs n p (h : R0 = some (cs, n, p)) => rfS_facts (hR0.trans h) hm hb
  unfold rfS at hR0
  generalize hN : num bs = N at hR0
  (conv => whnf); repeat ((first | refine RngK.mk (by omega) (by omega) ?_ | refine NzK.mk (by omega) ?_ | refine NnK.mk (by omega) ?_ | refine BdK.mk (by omega) (by omega) (by omega) ?_ | refine InsK.lit (by omega) (by omega) ?_ | refine SpK.lit ?_ | refine GrdK.same ?_ | refine GrdK.tf ?_ | refine GrdK.ft ?_ | refine PickK.t ?_ | refine PickK.f ?_); (conv => whnf))
  refine CallK.of0 (makeBitReader_spec r A bs.length c off (by omega)) ?_
  rintro _ _ ⟨rfl, rfl⟩
  (conv => whnf); repeat ((first | refine RngK.mk (by omega) (by omega) ?_ | refine NzK.mk (by omega) ?_ | refine NnK.mk (by omega) ?_ | refine BdK.mk (by omega) (by omega) (by omega) ?_ | refine InsK.lit (by omega) (by omega) ?_ | refine SpK.lit ?_ | refine GrdK.same ?_ | refine GrdK.tf ?_ | refine GrdK.ft ?_ | refine PickK.t ?_ | refine PickK.f ?_); (conv => whnf))
  refine ⟨_, _, rfl, rfl, ?_⟩
  intro br
  (conv => whnf); repeat ((first | refine RngK.mk (by omega) (by omega) ?_ | refine NzK.mk (by omega) ?_ | refine NnK.mk (by omega) ?_ | refine BdK.mk (by omega) (by omega) (by omega) ?_ | refine InsK.lit (by omega) (by omega) ?_ | refine SpK.lit ?_ | refine GrdK.same ?_ | refine GrdK.tf ?_ | refine GrdK.ft ?_ | refine PickK.t ?_ | refine PickK.f ?_); (conv => whnf))
  refine StK.blkNE 0 (brc r A bs.length c off (bitsN (num bs) (8 * off - 0) 0) 0) rfl rfl rfl rfl rfl (by rw [bitsN_zero]; rfl) ?_
  (conv => whnf); repeat ((first | refine RngK.mk (by omega) (by omega) ?_ | refine NzK.mk (by omega) ?_ | refine NnK.mk (by omega) ?_ | refine BdK.mk (by omega) (by omega) (by omega) ?_ | refine InsK.lit (by omega) (by omega) ?_ | refine SpK.lit ?_ | refine GrdK.same ?_ | refine GrdK.tf ?_ | refine GrdK.ft ?_ | refine PickK.t ?_ | refine PickK.f ?_); (conv => whnf))
  refine CallK.of [0] (moreBits_spec br r A bs.length c bs e u off 0 hn (by omega) ho (by omega)) rfl (fun w hw => hp.pass hw) ?_
  rintro v _ ⟨off1, cnt1, g1, g2, g3, g4, rfl, hv⟩
  rw [Nat.sub_zero] at g1
  rcases hv with ⟨rfl, g5⟩ | ⟨⟨T0, x0, rfl⟩, g5, g6⟩
  rotate_left
  · rw [if_pos (by omega)] at hR0
    subst hR0
    (conv => whnf); repeat ((first | refine RngK.mk (by omega) (by omega) ?_ | refine NzK.mk (by omega) ?_ | refine NnK.mk (by omega) ?_ | refine BdK.mk (by omega) (by omega) (by omega) ?_ | refine InsK.lit (by omega) (by omega) ?_ | refine SpK.lit ?_ | refine GrdK.same ?_ | refine GrdK.tf ?_ | refine GrdK.ft ?_ | refine PickK.t ?_ | refine PickK.f ?_); (conv => whnf))
    refine ValK.neIface rfl ?_
    (conv => whnf); repeat ((first | refine RngK.mk (by omega) (by omega) ?_ | refine NzK.mk (by omega) ?_ | refine NnK.mk (by omega) ?_ | refine BdK.mk (by omega) (by omega) (by omega) ?_ | refine InsK.lit (by omega) (by omega) ?_ | refine SpK.lit ?_ | refine GrdK.same ?_ | refine GrdK.tf ?_ | refine GrdK.ft ?_ | refine PickK.t ?_ | refine PickK.f ?_); (conv => whnf))
    refine Wp.cond rfl (fun _ => ?_) (fun h => by cases h)
    (conv => whnf); repeat ((first | refine RngK.mk (by omega) (by omega) ?_ | refine NzK.mk (by omega) ?_ | refine NnK.mk (by omega) ?_ | refine BdK.mk (by omega) (by omega) (by omega) ?_ | refine InsK.lit (by omega) (by omega) ?_ | refine SpK.lit ?_ | refine GrdK.same ?_ | refine GrdK.tf ?_ | refine GrdK.ft ?_ | refine PickK.t ?_ | refine PickK.f ?_); (conv => whnf))
    exact ⟨_, HSub.of [1] rfl, T0, x0, rfl, rfl⟩
  (conv => whnf); repeat ((first | refine RngK.mk (by omega) (by omega) ?_ | refine NzK.mk (by omega) ?_ | refine NnK.mk (by omega) ?_ | refine BdK.mk (by omega) (by omega) (by omega) ?_ | refine InsK.lit (by omega) (by omega) ?_ | refine SpK.lit ?_ | refine GrdK.same ?_ | refine GrdK.tf ?_ | refine GrdK.ft ?_ | refine PickK.t ?_ | refine PickK.f ?_); (conv => whnf))
  refine ValK.neNil rfl ?_
  (conv => whnf); repeat ((first | refine RngK.mk (by omega) (by omega) ?_ | refine NzK.mk (by omega) ?_ | refine NnK.mk (by omega) ?_ | refine BdK.mk (by omega) (by omega) (by omega) ?_ | refine InsK.lit (by omega) (by omega) ?_ | refine SpK.lit ?_ | refine GrdK.same ?_ | refine GrdK.tf ?_ | refine GrdK.ft ?_ | refine PickK.t ?_ | refine PickK.f ?_); (conv => whnf))
  refine Wp.cond rfl (fun h => by cases h) (fun _ => ?_)
  rw [if_neg (by omega)] at hR0
  (conv => whnf); repeat ((first | refine RngK.mk (by omega) (by omega) ?_ | refine NzK.mk (by omega) ?_ | refine NnK.mk (by omega) ?_ | refine BdK.mk (by omega) (by omega) (by omega) ?_ | refine InsK.lit (by omega) (by omega) ?_ | refine SpK.lit ?_ | refine GrdK.same ?_ | refine GrdK.tf ?_ | refine GrdK.ft ?_ | refine PickK.t ?_ | refine PickK.f ?_); (conv => whnf))
  refine CallK.of [0] (val_spec br r A bs.length c (num bs) off1 cnt1 4 (by omega) g2 g4) rfl (fun _ _ => trivial) ?_
  rintro _ _ ⟨rfl, rfl⟩
  have hb4 := bitsN_lt (num bs) (8 * off1 - cnt1) 4
  rw [hN, g1] at hb4
  rw [hN, g1]
  generalize hacc : bitsN N (8 * off) 4 = acc at *
  (conv => whnf); repeat ((first | refine RngK.mk (by omega) (by omega) ?_ | refine NzK.mk (by omega) ?_ | refine NnK.mk (by omega) ?_ | refine BdK.mk (by omega) (by omega) (by omega) ?_ | refine InsK.lit (by omega) (by omega) ?_ | refine SpK.lit ?_ | refine GrdK.same ?_ | refine GrdK.tf ?_ | refine GrdK.ft ?_ | refine PickK.t ?_ | refine PickK.f ?_); (conv => whnf))
  have ea : ((acc : Nat) : Int) + 5 = ((acc + 5 : Nat) : Int) := by omega
  rw [ea]
  generalize hb' : acc + 5 = b at *
  refine Wp.cond rfl (fun h => ?_) (fun h => ?_)
  · have h : ((b : Nat) : Int) > ((bits : Nat) : Int) := dT h
    rw [if_pos (by omega)] at hR0
    subst hR0
    (conv => whnf); repeat ((first | refine RngK.mk (by omega) (by omega) ?_ | refine NzK.mk (by omega) ?_ | refine NnK.mk (by omega) ?_ | refine BdK.mk (by omega) (by omega) (by omega) ?_ | refine InsK.lit (by omega) (by omega) ?_ | refine SpK.lit ?_ | refine GrdK.same ?_ | refine GrdK.tf ?_ | refine GrdK.ft ?_ | refine PickK.t ?_ | refine PickK.f ?_); (conv => whnf))
    refine CallK.of [0] (brErr_spec br r A bs.length c off1 _ (cnt1 - 4) _ e u (by omega)) rfl (fun w hw => ⟨hp.la.pass hw, hp.rr.pass hw⟩) ?_
    rintro _ _ ⟨⟨T0, x0, rfl⟩, rfl⟩
    (conv => whnf); repeat ((first | refine RngK.mk (by omega) (by omega) ?_ | refine NzK.mk (by omega) ?_ | refine NnK.mk (by omega) ?_ | refine BdK.mk (by omega) (by omega) (by omega) ?_ | refine InsK.lit (by omega) (by omega) ?_ | refine SpK.lit ?_ | refine GrdK.same ?_ | refine GrdK.tf ?_ | refine GrdK.ft ?_ | refine PickK.t ?_ | refine PickK.f ?_); (conv => whnf))
    exact ⟨_, HSub.of [1] rfl, T0, x0, rfl, rfl⟩
  have h' : ¬ ((b : Nat) : Int) > ((bits : Nat) : Int) := dF h
  clear h
  rw [if_neg (by omega)] at hR0
  have hbM : 2 ^ b ≤ 2 ^ 9 := Nat.pow_le_pow_right (by omega) (by omega)
  have hbm : 2 ^ b ≤ m := Nat.le_trans (Nat.pow_le_pow_right (by omega) (by omega)) hmT
  have hb5 : 2 ^ 5 ≤ 2 ^ b := Nat.pow_le_pow_right (by omega) (by omega)
  have e0 : ishl .i64 1 (b : Int) = ((2 ^ b : Nat) : Int) := by
    have := ishl_i64 (x := 1) (n := b) (by omega) (by omega)
    rw [Nat.one_mul] at this
    exact this
  have hwd0 : wd (2 ^ b + 1) = b + 1 := wd_eq (by omega) (by rw [Nat.pow_succ]; omega)
  (conv => whnf); repeat ((first | refine RngK.mk (by omega) (by omega) ?_ | refine NzK.mk (by omega) ?_ | refine NnK.mk (by omega) ?_ | refine BdK.mk (by omega) (by omega) (by omega) ?_ | refine InsK.lit (by omega) (by omega) ?_ | refine SpK.lit ?_ | refine GrdK.same ?_ | refine GrdK.tf ?_ | refine GrdK.ft ?_ | refine PickK.t ?_ | refine PickK.f ?_); (conv => whnf))
  rw [e0]
  (conv => whnf); repeat ((first | refine RngK.mk (by omega) (by omega) ?_ | refine NzK.mk (by omega) ?_ | refine NnK.mk (by omega) ?_ | refine BdK.mk (by omega) (by omega) (by omega) ?_ | refine InsK.lit (by omega) (by omega) ?_ | refine SpK.lit ?_ | refine GrdK.same ?_ | refine GrdK.tf ?_ | refine GrdK.ft ?_ | refine PickK.t ?_ | refine PickK.f ?_); (conv => whnf))
  refine NewK.rep ((normC []).map vS16) rfl rfl (by kernel_rfl) ?_
  intro nb
  (conv => whnf); repeat ((first | refine RngK.mk (by omega) (by omega) ?_ | refine NzK.mk (by omega) ?_ | refine NnK.mk (by omega) ?_ | refine BdK.mk (by omega) (by omega) (by omega) ?_ | refine InsK.lit (by omega) (by omega) ?_ | refine SpK.lit ?_ | refine GrdK.same ?_ | refine GrdK.tf ?_ | refine GrdK.ft ?_ | refine PickK.t ?_ | refine PickK.f ?_); (conv => whnf))
  obtain ⟨R, hR⟩ : ∃ R, rdS N bs.length most (2 * most + 5) false (8 * off + 4) (2 ^ b) [] = R := ⟨_, rfl⟩
  rw [hR] at hR0
  have hnone : R = none → R0 = none := fun h => by rw [← hR0, h]
  have hI0 : RI N bs.length most b R ⟨2 * most + 5, false, 2 ^ b, [], off1, cnt1 - 4⟩ :=
    ⟨by rw [← hR]; dsimp only; congr 1; omega, by simp; omega, by dsimp only; omega, g3, by dsimp only; omega, Nat.le_refl _, Nat.zero_le _⟩
  subst hN
  refine Wp.cutEx 0 (fun s : RS => [(0, .pointer (some ⟨r, 0, none⟩)), (2, vN off), (3, vN most), (5, .slice T m mc), (15, .pointer (some ⟨br, 0, none⟩)), (17, vN b), (18, vN (s.left + 1)), (21, vN s.cs.length), (23, .pointer (some ⟨nb, 0, none⟩))])
    (fun s => [.blk br 144 (brc r A bs.length c s.off (bitsN (num bs) (8 * s.off - s.cnt) s.cnt) s.cnt), .blk nb 149 ((normC s.cs).map vS16), .own T m mc 132 3 (flE (List.replicate m (0, 0, 0)))])
    (fun s => RI (num bs) bs.length most b R s ∧ (s.left = 0 ∨ most < s.cs.length)) ?_ fun s ⟨hI, hex⟩ => ?_
  · refine Wp.loop (fun s : RS => [(0, .pointer (some ⟨r, 0, none⟩)), (2, vN off), (3, vN most), (5, .slice T m mc), (15, .pointer (some ⟨br, 0, none⟩)), (17, vN b), (18, vN (s.left + 1)), (19, vN (2 ^ (wd (s.left + 1) - 1))), (20, vN (wd (s.left + 1))), (21, vN s.cs.length), (22, vB s.z), (23, .pointer (some ⟨nb, 0, none⟩))])
      (fun s => [.blk br 144 (brc r A bs.length c s.off (bitsN (num bs) (8 * s.off - s.cnt) s.cnt) s.cnt), .blk nb 149 ((normC s.cs).map vS16), .own T m mc 132 3 (flE (List.replicate m (0, 0, 0)))])
      (fun s => RI (num bs) bs.length most b R s) (fun s => s.f) ⟨2 * most + 5, false, 2 ^ b, [], off1, cnt1 - 4⟩
      ⟨rfl, rfl, rfl, rfl, rfl, rfl, rfl, by show some _ = some (vN _); rw [hwd0]; rfl, by show some _ = some (vN _); rw [hwd0]; rfl, rfl, rfl, rfl, trivial⟩ (HSub.of [1, 0, 0] rfl) hI0 fun ⟨f, z, left, cs, off2, cnt2⟩ hI => ?_
    have hIr := hI.r
    have hfu := hI.fu
    have k1 := hI.c1
    have k2 := hI.c2
    have k3 := hI.c3
    have hle := hI.le
    have hln := hI.ln
    dsimp only at hIr hfu k1 k2 k3 hle hln ⊢
    obtain ⟨f, rfl⟩ : ∃ f', f = f' + 1 := ⟨f - 1, by omega⟩
    rw [rdS] at hIr
    (conv => whnf); repeat ((first | refine RngK.mk (by omega) (by omega) ?_ | refine NzK.mk (by omega) ?_ | refine NnK.mk (by omega) ?_ | refine BdK.mk (by omega) (by omega) (by omega) ?_ | refine InsK.lit (by omega) (by omega) ?_ | refine SpK.lit ?_ | refine GrdK.same ?_ | refine GrdK.tf ?_ | refine GrdK.ft ?_ | refine PickK.t ?_ | refine PickK.f ?_); (conv => whnf))
    by_cases h0 : left = 0
    · rw [decide_eq_false (show ¬ ((left + 1 : Nat) : Int) > 1 by omega)]
      (conv => whnf); repeat ((first | refine RngK.mk (by omega) (by omega) ?_ | refine NzK.mk (by omega) ?_ | refine NnK.mk (by omega) ?_ | refine BdK.mk (by omega) (by omega) (by omega) ?_ | refine InsK.lit (by omega) (by omega) ?_ | refine SpK.lit ?_ | refine GrdK.same ?_ | refine GrdK.tf ?_ | refine GrdK.ft ?_ | refine PickK.t ?_ | refine PickK.f ?_); (conv => whnf))
      refine Wp.cond rfl (fun h => by cases h) (fun _ => ?_)
      (conv => whnf); repeat ((first | refine RngK.mk (by omega) (by omega) ?_ | refine NzK.mk (by omega) ?_ | refine NnK.mk (by omega) ?_ | refine BdK.mk (by omega) (by omega) (by omega) ?_ | refine InsK.lit (by omega) (by omega) ?_ | refine SpK.lit ?_ | refine GrdK.same ?_ | refine GrdK.tf ?_ | refine GrdK.ft ?_ | refine PickK.t ?_ | refine PickK.f ?_); (conv => whnf))
      exact ⟨⟨f + 1, z, left, cs, off2, cnt2⟩, ⟨rfl, rfl, rfl, rfl, rfl, rfl, rfl, rfl, rfl, trivial⟩, HSub.refl _, hI, .inl h0⟩
    rw [decide_eq_true (show ((left + 1 : Nat) : Int) > 1 by omega)]
    rw [if_neg h0] at hIr
    (conv => whnf); repeat ((first | refine RngK.mk (by omega) (by omega) ?_ | refine NzK.mk (by omega) ?_ | refine NnK.mk (by omega) ?_ | refine BdK.mk (by omega) (by omega) (by omega) ?_ | refine InsK.lit (by omega) (by omega) ?_ | refine SpK.lit ?_ | refine GrdK.same ?_ | refine GrdK.tf ?_ | refine GrdK.ft ?_ | refine PickK.t ?_ | refine PickK.f ?_); (conv => whnf))
    by_cases h1 : most < cs.length
    · rw [decide_eq_false (show ¬ ((cs.length : Nat) : Int) ≤ ((most : Nat) : Int) by omega)]
      (conv => whnf); repeat ((first | refine RngK.mk (by omega) (by omega) ?_ | refine NzK.mk (by omega) ?_ | refine NnK.mk (by omega) ?_ | refine BdK.mk (by omega) (by omega) (by omega) ?_ | refine InsK.lit (by omega) (by omega) ?_ | refine SpK.lit ?_ | refine GrdK.same ?_ | refine GrdK.tf ?_ | refine GrdK.ft ?_ | refine PickK.t ?_ | refine PickK.f ?_); (conv => whnf))
      refine Wp.cond rfl (fun h => by cases h) (fun _ => ?_)
      (conv => whnf); repeat ((first | refine RngK.mk (by omega) (by omega) ?_ | refine NzK.mk (by omega) ?_ | refine NnK.mk (by omega) ?_ | refine BdK.mk (by omega) (by omega) (by omega) ?_ | refine InsK.lit (by omega) (by omega) ?_ | refine SpK.lit ?_ | refine GrdK.same ?_ | refine GrdK.tf ?_ | refine GrdK.ft ?_ | refine PickK.t ?_ | refine PickK.f ?_); (conv => whnf))
      exact ⟨⟨f + 1, z, left, cs, off2, cnt2⟩, ⟨rfl, rfl, rfl, rfl, rfl, rfl, rfl, rfl, rfl, trivial⟩, HSub.refl _, hI, .inr h1⟩
    rw [decide_eq_true (show ((cs.length : Nat) : Int) ≤ ((most : Nat) : Int) by omega)]
    rw [if_neg h1] at hIr
    (conv => whnf); repeat ((first | refine RngK.mk (by omega) (by omega) ?_ | refine NzK.mk (by omega) ?_ | refine NnK.mk (by omega) ?_ | refine BdK.mk (by omega) (by omega) (by omega) ?_ | refine InsK.lit (by omega) (by omega) ?_ | refine SpK.lit ?_ | refine GrdK.same ?_ | refine GrdK.tf ?_ | refine GrdK.ft ?_ | refine PickK.t ?_ | refine PickK.f ?_); (conv => whnf))
    refine Wp.cond rfl (fun _ => ?_) (fun h => by cases h)
    (conv => whnf); repeat ((first | refine RngK.mk (by omega) (by omega) ?_ | refine NzK.mk (by omega) ?_ | refine NnK.mk (by omega) ?_ | refine BdK.mk (by omega) (by omega) (by omega) ?_ | refine InsK.lit (by omega) (by omega) ?_ | refine SpK.lit ?_ | refine GrdK.same ?_ | refine GrdK.tf ?_ | refine GrdK.ft ?_ | refine PickK.t ?_ | refine PickK.f ?_); (conv => whnf))
    refine CallK.of [0] (moreBits_spec br r A bs.length c bs e u off2 cnt2 hn k1 k2 k3) rfl (fun w hw => hp.pass hw) ?_
    rintro v _ ⟨off3, cnt3, j1, j2, j3, j4, rfl, hv⟩
    rw [← j1] at hIr
    rcases hv with ⟨rfl, j5⟩ | ⟨⟨T0, x0, rfl⟩, j5, j6⟩
    rotate_left
    · rw [if_pos (by omega)] at hIr
      obtain rfl := hnone hIr.symm
      (conv => whnf); repeat ((first | refine RngK.mk (by omega) (by omega) ?_ | refine NzK.mk (by omega) ?_ | refine NnK.mk (by omega) ?_ | refine BdK.mk (by omega) (by omega) (by omega) ?_ | refine InsK.lit (by omega) (by omega) ?_ | refine SpK.lit ?_ | refine GrdK.same ?_ | refine GrdK.tf ?_ | refine GrdK.ft ?_ | refine PickK.t ?_ | refine PickK.f ?_); (conv => whnf))
      refine ValK.neIface rfl ?_
      (conv => whnf); repeat ((first | refine RngK.mk (by omega) (by omega) ?_ | refine NzK.mk (by omega) ?_ | refine NnK.mk (by omega) ?_ | refine BdK.mk (by omega) (by omega) (by omega) ?_ | refine InsK.lit (by omega) (by omega) ?_ | refine SpK.lit ?_ | refine GrdK.same ?_ | refine GrdK.tf ?_ | refine GrdK.ft ?_ | refine PickK.t ?_ | refine PickK.f ?_); (conv => whnf))
      refine Wp.cond rfl (fun _ => ?_) (fun h => by cases h)
      (conv => whnf); repeat ((first | refine RngK.mk (by omega) (by omega) ?_ | refine NzK.mk (by omega) ?_ | refine NnK.mk (by omega) ?_ | refine BdK.mk (by omega) (by omega) (by omega) ?_ | refine InsK.lit (by omega) (by omega) ?_ | refine SpK.lit ?_ | refine GrdK.same ?_ | refine GrdK.tf ?_ | refine GrdK.ft ?_ | refine PickK.t ?_ | refine PickK.f ?_); (conv => whnf))
      exact ⟨_, HSub.of [2] rfl, T0, x0, rfl, rfl⟩
    rw [if_neg (by omega)] at hIr
    (conv => whnf); repeat ((first | refine RngK.mk (by omega) (by omega) ?_ | refine NzK.mk (by omega) ?_ | refine NnK.mk (by omega) ?_ | refine BdK.mk (by omega) (by omega) (by omega) ?_ | refine InsK.lit (by omega) (by omega) ?_ | refine SpK.lit ?_ | refine GrdK.same ?_ | refine GrdK.tf ?_ | refine GrdK.ft ?_ | refine PickK.t ?_ | refine PickK.f ?_); (conv => whnf))
    refine ValK.neNil rfl ?_
    (conv => whnf); repeat ((first | refine RngK.mk (by omega) (by omega) ?_ | refine NzK.mk (by omega) ?_ | refine NnK.mk (by omega) ?_ | refine BdK.mk (by omega) (by omega) (by omega) ?_ | refine InsK.lit (by omega) (by omega) ?_ | refine SpK.lit ?_ | refine GrdK.same ?_ | refine GrdK.tf ?_ | refine GrdK.ft ?_ | refine PickK.t ?_ | refine PickK.f ?_); (conv => whnf))
    refine Wp.cond rfl (fun h => by cases h) (fun _ => ?_)
    (conv => whnf); repeat ((first | refine RngK.mk (by omega) (by omega) ?_ | refine NzK.mk (by omega) ?_ | refine NnK.mk (by omega) ?_ | refine BdK.mk (by omega) (by omega) (by omega) ?_ | refine InsK.lit (by omega) (by omega) ?_ | refine SpK.lit ?_ | refine GrdK.same ?_ | refine GrdK.tf ?_ | refine GrdK.ft ?_ | refine PickK.t ?_ | refine PickK.f ?_); (conv => whnf))
    cases z with
    | true =>
      refine Wp.cond rfl (fun _ => ?_) (fun h => by cases h)
      rw [if_pos rfl] at hIr
      obtain ⟨FR, hFR⟩ : ∃ FR, flags (num bs) bs.length (8 * bs.length) (8 * off3 - cnt3) 0 = FR := ⟨_, rfl⟩
      rw [hFR] at hIr
      have hfn : FR = none → R0 = none := fun h => hnone (by rw [← hIr, h])
      have hfu2 : 2 * (most + 1 - cs.length) + 1 ≤ f := by simpa using hfu
      (conv => whnf); repeat ((first | refine RngK.mk (by omega) (by omega) ?_ | refine NzK.mk (by omega) ?_ | refine NnK.mk (by omega) ?_ | refine BdK.mk (by omega) (by omega) (by omega) ?_ | refine InsK.lit (by omega) (by omega) ?_ | refine SpK.lit ?_ | refine GrdK.same ?_ | refine GrdK.tf ?_ | refine GrdK.ft ?_ | refine PickK.t ?_ | refine PickK.f ?_); (conv => whnf))
      refine Wp.cutEx 2 (fun t : Nat × Nat × Nat × Nat => [(0, .pointer (some ⟨r, 0, none⟩)), (2, vN off), (3, vN most), (5, .slice T m mc), (15, .pointer (some ⟨br, 0, none⟩)), (17, vN b), (18, vN (left + 1)), (19, vN (2 ^ (wd (left + 1) - 1))), (20, vN (wd (left + 1))), (21, vN cs.length), (23, .pointer (some ⟨nb, 0, none⟩)), (25, vN (cs.length + t.2.1))])
        (fun t => [.blk br 144 (brc r A bs.length c t.2.2.1 (bitsN (num bs) (8 * t.2.2.1 - t.2.2.2) t.2.2.2) t.2.2.2), .blk nb 149 ((normC cs).map vS16), .own T m mc 132 3 (flE (List.replicate m (0, 0, 0)))])
        (fun t => flags (num bs) bs.length t.1 (8 * t.2.2.1 - t.2.2.2) t.2.1 = FR ∧ 8 * bs.length ≤ t.1 + (8 * t.2.2.1 - t.2.2.2) ∧ 16 ≤ t.2.2.2 ∧ t.2.2.2 ≤ 8 * t.2.2.1 ∧ t.2.2.1 ≤ bs.length ∧ t.2.2.2 < 32 ∧ t.2.1 ≤ 2 * (8 * t.2.2.1 - t.2.2.2)) ?_ fun ⟨g, k, off4, cnt4⟩ ⟨f1, f2, f3, f4, f5, f6, f7⟩ => ?_
      · refine Wp.loop (fun t : Nat × Nat × Nat × Nat => [(0, .pointer (some ⟨r, 0, none⟩)), (2, vN off), (3, vN most), (5, .slice T m mc), (15, .pointer (some ⟨br, 0, none⟩)), (17, vN b), (18, vN (left + 1)), (19, vN (2 ^ (wd (left + 1) - 1))), (20, vN (wd (left + 1))), (21, vN cs.length), (23, .pointer (some ⟨nb, 0, none⟩)), (25, vN (cs.length + t.2.1))])
          (fun t => [.blk br 144 (brc r A bs.length c t.2.2.1 (bitsN (num bs) (8 * t.2.2.1 - t.2.2.2) t.2.2.2) t.2.2.2), .blk nb 149 ((normC cs).map vS16), .own T m mc 132 3 (flE (List.replicate m (0, 0, 0)))])
          (fun t => flags (num bs) bs.length t.1 (8 * t.2.2.1 - t.2.2.2) t.2.1 = FR ∧ 8 * bs.length ≤ t.1 + (8 * t.2.2.1 - t.2.2.2) ∧ 16 ≤ t.2.2.2 ∧ t.2.2.2 ≤ 8 * t.2.2.1 ∧ t.2.2.1 ≤ bs.length ∧ t.2.2.2 < 32 ∧ t.2.1 ≤ 2 * (8 * t.2.2.1 - t.2.2.2)) (fun t => t.1) (8 * bs.length, 0, off3, cnt3)
          ⟨rfl, rfl, rfl, rfl, rfl, rfl, rfl, rfl, rfl, rfl, rfl, rfl, trivial⟩ (HSub.refl _) ⟨hFR, by simp only; omega, j5, j2, j3, j4, Nat.zero_le _⟩ fun ⟨g, k, off4, cnt4⟩ ⟨f1, f2, f3, f4, f5, f6, f7⟩ => ?_
        dsimp only at f1 f2 f3 f4 f5 f6 f7 ⊢
        have e12 : iand .u32 ((bitsN (num bs) (8 * off4 - cnt4) cnt4 : Nat) : Int) 4095 = ((bitsN (num bs) (8 * off4 - cnt4) 12 : Nat) : Int) := bits_low (q := 12) (by omega) f6
        (conv => whnf); repeat ((first | refine RngK.mk (by omega) (by omega) ?_ | refine NzK.mk (by omega) ?_ | refine NnK.mk (by omega) ?_ | refine BdK.mk (by omega) (by omega) (by omega) ?_ | refine InsK.lit (by omega) (by omega) ?_ | refine SpK.lit ?_ | refine GrdK.same ?_ | refine GrdK.tf ?_ | refine GrdK.ft ?_ | refine PickK.t ?_ | refine PickK.f ?_); (conv => whnf))
        refine LdK.blk 0 rfl rfl rfl rfl ?_
        (conv => whnf); repeat ((first | refine RngK.mk (by omega) (by omega) ?_ | refine NzK.mk (by omega) ?_ | refine NnK.mk (by omega) ?_ | refine BdK.mk (by omega) (by omega) (by omega) ?_ | refine InsK.lit (by omega) (by omega) ?_ | refine SpK.lit ?_ | refine GrdK.same ?_ | refine GrdK.tf ?_ | refine GrdK.ft ?_ | refine PickK.t ?_ | refine PickK.f ?_); (conv => whnf))
        rw [e12]
        refine Wp.cond rfl (fun h => ?_) (fun h => ?_)
        · have h : ((bitsN (num bs) (8 * off4 - cnt4) 12 : Nat) : Int) = 4095 := eqT h
          obtain ⟨g, rfl⟩ : ∃ g', g = g' + 6 := ⟨g - 6, by omega⟩
          rw [flags_six (by omega)] at f1
          (conv => whnf); repeat ((first | refine RngK.mk (by omega) (by omega) ?_ | refine NzK.mk (by omega) ?_ | refine NnK.mk (by omega) ?_ | refine BdK.mk (by omega) (by omega) (by omega) ?_ | refine InsK.lit (by omega) (by omega) ?_ | refine SpK.lit ?_ | refine GrdK.same ?_ | refine GrdK.tf ?_ | refine GrdK.ft ?_ | refine PickK.t ?_ | refine PickK.f ?_); (conv => whnf))
          refine LdK.blk 0 rfl rfl rfl rfl ?_
          (conv => whnf); repeat ((first | refine RngK.mk (by omega) (by omega) ?_ | refine NzK.mk (by omega) ?_ | refine NnK.mk (by omega) ?_ | refine BdK.mk (by omega) (by omega) (by omega) ?_ | refine InsK.lit (by omega) (by omega) ?_ | refine SpK.lit ?_ | refine GrdK.same ?_ | refine GrdK.tf ?_ | refine GrdK.ft ?_ | refine PickK.t ?_ | refine PickK.f ?_); (conv => whnf))
          refine StK.blkE 0 (brc r A bs.length c off4 (bitsN (num bs) (8 * off4 - (cnt4 - 12)) (cnt4 - 12)) cnt4) rfl rfl rfl rfl (Nat.le_of_ble_eq_true rfl) ?_ ?_
          · show [_, _, _, Value.int .u32 _, _] = [_, _, _, Value.int .u32 _, _]
            have := bits_shr (N := num bs) (off := off4) (c := cnt4) (q := 12) (by omega) (by omega) (by omega)
            rw [← this]
            rfl
          (conv => whnf); repeat ((first | refine RngK.mk (by omega) (by omega) ?_ | refine NzK.mk (by omega) ?_ | refine NnK.mk (by omega) ?_ | refine BdK.mk (by omega) (by omega) (by omega) ?_ | refine InsK.lit (by omega) (by omega) ?_ | refine SpK.lit ?_ | refine GrdK.same ?_ | refine GrdK.tf ?_ | refine GrdK.ft ?_ | refine PickK.t ?_ | refine PickK.f ?_); (conv => whnf))
          refine LdK.blk 0 rfl rfl rfl rfl ?_
          (conv => whnf); repeat ((first | refine RngK.mk (by omega) (by omega) ?_ | refine NzK.mk (by omega) ?_ | refine NnK.mk (by omega) ?_ | refine BdK.mk (by omega) (by omega) (by omega) ?_ | refine InsK.lit (by omega) (by omega) ?_ | refine SpK.lit ?_ | refine GrdK.same ?_ | refine GrdK.tf ?_ | refine GrdK.ft ?_ | refine PickK.t ?_ | refine PickK.f ?_); (conv => whnf))
          refine StK.blkE 0 (brc r A bs.length c off4 (bitsN (num bs) (8 * off4 - (cnt4 - 12)) (cnt4 - 12)) (cnt4 - 12)) rfl rfl rfl rfl (Nat.le_of_ble_eq_true rfl) ?_ ?_
          · show [_, _, _, _, Value.int .u32 _] = [_, _, _, _, Value.int .u32 _]
            have ew : (((12 : Nat) : Int)) = 12 := rfl
            have : ((cnt4 : Nat) : Int) - 12 = ((cnt4 - 12 : Nat) : Int) := by omega
            rw [IntWalk.u32_in _ (by omega), this]
          (conv => whnf); repeat ((first | refine RngK.mk (by omega) (by omega) ?_ | refine NzK.mk (by omega) ?_ | refine NnK.mk (by omega) ?_ | refine BdK.mk (by omega) (by omega) (by omega) ?_ | refine InsK.lit (by omega) (by omega) ?_ | refine SpK.lit ?_ | refine GrdK.same ?_ | refine GrdK.tf ?_ | refine GrdK.ft ?_ | refine PickK.t ?_ | refine PickK.f ?_); (conv => whnf))
          refine CallK.of [0] (moreBits_spec br r A bs.length c bs e u off4 (cnt4 - 12) hn (by omega) f5 (by omega)) rfl (fun w hw => hp.pass hw) ?_
          rintro v _ ⟨off5, cnt5, i1, i2, i3, i4, rfl, hv⟩
          have ip : 8 * off5 - cnt5 = 8 * off4 - cnt4 + 12 := by omega
          rcases hv with ⟨rfl, i5⟩ | ⟨⟨T0, x0, rfl⟩, i5, i6⟩
          rotate_left
          · rw [if_neg (by omega)] at f1
            obtain rfl := hfn f1.symm
            (conv => whnf); repeat ((first | refine RngK.mk (by omega) (by omega) ?_ | refine NzK.mk (by omega) ?_ | refine NnK.mk (by omega) ?_ | refine BdK.mk (by omega) (by omega) (by omega) ?_ | refine InsK.lit (by omega) (by omega) ?_ | refine SpK.lit ?_ | refine GrdK.same ?_ | refine GrdK.tf ?_ | refine GrdK.ft ?_ | refine PickK.t ?_ | refine PickK.f ?_); (conv => whnf))
            refine ValK.neIface rfl ?_
            (conv => whnf); repeat ((first | refine RngK.mk (by omega) (by omega) ?_ | refine NzK.mk (by omega) ?_ | refine NnK.mk (by omega) ?_ | refine BdK.mk (by omega) (by omega) (by omega) ?_ | refine InsK.lit (by omega) (by omega) ?_ | refine SpK.lit ?_ | refine GrdK.same ?_ | refine GrdK.tf ?_ | refine GrdK.ft ?_ | refine PickK.t ?_ | refine PickK.f ?_); (conv => whnf))
            refine Wp.cond rfl (fun _ => ?_) (fun h => by cases h)
            (conv => whnf); repeat ((first | refine RngK.mk (by omega) (by omega) ?_ | refine NzK.mk (by omega) ?_ | refine NnK.mk (by omega) ?_ | refine BdK.mk (by omega) (by omega) (by omega) ?_ | refine InsK.lit (by omega) (by omega) ?_ | refine SpK.lit ?_ | refine GrdK.same ?_ | refine GrdK.tf ?_ | refine GrdK.ft ?_ | refine PickK.t ?_ | refine PickK.f ?_); (conv => whnf))
            exact ⟨_, HSub.of [2] rfl, T0, x0, rfl, rfl⟩
          rw [if_pos (by omega), ← ip] at f1
          (conv => whnf); repeat ((first | refine RngK.mk (by omega) (by omega) ?_ | refine NzK.mk (by omega) ?_ | refine NnK.mk (by omega) ?_ | refine BdK.mk (by omega) (by omega) (by omega) ?_ | refine InsK.lit (by omega) (by omega) ?_ | refine SpK.lit ?_ | refine GrdK.same ?_ | refine GrdK.tf ?_ | refine GrdK.ft ?_ | refine PickK.t ?_ | refine PickK.f ?_); (conv => whnf))
          refine ValK.neNil rfl ?_
          (conv => whnf); repeat ((first | refine RngK.mk (by omega) (by omega) ?_ | refine NzK.mk (by omega) ?_ | refine NnK.mk (by omega) ?_ | refine BdK.mk (by omega) (by omega) (by omega) ?_ | refine InsK.lit (by omega) (by omega) ?_ | refine SpK.lit ?_ | refine GrdK.same ?_ | refine GrdK.tf ?_ | refine GrdK.ft ?_ | refine PickK.t ?_ | refine PickK.f ?_); (conv => whnf))
          refine Wp.cond rfl (fun h => by cases h) (fun _ => ?_)
          (conv => whnf); repeat ((first | refine RngK.mk (by omega) (by omega) ?_ | refine NzK.mk (by omega) ?_ | refine NnK.mk (by omega) ?_ | refine BdK.mk (by omega) (by omega) (by omega) ?_ | refine InsK.lit (by omega) (by omega) ?_ | refine SpK.lit ?_ | refine GrdK.same ?_ | refine GrdK.tf ?_ | refine GrdK.ft ?_ | refine PickK.t ?_ | refine PickK.f ?_); (conv => whnf))
          exact ⟨(g, k + 18, off5, cnt5), ⟨rfl, rfl, rfl, rfl, rfl, rfl, rfl, rfl, rfl, rfl, rfl, by show some (vI _) = some (vN _); congr 2, trivial⟩, HSub.refl _, ⟨f1, by simp only; omega, i5, i2, i3, i4, by simp only; omega⟩, by simp only; omega⟩
        · (conv => whnf); repeat ((first | refine RngK.mk (by omega) (by omega) ?_ | refine NzK.mk (by omega) ?_ | refine NnK.mk (by omega) ?_ | refine BdK.mk (by omega) (by omega) (by omega) ?_ | refine InsK.lit (by omega) (by omega) ?_ | refine SpK.lit ?_ | refine GrdK.same ?_ | refine GrdK.tf ?_ | refine GrdK.ft ?_ | refine PickK.t ?_ | refine PickK.f ?_); (conv => whnf))
          exact ⟨(g, k, off4, cnt4), ⟨rfl, rfl, rfl, rfl, rfl, rfl, rfl, rfl, rfl, rfl, rfl, rfl, trivial⟩, HSub.refl _, f1, f2, f3, f4, f5, f6, f7⟩
      dsimp only at f1 f2 f3 f4 f5 f6 f7 ⊢
      (conv => whnf); repeat ((first | refine RngK.mk (by omega) (by omega) ?_ | refine NzK.mk (by omega) ?_ | refine NnK.mk (by omega) ?_ | refine BdK.mk (by omega) (by omega) (by omega) ?_ | refine InsK.lit (by omega) (by omega) ?_ | refine SpK.lit ?_ | refine GrdK.same ?_ | refine GrdK.tf ?_ | refine GrdK.ft ?_ | refine PickK.t ?_ | refine PickK.f ?_); (conv => whnf))
      refine Wp.cutEx 4 (fun t : Nat × Nat × Nat × Nat => [(0, .pointer (some ⟨r, 0, none⟩)), (2, vN off), (3, vN most), (5, .slice T m mc), (15, .pointer (some ⟨br, 0, none⟩)), (17, vN b), (18, vN (left + 1)), (19, vN (2 ^ (wd (left + 1) - 1))), (20, vN (wd (left + 1))), (21, vN cs.length), (23, .pointer (some ⟨nb, 0, none⟩)), (25, vN (cs.length + t.2.1))])
        (fun t => [.blk br 144 (brc r A bs.length c t.2.2.1 (bitsN (num bs) (8 * t.2.2.1 - t.2.2.2) t.2.2.2) t.2.2.2), .blk nb 149 ((normC cs).map vS16), .own T m mc 132 3 (flE (List.replicate m (0, 0, 0)))])
        (fun t => (flags (num bs) bs.length t.1 (8 * t.2.2.1 - t.2.2.2) t.2.1 = FR ∧ 8 * bs.length ≤ t.1 + (8 * t.2.2.1 - t.2.2.2) ∧ 16 ≤ t.2.2.2 ∧ t.2.2.2 ≤ 8 * t.2.2.1 ∧ t.2.2.1 ≤ bs.length ∧ t.2.2.2 < 32 ∧ t.2.1 ≤ 2 * (8 * t.2.2.1 - t.2.2.2)) ∧ bitsN (num bs) (8 * t.2.2.1 - t.2.2.2) 2 ≠ 3) ?_ fun ⟨g, k, off4, cnt4⟩ ⟨⟨f1, f2, f3, f4, f5, f6, f7⟩, f8⟩ => ?_
      · refine Wp.loop (fun t : Nat × Nat × Nat × Nat => [(0, .pointer (some ⟨r, 0, none⟩)), (2, vN off), (3, vN most), (5, .slice T m mc), (15, .pointer (some ⟨br, 0, none⟩)), (17, vN b), (18, vN (left + 1)), (19, vN (2 ^ (wd (left + 1) - 1))), (20, vN (wd (left + 1))), (21, vN cs.length), (23, .pointer (some ⟨nb, 0, none⟩)), (25, vN (cs.length + t.2.1))])
          (fun t => [.blk br 144 (brc r A bs.length c t.2.2.1 (bitsN (num bs) (8 * t.2.2.1 - t.2.2.2) t.2.2.2) t.2.2.2), .blk nb 149 ((normC cs).map vS16), .own T m mc 132 3 (flE (List.replicate m (0, 0, 0)))])
          (fun t => flags (num bs) bs.length t.1 (8 * t.2.2.1 - t.2.2.2) t.2.1 = FR ∧ 8 * bs.length ≤ t.1 + (8 * t.2.2.1 - t.2.2.2) ∧ 16 ≤ t.2.2.2 ∧ t.2.2.2 ≤ 8 * t.2.2.1 ∧ t.2.2.1 ≤ bs.length ∧ t.2.2.2 < 32 ∧ t.2.1 ≤ 2 * (8 * t.2.2.1 - t.2.2.2)) (fun t => t.1) (g, k, off4, cnt4)
          ⟨rfl, rfl, rfl, rfl, rfl, rfl, rfl, rfl, rfl, rfl, rfl, rfl, trivial⟩ (HSub.refl _) ⟨f1, f2, f3, f4, f5, f6, f7⟩ fun ⟨g, k, off4, cnt4⟩ ⟨f1, f2, f3, f4, f5, f6, f7⟩ => ?_
        dsimp only at f1 f2 f3 f4 f5 f6 f7 ⊢
        have e2 : iand .u32 ((bitsN (num bs) (8 * off4 - cnt4) cnt4 : Nat) : Int) 3 = ((bitsN (num bs) (8 * off4 - cnt4) 2 : Nat) : Int) := bits_low (q := 2) (by omega) f6
        (conv => whnf); repeat ((first | refine RngK.mk (by omega) (by omega) ?_ | refine NzK.mk (by omega) ?_ | refine NnK.mk (by omega) ?_ | refine BdK.mk (by omega) (by omega) (by omega) ?_ | refine InsK.lit (by omega) (by omega) ?_ | refine SpK.lit ?_ | refine GrdK.same ?_ | refine GrdK.tf ?_ | refine GrdK.ft ?_ | refine PickK.t ?_ | refine PickK.f ?_); (conv => whnf))
        refine LdK.blk 0 rfl rfl rfl rfl ?_
        (conv => whnf); repeat ((first | refine RngK.mk (by omega) (by omega) ?_ | refine NzK.mk (by omega) ?_ | refine NnK.mk (by omega) ?_ | refine BdK.mk (by omega) (by omega) (by omega) ?_ | refine InsK.lit (by omega) (by omega) ?_ | refine SpK.lit ?_ | refine GrdK.same ?_ | refine GrdK.tf ?_ | refine GrdK.ft ?_ | refine PickK.t ?_ | refine PickK.f ?_); (conv => whnf))
        rw [e2]
        refine Wp.cond rfl (fun h => ?_) (fun h => ?_)
        · have h : ((bitsN (num bs) (8 * off4 - cnt4) 2 : Nat) : Int) = 3 := eqT h
          obtain ⟨g, rfl⟩ : ∃ g', g = g' + 1 := ⟨g - 1, by omega⟩
          rw [flags, if_pos (by omega)] at f1
          (conv => whnf); repeat ((first | refine RngK.mk (by omega) (by omega) ?_ | refine NzK.mk (by omega) ?_ | refine NnK.mk (by omega) ?_ | refine BdK.mk (by omega) (by omega) (by omega) ?_ | refine InsK.lit (by omega) (by omega) ?_ | refine SpK.lit ?_ | refine GrdK.same ?_ | refine GrdK.tf ?_ | refine GrdK.ft ?_ | refine PickK.t ?_ | refine PickK.f ?_); (conv => whnf))
          refine LdK.blk 0 rfl rfl rfl rfl ?_
          (conv => whnf); repeat ((first | refine RngK.mk (by omega) (by omega) ?_ | refine NzK.mk (by omega) ?_ | refine NnK.mk (by omega) ?_ | refine BdK.mk (by omega) (by omega) (by omega) ?_ | refine InsK.lit (by omega) (by omega) ?_ | refine SpK.lit ?_ | refine GrdK.same ?_ | refine GrdK.tf ?_ | refine GrdK.ft ?_ | refine PickK.t ?_ | refine PickK.f ?_); (conv => whnf))
          refine StK.blkE 0 (brc r A bs.length c off4 (bitsN (num bs) (8 * off4 - (cnt4 - 2)) (cnt4 - 2)) cnt4) rfl rfl rfl rfl (Nat.le_of_ble_eq_true rfl) ?_ ?_
          · show [_, _, _, Value.int .u32 _, _] = [_, _, _, Value.int .u32 _, _]
            have := bits_shr (N := num bs) (off := off4) (c := cnt4) (q := 2) (by omega) (by omega) (by omega)
            rw [← this]
            rfl
          (conv => whnf); repeat ((first | refine RngK.mk (by omega) (by omega) ?_ | refine NzK.mk (by omega) ?_ | refine NnK.mk (by omega) ?_ | refine BdK.mk (by omega) (by omega) (by omega) ?_ | refine InsK.lit (by omega) (by omega) ?_ | refine SpK.lit ?_ | refine GrdK.same ?_ | refine GrdK.tf ?_ | refine GrdK.ft ?_ | refine PickK.t ?_ | refine PickK.f ?_); (conv => whnf))
          refine LdK.blk 0 rfl rfl rfl rfl ?_
          (conv => whnf); repeat ((first | refine RngK.mk (by omega) (by omega) ?_ | refine NzK.mk (by omega) ?_ | refine NnK.mk (by omega) ?_ | refine BdK.mk (by omega) (by omega) (by omega) ?_ | refine InsK.lit (by omega) (by omega) ?_ | refine SpK.lit ?_ | refine GrdK.same ?_ | refine GrdK.tf ?_ | refine GrdK.ft ?_ | refine PickK.t ?_ | refine PickK.f ?_); (conv => whnf))
          refine StK.blkE 0 (brc r A bs.length c off4 (bitsN (num bs) (8 * off4 - (cnt4 - 2)) (cnt4 - 2)) (cnt4 - 2)) rfl rfl rfl rfl (Nat.le_of_ble_eq_true rfl) ?_ ?_
          · show [_, _, _, _, Value.int .u32 _] = [_, _, _, _, Value.int .u32 _]
            have ew : (((2 : Nat) : Int)) = 2 := rfl
            have : ((cnt4 : Nat) : Int) - 2 = ((cnt4 - 2 : Nat) : Int) := by omega
            rw [IntWalk.u32_in _ (by omega), this]
          (conv => whnf); repeat ((first | refine RngK.mk (by omega) (by omega) ?_ | refine NzK.mk (by omega) ?_ | refine NnK.mk (by omega) ?_ | refine BdK.mk (by omega) (by omega) (by omega) ?_ | refine InsK.lit (by omega) (by omega) ?_ | refine SpK.lit ?_ | refine GrdK.same ?_ | refine GrdK.tf ?_ | refine GrdK.ft ?_ | refine PickK.t ?_ | refine PickK.f ?_); (conv => whnf))
          refine CallK.of [0] (moreBits_spec br r A bs.length c bs e u off4 (cnt4 - 2) hn (by omega) f5 (by omega)) rfl (fun w hw => hp.pass hw) ?_
          rintro v _ ⟨off5, cnt5, i1, i2, i3, i4, rfl, hv⟩
          have ip : 8 * off5 - cnt5 = 8 * off4 - cnt4 + 2 := by omega
          rcases hv with ⟨rfl, i5⟩ | ⟨⟨T0, x0, rfl⟩, i5, i6⟩
          rotate_left
          · rw [if_neg (by omega)] at f1
            obtain rfl := hfn f1.symm
            (conv => whnf); repeat ((first | refine RngK.mk (by omega) (by omega) ?_ | refine NzK.mk (by omega) ?_ | refine NnK.mk (by omega) ?_ | refine BdK.mk (by omega) (by omega) (by omega) ?_ | refine InsK.lit (by omega) (by omega) ?_ | refine SpK.lit ?_ | refine GrdK.same ?_ | refine GrdK.tf ?_ | refine GrdK.ft ?_ | refine PickK.t ?_ | refine PickK.f ?_); (conv => whnf))
            refine ValK.neIface rfl ?_
            (conv => whnf); repeat ((first | refine RngK.mk (by omega) (by omega) ?_ | refine NzK.mk (by omega) ?_ | refine NnK.mk (by omega) ?_ | refine BdK.mk (by omega) (by omega) (by omega) ?_ | refine InsK.lit (by omega) (by omega) ?_ | refine SpK.lit ?_ | refine GrdK.same ?_ | refine GrdK.tf ?_ | refine GrdK.ft ?_ | refine PickK.t ?_ | refine PickK.f ?_); (conv => whnf))
            refine Wp.cond rfl (fun _ => ?_) (fun h => by cases h)
            (conv => whnf); repeat ((first | refine RngK.mk (by omega) (by omega) ?_ | refine NzK.mk (by omega) ?_ | refine NnK.mk (by omega) ?_ | refine BdK.mk (by omega) (by omega) (by omega) ?_ | refine InsK.lit (by omega) (by omega) ?_ | refine SpK.lit ?_ | refine GrdK.same ?_ | refine GrdK.tf ?_ | refine GrdK.ft ?_ | refine PickK.t ?_ | refine PickK.f ?_); (conv => whnf))
            exact ⟨_, HSub.of [2] rfl, T0, x0, rfl, rfl⟩
          rw [if_pos (by omega), ← ip] at f1
          (conv => whnf); repeat ((first | refine RngK.mk (by omega) (by omega) ?_ | refine NzK.mk (by omega) ?_ | refine NnK.mk (by omega) ?_ | refine BdK.mk (by omega) (by omega) (by omega) ?_ | refine InsK.lit (by omega) (by omega) ?_ | refine SpK.lit ?_ | refine GrdK.same ?_ | refine GrdK.tf ?_ | refine GrdK.ft ?_ | refine PickK.t ?_ | refine PickK.f ?_); (conv => whnf))
          refine ValK.neNil rfl ?_
          (conv => whnf); repeat ((first | refine RngK.mk (by omega) (by omega) ?_ | refine NzK.mk (by omega) ?_ | refine NnK.mk (by omega) ?_ | refine BdK.mk (by omega) (by omega) (by omega) ?_ | refine InsK.lit (by omega) (by omega) ?_ | refine SpK.lit ?_ | refine GrdK.same ?_ | refine GrdK.tf ?_ | refine GrdK.ft ?_ | refine PickK.t ?_ | refine PickK.f ?_); (conv => whnf))
          refine Wp.cond rfl (fun h => by cases h) (fun _ => ?_)
          (conv => whnf); repeat ((first | refine RngK.mk (by omega) (by omega) ?_ | refine NzK.mk (by omega) ?_ | refine NnK.mk (by omega) ?_ | refine BdK.mk (by omega) (by omega) (by omega) ?_ | refine InsK.lit (by omega) (by omega) ?_ | refine SpK.lit ?_ | refine GrdK.same ?_ | refine GrdK.tf ?_ | refine GrdK.ft ?_ | refine PickK.t ?_ | refine PickK.f ?_); (conv => whnf))
          exact ⟨(g, k + 3, off5, cnt5), ⟨rfl, rfl, rfl, rfl, rfl, rfl, rfl, rfl, rfl, rfl, rfl, by show some (vI _) = some (vN _); congr 2, trivial⟩, HSub.refl _, ⟨f1, by simp only; omega, i5, i2, i3, i4, by simp only; omega⟩, by simp only; omega⟩
        · have h : ((bitsN (num bs) (8 * off4 - cnt4) 2 : Nat) : Int) ≠ 3 := eqF h
          (conv => whnf); repeat ((first | refine RngK.mk (by omega) (by omega) ?_ | refine NzK.mk (by omega) ?_ | refine NnK.mk (by omega) ?_ | refine BdK.mk (by omega) (by omega) (by omega) ?_ | refine InsK.lit (by omega) (by omega) ?_ | refine SpK.lit ?_ | refine GrdK.same ?_ | refine GrdK.tf ?_ | refine GrdK.ft ?_ | refine PickK.t ?_ | refine PickK.f ?_); (conv => whnf))
          exact ⟨(g, k, off4, cnt4), ⟨rfl, rfl, rfl, rfl, rfl, rfl, rfl, rfl, rfl, rfl, rfl, rfl, trivial⟩, HSub.refl _, ⟨f1, f2, f3, f4, f5, f6, f7⟩, by simp only; omega⟩
      dsimp only at f1 f2 f3 f4 f5 f6 f7 f8 ⊢
      obtain ⟨g, rfl⟩ : ∃ g', g = g' + 1 := ⟨g - 1, by omega⟩
      rw [flags, if_neg f8] at f1
      have hb2 := bitsN_lt (num bs) (8 * off4 - cnt4) 2
      rw [← f1] at hIr
      simp only at hIr
      (conv => whnf); repeat ((first | refine RngK.mk (by omega) (by omega) ?_ | refine NzK.mk (by omega) ?_ | refine NnK.mk (by omega) ?_ | refine BdK.mk (by omega) (by omega) (by omega) ?_ | refine InsK.lit (by omega) (by omega) ?_ | refine SpK.lit ?_ | refine GrdK.same ?_ | refine GrdK.tf ?_ | refine GrdK.ft ?_ | refine PickK.t ?_ | refine PickK.f ?_); (conv => whnf))
      refine CallK.of [0] (val_spec br r A bs.length c (num bs) off4 cnt4 2 (by omega) f4 f6) rfl (fun _ _ => trivial) ?_
      rintro _ _ ⟨rfl, rfl⟩
      obtain ⟨b2, hb2e⟩ : ∃ b2, bitsN (num bs) (8 * off4 - cnt4) 2 = b2 := ⟨_, rfl⟩
      rw [hb2e] at hIr hb2 ⊢
      (conv => whnf); repeat ((first | refine RngK.mk (by omega) (by omega) ?_ | refine NzK.mk (by omega) ?_ | refine NnK.mk (by omega) ?_ | refine BdK.mk (by omega) (by omega) (by omega) ?_ | refine InsK.lit (by omega) (by omega) ?_ | refine SpK.lit ?_ | refine GrdK.same ?_ | refine GrdK.tf ?_ | refine GrdK.ft ?_ | refine PickK.t ?_ | refine PickK.f ?_); (conv => whnf))
      have ez : ((cs.length + k : Nat) : Int) + ((b2 : Nat) : Int) = ((cs.length + (k + b2) : Nat) : Int) := by omega
      rw [ez]
      obtain ⟨kk, hkk⟩ : ∃ kk, k + b2 = kk := ⟨_, rfl⟩
      rw [hkk] at hIr ⊢
      refine Wp.cond rfl (fun h => ?_) (fun h => ?_)
      · have h : ((cs.length + kk : Nat) : Int) > ((most : Nat) : Int) := dT h
        rw [if_pos (by omega)] at hIr
        obtain rfl := hnone hIr.symm
        (conv => whnf); repeat ((first | refine RngK.mk (by omega) (by omega) ?_ | refine NzK.mk (by omega) ?_ | refine NnK.mk (by omega) ?_ | refine BdK.mk (by omega) (by omega) (by omega) ?_ | refine InsK.lit (by omega) (by omega) ?_ | refine SpK.lit ?_ | refine GrdK.same ?_ | refine GrdK.tf ?_ | refine GrdK.ft ?_ | refine PickK.t ?_ | refine PickK.f ?_); (conv => whnf))
        refine CallK.of [0] (brErr_spec br r A bs.length c off4 _ (cnt4 - 2) _ e u (by omega)) rfl (fun w hw => ⟨hp.la.pass hw, hp.rr.pass hw⟩) ?_
        rintro _ _ ⟨⟨T0, x0, rfl⟩, rfl⟩
        (conv => whnf); repeat ((first | refine RngK.mk (by omega) (by omega) ?_ | refine NzK.mk (by omega) ?_ | refine NnK.mk (by omega) ?_ | refine BdK.mk (by omega) (by omega) (by omega) ?_ | refine InsK.lit (by omega) (by omega) ?_ | refine SpK.lit ?_ | refine GrdK.same ?_ | refine GrdK.tf ?_ | refine GrdK.ft ?_ | refine PickK.t ?_ | refine PickK.f ?_); (conv => whnf))
        exact ⟨_, HSub.of [2] rfl, T0, x0, rfl, rfl⟩
      have h' : ¬ ((cs.length + kk : Nat) : Int) > ((most : Nat) : Int) := dF h
      clear h
      rw [if_neg (by omega)] at hIr
      (conv => whnf); repeat ((first | refine RngK.mk (by omega) (by omega) ?_ | refine NzK.mk (by omega) ?_ | refine NnK.mk (by omega) ?_ | refine BdK.mk (by omega) (by omega) (by omega) ?_ | refine InsK.lit (by omega) (by omega) ?_ | refine SpK.lit ?_ | refine GrdK.same ?_ | refine GrdK.tf ?_ | refine GrdK.ft ?_ | refine PickK.t ?_ | refine PickK.f ?_); (conv => whnf))
      refine Wp.cutEx 6 (fun _ : Unit => [(0, .pointer (some ⟨r, 0, none⟩)), (2, vN off), (3, vN most), (5, .slice T m mc), (15, .pointer (some ⟨br, 0, none⟩)), (17, vN b), (18, vN (left + 1)), (19, vN (2 ^ (wd (left + 1) - 1))), (20, vN (wd (left + 1))), (21, vN (cs.length + kk)), (23, .pointer (some ⟨nb, 0, none⟩))])
        (fun _ => [.blk br 144 (brc r A bs.length c off4 (bitsN (num bs) (8 * off4 - (cnt4 - 2)) (cnt4 - 2)) (cnt4 - 2)), .blk nb 149 ((normC (cs ++ List.replicate kk 0)).map vS16), .own T m mc 132 3 (flE (List.replicate m (0, 0, 0)))])
        (fun _ => True) ?_ fun _ _ => ?_
      · refine Wp.loop (fun j : Nat => [(0, .pointer (some ⟨r, 0, none⟩)), (2, vN off), (3, vN most), (5, .slice T m mc), (15, .pointer (some ⟨br, 0, none⟩)), (17, vN b), (18, vN (left + 1)), (19, vN (2 ^ (wd (left + 1) - 1))), (20, vN (wd (left + 1))), (21, vN (cs.length + j)), (23, .pointer (some ⟨nb, 0, none⟩)), (25, vN (cs.length + kk))])
          (fun j => [.blk br 144 (brc r A bs.length c off4 (bitsN (num bs) (8 * off4 - (cnt4 - 2)) (cnt4 - 2)) (cnt4 - 2)), .blk nb 149 ((normC (cs ++ List.replicate j 0)).map vS16), .own T m mc 132 3 (flE (List.replicate m (0, 0, 0)))])
          (fun j => j ≤ kk) (fun j => kk - j) 0 ⟨rfl, rfl, rfl, rfl, rfl, rfl, rfl, rfl, rfl, rfl, rfl, rfl, trivial⟩ (by rw [List.replicate_zero, List.append_nil]; exact HSub.refl _) (Nat.zero_le _) fun j hj => ?_
        (conv => whnf); repeat ((first | refine RngK.mk (by omega) (by omega) ?_ | refine NzK.mk (by omega) ?_ | refine NnK.mk (by omega) ?_ | refine BdK.mk (by omega) (by omega) (by omega) ?_ | refine InsK.lit (by omega) (by omega) ?_ | refine SpK.lit ?_ | refine GrdK.same ?_ | refine GrdK.tf ?_ | refine GrdK.ft ?_ | refine PickK.t ?_ | refine PickK.f ?_); (conv => whnf))
        refine Wp.cond rfl (fun h => ?_) (fun h => ?_)
        · have h := dT h
          have hjl : (cs ++ List.replicate j 0).length = cs.length + j := by simp
          have hset := normC_set (cs := cs ++ List.replicate j 0) (by rw [hjl]; omega) 0
          rw [hjl, rep_snoc] at hset
          have hnl := normC_len (cs := cs ++ List.replicate j 0) (by rw [hjl]; omega)
          have ei : IntKind.u8.wrap ((cs.length + j : Nat) : Int) = ((cs.length + j : Nat) : Int) := wrap_u_lt rfl (by show cs.length + j < 256; omega)
          (conv => whnf); repeat ((first | refine RngK.mk (by omega) (by omega) ?_ | refine NzK.mk (by omega) ?_ | refine NnK.mk (by omega) ?_ | refine BdK.mk (by omega) (by omega) (by omega) ?_ | refine InsK.lit (by omega) (by omega) ?_ | refine SpK.lit ?_ | refine GrdK.same ?_ | refine GrdK.tf ?_ | refine GrdK.ft ?_ | refine PickK.t ?_ | refine PickK.f ?_); (conv => whnf))
          rw [ei]
          (conv => whnf); repeat ((first | refine RngK.mk (by omega) (by omega) ?_ | refine NzK.mk (by omega) ?_ | refine NnK.mk (by omega) ?_ | refine BdK.mk (by omega) (by omega) (by omega) ?_ | refine InsK.lit (by omega) (by omega) ?_ | refine SpK.lit ?_ | refine GrdK.same ?_ | refine GrdK.tf ?_ | refine GrdK.ft ?_ | refine PickK.t ?_ | refine PickK.f ?_); (conv => whnf))
          refine StK.blkE 1 ((normC (cs ++ List.replicate (j + 1) 0)).map vS16) rfl rfl rfl rfl (by simp [hnl]; omega) (by rw [← hset, List.map_set, Nat.zero_add]; rfl) ?_
          (conv => whnf); repeat ((first | refine RngK.mk (by omega) (by omega) ?_ | refine NzK.mk (by omega) ?_ | refine NnK.mk (by omega) ?_ | refine BdK.mk (by omega) (by omega) (by omega) ?_ | refine InsK.lit (by omega) (by omega) ?_ | refine SpK.lit ?_ | refine GrdK.same ?_ | refine GrdK.tf ?_ | refine GrdK.ft ?_ | refine PickK.t ?_ | refine PickK.f ?_); (conv => whnf))
          exact ⟨j + 1, ⟨rfl, rfl, rfl, rfl, rfl, rfl, rfl, rfl, rfl, rfl, rfl, rfl, trivial⟩, HSub.refl _, by omega, by omega⟩
        · have h : ¬ ((cs.length + j : Nat) : Int) < ((cs.length + kk : Nat) : Int) := dF h
          have hjk : j = kk := by omega
          subst hjk
          (conv => whnf); repeat ((first | refine RngK.mk (by omega) (by omega) ?_ | refine NzK.mk (by omega) ?_ | refine NnK.mk (by omega) ?_ | refine BdK.mk (by omega) (by omega) (by omega) ?_ | refine InsK.lit (by omega) (by omega) ?_ | refine SpK.lit ?_ | refine GrdK.same ?_ | refine GrdK.tf ?_ | refine GrdK.ft ?_ | refine PickK.t ?_ | refine PickK.f ?_); (conv => whnf))
          exact ⟨(), ⟨rfl, rfl, rfl, rfl, rfl, rfl, rfl, rfl, rfl, rfl, rfl, trivial⟩, HSub.refl _, trivial⟩
      (conv => whnf); repeat ((first | refine RngK.mk (by omega) (by omega) ?_ | refine NzK.mk (by omega) ?_ | refine NnK.mk (by omega) ?_ | refine BdK.mk (by omega) (by omega) (by omega) ?_ | refine InsK.lit (by omega) (by omega) ?_ | refine SpK.lit ?_ | refine GrdK.same ?_ | refine GrdK.tf ?_ | refine GrdK.ft ?_ | refine PickK.t ?_ | refine PickK.f ?_); (conv => whnf))
      refine ⟨⟨f, false, left, cs ++ List.replicate kk 0, off4, cnt4 - 2⟩, ⟨rfl, rfl, rfl, rfl, rfl, rfl, rfl, rfl, rfl, by show some (vN _) = some (vN _); simp, rfl, rfl, trivial⟩, HSub.refl _, ⟨?_, ?_, by dsimp only; omega, f5, by dsimp only; omega, hle, by simp; omega⟩, by dsimp only; omega⟩
      · dsimp only
        rw [← hIr]
        congr 1
        omega
      · simp
        omega
    | false =>
      refine Wp.cond rfl (fun h => by cases h) (fun _ => ?_)
      rw [if_neg (by simp)] at hIr
      have hfu2 : 2 * (most + 1 - cs.length) ≤ f := by simpa using hfu
      obtain ⟨cv1, cv2, cv3⟩ := cntV_le (num bs) (8 * off3 - cnt3) left
      obtain ⟨rv1, rv2, rv3, rv4, rv5⟩ := rN_intV cv1 (by omega)
      obtain ⟨w1, w2, w3, w4⟩ := wd_around left
      have w10 : wd (left + 1) ≤ 10 := wd_lt (by omega)
      have hcv : cntV (num bs) (8 * off3 - cnt3) left = if bitsN (num bs) (8 * off3 - cnt3) (wd (left + 1) - 1) < 2 ^ wd (left + 1) - 2 - left then (bitsN (num bs) (8 * off3 - cnt3) (wd (left + 1) - 1), wd (left + 1) - 1)
        else (if 2 ^ (wd (left + 1) - 1) ≤ bitsN (num bs) (8 * off3 - cnt3) (wd (left + 1)) then bitsN (num bs) (8 * off3 - cnt3) (wd (left + 1)) - (2 ^ wd (left + 1) - 2 - left) else bitsN (num bs) (8 * off3 - cnt3) (wd (left + 1)), wd (left + 1)) := rfl
      obtain ⟨cv, hcve⟩ : ∃ cv, cntV (num bs) (8 * off3 - cnt3) left = cv := ⟨_, rfl⟩
      rw [hcve] at hIr cv1 cv2 cv3 rv1 rv2 rv3 rv4 rv5 hcv
      obtain ⟨w, hw⟩ : ∃ w, wd (left + 1) = w := ⟨_, rfl⟩
      rw [hw] at cv2 cv3 w1 w2 w3 w4 w10 hcv ⊢
      have bl1 := bitsN_lt (num bs) (8 * off3 - cnt3) (w - 1)
      have bl2 := bitsN_lt (num bs) (8 * off3 - cnt3) w
      have ewr1 : IntKind.u32.wrap (((2 ^ (w - 1) : Nat) : Int) - 1) = ((2 ^ (w - 1) - 1 : Nat) : Int) := by rw [IntWalk.u32_in _ (by omega)]; omega
      have ewr2 : IntKind.u32.wrap (2 * ((2 ^ (w - 1) : Nat) : Int) - 1) = ((2 ^ w - 1 : Nat) : Int) := by rw [IntWalk.u32_in _ (by omega)]; omega
      have ebl1 := bits_low (N := num bs) (p := 8 * off3 - cnt3) (q := w - 1) (c := cnt3) (by omega) j4
      have ebl2 := bits_low (N := num bs) (p := 8 * off3 - cnt3) (q := w) (c := cnt3) (by omega) j4
      (conv => whnf); repeat ((first | refine RngK.mk (by omega) (by omega) ?_ | refine NzK.mk (by omega) ?_ | refine NnK.mk (by omega) ?_ | refine BdK.mk (by omega) (by omega) (by omega) ?_ | refine InsK.lit (by omega) (by omega) ?_ | refine SpK.lit ?_ | refine GrdK.same ?_ | refine GrdK.tf ?_ | refine GrdK.ft ?_ | refine PickK.t ?_ | refine PickK.f ?_); (conv => whnf))
      refine LdK.blk 0 rfl rfl rfl rfl ?_
      (conv => whnf); repeat ((first | refine RngK.mk (by omega) (by omega) ?_ | refine NzK.mk (by omega) ?_ | refine NnK.mk (by omega) ?_ | refine BdK.mk (by omega) (by omega) (by omega) ?_ | refine InsK.lit (by omega) (by omega) ?_ | refine SpK.lit ?_ | refine GrdK.same ?_ | refine GrdK.tf ?_ | refine GrdK.ft ?_ | refine PickK.t ?_ | refine PickK.f ?_); (conv => whnf))
      rw [ewr1, ebl1]
      (conv => whnf); repeat ((first | refine RngK.mk (by omega) (by omega) ?_ | refine NzK.mk (by omega) ?_ | refine NnK.mk (by omega) ?_ | refine BdK.mk (by omega) (by omega) (by omega) ?_ | refine InsK.lit (by omega) (by omega) ?_ | refine SpK.lit ?_ | refine GrdK.same ?_ | refine GrdK.tf ?_ | refine GrdK.ft ?_ | refine PickK.t ?_ | refine PickK.f ?_); (conv => whnf))
      refine Wp.cut (fun _ : Unit => [(0, .pointer (some ⟨r, 0, none⟩)), (2, vN off), (3, vN most), (5, .slice T m mc), (15, .pointer (some ⟨br, 0, none⟩)), (17, vN b), (18, vN (left + 1)), (19, vN (2 ^ (w - 1))), (20, vN w), (21, vN cs.length), (23, .pointer (some ⟨nb, 0, none⟩)), (29, vN cv.1)])
        (fun _ => [.blk br 144 (brc r A bs.length c off3 (bitsN (num bs) (8 * off3 - (cnt3 - cv.2)) (cnt3 - cv.2)) (cnt3 - cv.2)), .blk nb 149 ((normC cs).map vS16), .own T m mc 132 3 (flE (List.replicate m (0, 0, 0)))])
        (fun _ => True) ?_ fun _ _ => ?_
      · refine Wp.cond rfl (fun h => ?_) (fun h => ?_)
        · have h := dT h
          rw [if_pos (by omega)] at hcv
          subst hcv
          have eq1 : ((w : Nat) : Int) - 1 = ((w - 1 : Nat) : Int) := by omega
          (conv => whnf); repeat ((first | refine RngK.mk (by omega) (by omega) ?_ | refine NzK.mk (by omega) ?_ | refine NnK.mk (by omega) ?_ | refine BdK.mk (by omega) (by omega) (by omega) ?_ | refine InsK.lit (by omega) (by omega) ?_ | refine SpK.lit ?_ | refine GrdK.same ?_ | refine GrdK.tf ?_ | refine GrdK.ft ?_ | refine PickK.t ?_ | refine PickK.f ?_); (conv => whnf))
          refine LdK.blk 0 rfl rfl rfl rfl ?_
          (conv => whnf); repeat ((first | refine RngK.mk (by omega) (by omega) ?_ | refine NzK.mk (by omega) ?_ | refine NnK.mk (by omega) ?_ | refine BdK.mk (by omega) (by omega) (by omega) ?_ | refine InsK.lit (by omega) (by omega) ?_ | refine SpK.lit ?_ | refine GrdK.same ?_ | refine GrdK.tf ?_ | refine GrdK.ft ?_ | refine PickK.t ?_ | refine PickK.f ?_); (conv => whnf))
          rw [ewr1, ebl1]
          (conv => whnf); repeat ((first | refine RngK.mk (by omega) (by omega) ?_ | refine NzK.mk (by omega) ?_ | refine NnK.mk (by omega) ?_ | refine BdK.mk (by omega) (by omega) (by omega) ?_ | refine InsK.lit (by omega) (by omega) ?_ | refine SpK.lit ?_ | refine GrdK.same ?_ | refine GrdK.tf ?_ | refine GrdK.ft ?_ | refine PickK.t ?_ | refine PickK.f ?_); (conv => whnf))
          refine LdK.blk 0 rfl rfl rfl rfl ?_
          (conv => whnf); repeat ((first | refine RngK.mk (by omega) (by omega) ?_ | refine NzK.mk (by omega) ?_ | refine NnK.mk (by omega) ?_ | refine BdK.mk (by omega) (by omega) (by omega) ?_ | refine InsK.lit (by omega) (by omega) ?_ | refine SpK.lit ?_ | refine GrdK.same ?_ | refine GrdK.tf ?_ | refine GrdK.ft ?_ | refine PickK.t ?_ | refine PickK.f ?_); (conv => whnf))
          rw [eq1]
          (conv => whnf); repeat ((first | refine RngK.mk (by omega) (by omega) ?_ | refine NzK.mk (by omega) ?_ | refine NnK.mk (by omega) ?_ | refine BdK.mk (by omega) (by omega) (by omega) ?_ | refine InsK.lit (by omega) (by omega) ?_ | refine SpK.lit ?_ | refine GrdK.same ?_ | refine GrdK.tf ?_ | refine GrdK.ft ?_ | refine PickK.t ?_ | refine PickK.f ?_); (conv => whnf))
          refine StK.blkE 0 (brc r A bs.length c off3 (bitsN (num bs) (8 * off3 - (cnt3 - (w - 1))) (cnt3 - (w - 1))) cnt3) rfl rfl rfl rfl (Nat.le_of_ble_eq_true rfl) ?_ ?_
          · show [_, _, _, Value.int .u32 _, _] = [_, _, _, Value.int .u32 _, _]
            rw [bits_shr (q := w - 1) (by omega) j2 j4]
          (conv => whnf); repeat ((first | refine RngK.mk (by omega) (by omega) ?_ | refine NzK.mk (by omega) ?_ | refine NnK.mk (by omega) ?_ | refine BdK.mk (by omega) (by omega) (by omega) ?_ | refine InsK.lit (by omega) (by omega) ?_ | refine SpK.lit ?_ | refine GrdK.same ?_ | refine GrdK.tf ?_ | refine GrdK.ft ?_ | refine PickK.t ?_ | refine PickK.f ?_); (conv => whnf))
          refine LdK.blk 0 rfl rfl rfl rfl ?_
          (conv => whnf); repeat ((first | refine RngK.mk (by omega) (by omega) ?_ | refine NzK.mk (by omega) ?_ | refine NnK.mk (by omega) ?_ | refine BdK.mk (by omega) (by omega) (by omega) ?_ | refine InsK.lit (by omega) (by omega) ?_ | refine SpK.lit ?_ | refine GrdK.same ?_ | refine GrdK.tf ?_ | refine GrdK.ft ?_ | refine PickK.t ?_ | refine PickK.f ?_); (conv => whnf))
          refine StK.blkE 0 (brc r A bs.length c off3 (bitsN (num bs) (8 * off3 - (cnt3 - (w - 1))) (cnt3 - (w - 1))) (cnt3 - (w - 1))) rfl rfl rfl rfl (Nat.le_of_ble_eq_true rfl) ?_ ?_
          · show [_, _, _, _, Value.int .u32 _] = [_, _, _, _, Value.int .u32 _]
            have e5 : ((cnt3 : Nat) : Int) - (((w : Nat) : Int) - 1) = ((cnt3 - (w - 1) : Nat) : Int) := by omega
            rw [IntWalk.u32_in (((w : Nat) : Int) - 1) (by omega), IntWalk.u32_in _ (by omega), e5]
          (conv => whnf); repeat ((first | refine RngK.mk (by omega) (by omega) ?_ | refine NzK.mk (by omega) ?_ | refine NnK.mk (by omega) ?_ | refine BdK.mk (by omega) (by omega) (by omega) ?_ | refine InsK.lit (by omega) (by omega) ?_ | refine SpK.lit ?_ | refine GrdK.same ?_ | refine GrdK.tf ?_ | refine GrdK.ft ?_ | refine PickK.t ?_ | refine PickK.f ?_); (conv => whnf))
          exact ⟨(), ⟨rfl, rfl, rfl, rfl, rfl, rfl, rfl, rfl, rfl, rfl, rfl, rfl, trivial⟩, HSub.refl _, trivial⟩
        · have h := dF h
          rw [if_neg (by omega)] at hcv
          (conv => whnf); repeat ((first | refine RngK.mk (by omega) (by omega) ?_ | refine NzK.mk (by omega) ?_ | refine NnK.mk (by omega) ?_ | refine BdK.mk (by omega) (by omega) (by omega) ?_ | refine InsK.lit (by omega) (by omega) ?_ | refine SpK.lit ?_ | refine GrdK.same ?_ | refine GrdK.tf ?_ | refine GrdK.ft ?_ | refine PickK.t ?_ | refine PickK.f ?_); (conv => whnf))
          refine LdK.blk 0 rfl rfl rfl rfl ?_
          (conv => whnf); repeat ((first | refine RngK.mk (by omega) (by omega) ?_ | refine NzK.mk (by omega) ?_ | refine NnK.mk (by omega) ?_ | refine BdK.mk (by omega) (by omega) (by omega) ?_ | refine InsK.lit (by omega) (by omega) ?_ | refine SpK.lit ?_ | refine GrdK.same ?_ | refine GrdK.tf ?_ | refine GrdK.ft ?_ | refine PickK.t ?_ | refine PickK.f ?_); (conv => whnf))
          rw [ewr2, ebl2]
          (conv => whnf); repeat ((first | refine RngK.mk (by omega) (by omega) ?_ | refine NzK.mk (by omega) ?_ | refine NnK.mk (by omega) ?_ | refine BdK.mk (by omega) (by omega) (by omega) ?_ | refine InsK.lit (by omega) (by omega) ?_ | refine SpK.lit ?_ | refine GrdK.same ?_ | refine GrdK.tf ?_ | refine GrdK.ft ?_ | refine PickK.t ?_ | refine PickK.f ?_); (conv => whnf))
          obtain ⟨y, hy⟩ : ∃ y, bitsN (num bs) (8 * off3 - cnt3) w = y := ⟨_, rfl⟩
          rw [hy] at hcv bl2 ⊢
          refine Wp.cut (fun _ : Unit => [(0, .pointer (some ⟨r, 0, none⟩)), (2, vN off), (3, vN most), (5, .slice T m mc), (15, .pointer (some ⟨br, 0, none⟩)), (17, vN b), (18, vN (left + 1)), (19, vN (2 ^ (w - 1))), (20, vN w), (21, vN cs.length), (23, .pointer (some ⟨nb, 0, none⟩)), (29, vN cv.1)])
            (fun _ => [.blk br 144 (brc r A bs.length c off3 (bitsN (num bs) (8 * off3 - cnt3) cnt3) cnt3), .blk nb 149 ((normC cs).map vS16), .own T m mc 132 3 (flE (List.replicate m (0, 0, 0)))])
            (fun _ => True) ?_ fun _ _ => ?_
          · refine Wp.cond rfl (fun h2 => ?_) (fun h2 => ?_)
            · have h2 : ((y : Nat) : Int) ≥ ((2 ^ (w - 1) : Nat) : Int) := dT h2
              rw [if_pos (by omega)] at hcv
              subst hcv
              (conv => whnf); repeat ((first | refine RngK.mk (by omega) (by omega) ?_ | refine NzK.mk (by omega) ?_ | refine NnK.mk (by omega) ?_ | refine BdK.mk (by omega) (by omega) (by omega) ?_ | refine InsK.lit (by omega) (by omega) ?_ | refine SpK.lit ?_ | refine GrdK.same ?_ | refine GrdK.tf ?_ | refine GrdK.ft ?_ | refine PickK.t ?_ | refine PickK.f ?_); (conv => whnf))
              exact ⟨(), ⟨rfl, rfl, rfl, rfl, rfl, rfl, rfl, rfl, rfl, rfl, rfl, by show some (vI _) = some (vN _); congr 2; omega, trivial⟩, HSub.refl _, trivial⟩
            · have h2 : ¬ ((y : Nat) : Int) ≥ ((2 ^ (w - 1) : Nat) : Int) := dF h2
              rw [if_neg (by omega)] at hcv
              subst hcv
              (conv => whnf); repeat ((first | refine RngK.mk (by omega) (by omega) ?_ | refine NzK.mk (by omega) ?_ | refine NnK.mk (by omega) ?_ | refine BdK.mk (by omega) (by omega) (by omega) ?_ | refine InsK.lit (by omega) (by omega) ?_ | refine SpK.lit ?_ | refine GrdK.same ?_ | refine GrdK.tf ?_ | refine GrdK.ft ?_ | refine PickK.t ?_ | refine PickK.f ?_); (conv => whnf))
              exact ⟨(), ⟨rfl, rfl, rfl, rfl, rfl, rfl, rfl, rfl, rfl, rfl, rfl, rfl, trivial⟩, HSub.refl _, trivial⟩
          have hc2 : cv.2 = w := by rw [hcv]
          rw [hc2]
          (conv => whnf); repeat ((first | refine RngK.mk (by omega) (by omega) ?_ | refine NzK.mk (by omega) ?_ | refine NnK.mk (by omega) ?_ | refine BdK.mk (by omega) (by omega) (by omega) ?_ | refine InsK.lit (by omega) (by omega) ?_ | refine SpK.lit ?_ | refine GrdK.same ?_ | refine GrdK.tf ?_ | refine GrdK.ft ?_ | refine PickK.t ?_ | refine PickK.f ?_); (conv => whnf))
          refine LdK.blk 0 rfl rfl rfl rfl ?_
          (conv => whnf); repeat ((first | refine RngK.mk (by omega) (by omega) ?_ | refine NzK.mk (by omega) ?_ | refine NnK.mk (by omega) ?_ | refine BdK.mk (by omega) (by omega) (by omega) ?_ | refine InsK.lit (by omega) (by omega) ?_ | refine SpK.lit ?_ | refine GrdK.same ?_ | refine GrdK.tf ?_ | refine GrdK.ft ?_ | refine PickK.t ?_ | refine PickK.f ?_); (conv => whnf))
          refine StK.blkE 0 (brc r A bs.length c off3 (bitsN (num bs) (8 * off3 - (cnt3 - w)) (cnt3 - w)) cnt3) rfl rfl rfl rfl (Nat.le_of_ble_eq_true rfl) ?_ ?_
          · show [_, _, _, Value.int .u32 _, _] = [_, _, _, Value.int .u32 _, _]
            rw [bits_shr (q := w) (by omega) j2 j4]
          (conv => whnf); repeat ((first | refine RngK.mk (by omega) (by omega) ?_ | refine NzK.mk (by omega) ?_ | refine NnK.mk (by omega) ?_ | refine BdK.mk (by omega) (by omega) (by omega) ?_ | refine InsK.lit (by omega) (by omega) ?_ | refine SpK.lit ?_ | refine GrdK.same ?_ | refine GrdK.tf ?_ | refine GrdK.ft ?_ | refine PickK.t ?_ | refine PickK.f ?_); (conv => whnf))
          refine LdK.blk 0 rfl rfl rfl rfl ?_
          (conv => whnf); repeat ((first | refine RngK.mk (by omega) (by omega) ?_ | refine NzK.mk (by omega) ?_ | refine NnK.mk (by omega) ?_ | refine BdK.mk (by omega) (by omega) (by omega) ?_ | refine InsK.lit (by omega) (by omega) ?_ | refine SpK.lit ?_ | refine GrdK.same ?_ | refine GrdK.tf ?_ | refine GrdK.ft ?_ | refine PickK.t ?_ | refine PickK.f ?_); (conv => whnf))
          refine StK.blkE 0 (brc r A bs.length c off3 (bitsN (num bs) (8 * off3 - (cnt3 - w)) (cnt3 - w)) (cnt3 - w)) rfl rfl rfl rfl (Nat.le_of_ble_eq_true rfl) ?_ ?_
          · show [_, _, _, _, Value.int .u32 _] = [_, _, _, _, Value.int .u32 _]
            have e5 : ((cnt3 : Nat) : Int) - ((w : Nat) : Int) = ((cnt3 - w : Nat) : Int) := by omega
            rw [IntWalk.u32_in ((w : Nat) : Int) (by omega), IntWalk.u32_in _ (by omega), e5]
          (conv => whnf); repeat ((first | refine RngK.mk (by omega) (by omega) ?_ | refine NzK.mk (by omega) ?_ | refine NnK.mk (by omega) ?_ | refine BdK.mk (by omega) (by omega) (by omega) ?_ | refine InsK.lit (by omega) (by omega) ?_ | refine SpK.lit ?_ | refine GrdK.same ?_ | refine GrdK.tf ?_ | refine GrdK.ft ?_ | refine PickK.t ?_ | refine PickK.f ?_); (conv => whnf))
          exact ⟨(), ⟨rfl, rfl, rfl, rfl, rfl, rfl, rfl, rfl, rfl, rfl, rfl, rfl, trivial⟩, HSub.refl _, trivial⟩
      obtain ⟨cvv, cvu⟩ := cv
      dsimp only at hIr cv1 cv2 cv3 rv1 rv2 rv3 rv4 rv5 ⊢
      clear hcv hcve
      obtain ⟨l2, hl2⟩ : ∃ l2, left - rN (intV cvv) = l2 := ⟨_, rfl⟩
      rw [hl2] at hIr
      (conv => whnf); repeat ((first | refine RngK.mk (by omega) (by omega) ?_ | refine NzK.mk (by omega) ?_ | refine NnK.mk (by omega) ?_ | refine BdK.mk (by omega) (by omega) (by omega) ?_ | refine InsK.lit (by omega) (by omega) ?_ | refine SpK.lit ?_ | refine GrdK.same ?_ | refine GrdK.tf ?_ | refine GrdK.ft ?_ | refine PickK.t ?_ | refine PickK.f ?_); (conv => whnf))
      refine Wp.cut (fun _ : Unit => [(0, .pointer (some ⟨r, 0, none⟩)), (2, vN off), (3, vN most), (5, .slice T m mc), (15, .pointer (some ⟨br, 0, none⟩)), (17, vN b), (18, vN (l2 + 1)), (19, vN (2 ^ (w - 1))), (20, vN w), (21, vN cs.length), (23, .pointer (some ⟨nb, 0, none⟩)), (29, vI (intV cvv))])
        (fun _ => [.blk br 144 (brc r A bs.length c off3 (bitsN (num bs) (8 * off3 - (cnt3 - cvu)) (cnt3 - cvu)) (cnt3 - cvu)), .blk nb 149 ((normC cs).map vS16), .own T m mc 132 3 (flE (List.replicate m (0, 0, 0)))])
        (fun _ => True) ?_ fun _ _ => ?_
      · have hrn : rN (intV cvv) = if intV cvv = -1 then 1 else (intV cvv).toNat := rfl
        have hiv : intV cvv = (cvv : Int) - 1 := rfl
        refine Wp.cond rfl (fun h2 => ?_) (fun h2 => ?_)
        · have h2 : ((cvv : Nat) : Int) - 1 ≥ 0 := dT h2
          rw [if_neg (by omega)] at hrn
          (conv => whnf); repeat ((first | refine RngK.mk (by omega) (by omega) ?_ | refine NzK.mk (by omega) ?_ | refine NnK.mk (by omega) ?_ | refine BdK.mk (by omega) (by omega) (by omega) ?_ | refine InsK.lit (by omega) (by omega) ?_ | refine SpK.lit ?_ | refine GrdK.same ?_ | refine GrdK.tf ?_ | refine GrdK.ft ?_ | refine PickK.t ?_ | refine PickK.f ?_); (conv => whnf))
          exact ⟨(), ⟨rfl, rfl, rfl, rfl, rfl, rfl, by show some (vI _) = some (vN _); congr 2; omega, rfl, rfl, rfl, rfl, rfl, trivial⟩, HSub.refl _, trivial⟩
        · have h2 : ¬ ((cvv : Nat) : Int) - 1 ≥ 0 := dF h2
          rw [if_pos (by omega)] at hrn
          (conv => whnf); repeat ((first | refine RngK.mk (by omega) (by omega) ?_ | refine NzK.mk (by omega) ?_ | refine NnK.mk (by omega) ?_ | refine BdK.mk (by omega) (by omega) (by omega) ?_ | refine InsK.lit (by omega) (by omega) ?_ | refine SpK.lit ?_ | refine GrdK.same ?_ | refine GrdK.tf ?_ | refine GrdK.ft ?_ | refine PickK.t ?_ | refine PickK.f ?_); (conv => whnf))
          exact ⟨(), ⟨rfl, rfl, rfl, rfl, rfl, rfl, by show some (vI _) = some (vN _); congr 2; omega, rfl, rfl, rfl, rfl, rfl, trivial⟩, HSub.refl _, trivial⟩
      obtain ⟨x, hx⟩ : ∃ x, intV cvv = x := ⟨_, rfl⟩
      rw [hx] at hIr rv1 rv2 rv3 rv4 rv5 hl2 ⊢
      have hset := normC_set (cs := cs) (by omega) x
      have hnl := normC_len (cs := cs) (by omega)
      have ei : IntKind.u8.wrap ((cs.length : Nat) : Int) = ((cs.length : Nat) : Int) := wrap_u_lt rfl (by show cs.length < 256; omega)
      have e16 : IntKind.i16.wrap x = x := IntWalk.i16_in _ (by omega)
      (conv => whnf); repeat ((first | refine RngK.mk (by omega) (by omega) ?_ | refine NzK.mk (by omega) ?_ | refine NnK.mk (by omega) ?_ | refine BdK.mk (by omega) (by omega) (by omega) ?_ | refine InsK.lit (by omega) (by omega) ?_ | refine SpK.lit ?_ | refine GrdK.same ?_ | refine GrdK.tf ?_ | refine GrdK.ft ?_ | refine PickK.t ?_ | refine PickK.f ?_); (conv => whnf))
      refine Wp.cond rfl (fun h2 => ?_) (fun h2 => ?_)
      · have h2 : ((cs.length : Nat) : Int) ≥ 256 := dT h2
        omega
      (conv => whnf); repeat ((first | refine RngK.mk (by omega) (by omega) ?_ | refine NzK.mk (by omega) ?_ | refine NnK.mk (by omega) ?_ | refine BdK.mk (by omega) (by omega) (by omega) ?_ | refine InsK.lit (by omega) (by omega) ?_ | refine SpK.lit ?_ | refine GrdK.same ?_ | refine GrdK.tf ?_ | refine GrdK.ft ?_ | refine PickK.t ?_ | refine PickK.f ?_); (conv => whnf))
      rw [ei, e16]
      (conv => whnf); repeat ((first | refine RngK.mk (by omega) (by omega) ?_ | refine NzK.mk (by omega) ?_ | refine NnK.mk (by omega) ?_ | refine BdK.mk (by omega) (by omega) (by omega) ?_ | refine InsK.lit (by omega) (by omega) ?_ | refine SpK.lit ?_ | refine GrdK.same ?_ | refine GrdK.tf ?_ | refine GrdK.ft ?_ | refine PickK.t ?_ | refine PickK.f ?_); (conv => whnf))
      refine StK.blkE 1 ((normC (cs ++ [x])).map vS16) rfl rfl rfl rfl (by simp [hnl]; omega) (by rw [← hset, List.map_set, Nat.zero_add]; rfl) ?_
      (conv => whnf); repeat ((first | refine RngK.mk (by omega) (by omega) ?_ | refine NzK.mk (by omega) ?_ | refine NnK.mk (by omega) ?_ | refine BdK.mk (by omega) (by omega) (by omega) ?_ | refine InsK.lit (by omega) (by omega) ?_ | refine SpK.lit ?_ | refine GrdK.same ?_ | refine GrdK.tf ?_ | refine GrdK.ft ?_ | refine PickK.t ?_ | refine PickK.f ?_); (conv => whnf))
      refine Wp.loop (fun w : Nat => [(0, .pointer (some ⟨r, 0, none⟩)), (2, vN off), (3, vN most), (5, .slice T m mc), (15, .pointer (some ⟨br, 0, none⟩)), (17, vN b), (18, vN (l2 + 1)), (19, vN (2 ^ (w - 1))), (20, vN w), (21, vN (cs.length + 1)), (22, vB (x == 0)), (23, .pointer (some ⟨nb, 0, none⟩))])
        (fun _ => [.blk br 144 (brc r A bs.length c off3 (bitsN (num bs) (8 * off3 - (cnt3 - cvu)) (cnt3 - cvu)) (cnt3 - cvu)), .blk nb 149 ((normC (cs ++ [x])).map vS16), .own T m mc 132 3 (flE (List.replicate m (0, 0, 0)))])
        (fun w => wd (l2 + 1) ≤ w ∧ w ≤ 10) (fun w => w) w ⟨rfl, rfl, rfl, rfl, rfl, rfl, rfl, rfl, rfl, rfl, rfl, rfl, trivial⟩ (HSub.refl _) ⟨wd_lt (by omega), w10⟩ fun w ⟨hw1, hw2⟩ => ?_
      obtain ⟨x1, x2, x3, x4⟩ := wd_around l2
      have hpw : 2 ^ (w - 1) ≤ 2 ^ 10 := Nat.pow_le_pow_right (by omega) (by omega)
      (conv => whnf); repeat ((first | refine RngK.mk (by omega) (by omega) ?_ | refine NzK.mk (by omega) ?_ | refine NnK.mk (by omega) ?_ | refine BdK.mk (by omega) (by omega) (by omega) ?_ | refine InsK.lit (by omega) (by omega) ?_ | refine SpK.lit ?_ | refine GrdK.same ?_ | refine GrdK.tf ?_ | refine GrdK.ft ?_ | refine PickK.t ?_ | refine PickK.f ?_); (conv => whnf))
      refine Wp.cond rfl (fun h2 => ?_) (fun h2 => ?_)
      · have h2 : ((l2 + 1 : Nat) : Int) < ((2 ^ (w - 1) : Nat) : Int) := dT h2
        have hw3 : wd (l2 + 1) ≤ w - 1 := wd_lt (by omega)
        have es : ishr .i64 ((2 ^ (w - 1) : Nat) : Int) 1 = ((2 ^ (w - 1 - 1) : Nat) : Int) := by
          have h := ishr_nat .i64 (2 ^ (w - 1)) (n := 1) (by decide)
          have e : 2 ^ (w - 1) / 2 ^ 1 = 2 ^ (w - 1 - 1) := by
            conv => lhs; rw [show w - 1 = (w - 1 - 1) + 1 by omega, Nat.pow_succ]
            simp
          rw [e] at h
          exact h
        (conv => whnf); repeat ((first | refine RngK.mk (by omega) (by omega) ?_ | refine NzK.mk (by omega) ?_ | refine NnK.mk (by omega) ?_ | refine BdK.mk (by omega) (by omega) (by omega) ?_ | refine InsK.lit (by omega) (by omega) ?_ | refine SpK.lit ?_ | refine GrdK.same ?_ | refine GrdK.tf ?_ | refine GrdK.ft ?_ | refine PickK.t ?_ | refine PickK.f ?_); (conv => whnf))
        rw [es]
        exact ⟨w - 1, ⟨rfl, rfl, rfl, rfl, rfl, rfl, rfl, rfl, by show some (vI _) = some (vN _); congr 2; omega, rfl, rfl, rfl, trivial⟩, HSub.refl _, ⟨hw3, by omega⟩, by omega⟩
      · have h2 : ¬ ((l2 + 1 : Nat) : Int) < ((2 ^ (w - 1) : Nat) : Int) := dF h2
        have hwe : w = wd (l2 + 1) := by
          have : ¬ 2 ^ wd (l2 + 1) ≤ 2 ^ (w - 1) := by omega
          have : ¬ wd (l2 + 1) ≤ w - 1 := fun hle => this (Nat.pow_le_pow_right (by omega) hle)
          omega
        subst hwe
        (conv => whnf); repeat ((first | refine RngK.mk (by omega) (by omega) ?_ | refine NzK.mk (by omega) ?_ | refine NnK.mk (by omega) ?_ | refine BdK.mk (by omega) (by omega) (by omega) ?_ | refine InsK.lit (by omega) (by omega) ?_ | refine SpK.lit ?_ | refine GrdK.same ?_ | refine GrdK.tf ?_ | refine GrdK.ft ?_ | refine PickK.t ?_ | refine PickK.f ?_); (conv => whnf))
        refine ⟨⟨f, x == 0, l2, cs ++ [x], off3, cnt3 - cvu⟩, ⟨rfl, rfl, rfl, rfl, rfl, rfl, rfl, rfl, rfl, by show some (vN _) = some (vN _); simp, rfl, rfl, trivial⟩, HSub.refl _, ⟨?_, ?_, by dsimp only; omega, j3, by dsimp only; omega, by dsimp only; omega, by simp; omega⟩, by dsimp only; omega⟩
        · dsimp only
          rw [← hIr]
          congr 1
          omega
        · dsimp only
          rw [List.length_append, List.length_singleton]
          split <;> omega
  obtain ⟨f, z, left, cs, off2, cnt2⟩ := s
  have hIr := hI.r
  have hfu := hI.fu
  have k1 := hI.c1
  have k2 := hI.c2
  have k3 := hI.c3
  have hle := hI.le
  have hln := hI.ln
  dsimp only at hIr hfu k1 k2 k3 hle hln hex ⊢
  obtain ⟨f, rfl⟩ : ∃ f', f = f' + 1 := ⟨f - 1, by omega⟩
  rw [rdS] at hIr
  (conv => whnf); repeat ((first | refine RngK.mk (by omega) (by omega) ?_ | refine NzK.mk (by omega) ?_ | refine NnK.mk (by omega) ?_ | refine BdK.mk (by omega) (by omega) (by omega) ?_ | refine InsK.lit (by omega) (by omega) ?_ | refine SpK.lit ?_ | refine GrdK.same ?_ | refine GrdK.tf ?_ | refine GrdK.ft ?_ | refine PickK.t ?_ | refine PickK.f ?_); (conv => whnf))
  by_cases h0 : left = 0
  rotate_left
  · rw [if_neg h0, if_pos (hex.resolve_left h0)] at hIr
    obtain rfl := hnone hIr.symm
    refine Wp.cond rfl (fun _ => ?_) (fun h => ?_)
    rotate_left
    · have h := neF h
      omega
    (conv => whnf); repeat ((first | refine RngK.mk (by omega) (by omega) ?_ | refine NzK.mk (by omega) ?_ | refine NnK.mk (by omega) ?_ | refine BdK.mk (by omega) (by omega) (by omega) ?_ | refine InsK.lit (by omega) (by omega) ?_ | refine SpK.lit ?_ | refine GrdK.same ?_ | refine GrdK.tf ?_ | refine GrdK.ft ?_ | refine PickK.t ?_ | refine PickK.f ?_); (conv => whnf))
    refine CallK.of [0] (brErr_spec br r A bs.length c off2 _ cnt2 _ e u (by omega)) rfl (fun w hw => ⟨hp.la.pass hw, hp.rr.pass hw⟩) ?_
    rintro _ _ ⟨⟨T0, x0, rfl⟩, rfl⟩
    (conv => whnf); repeat ((first | refine RngK.mk (by omega) (by omega) ?_ | refine NzK.mk (by omega) ?_ | refine NnK.mk (by omega) ?_ | refine BdK.mk (by omega) (by omega) (by omega) ?_ | refine InsK.lit (by omega) (by omega) ?_ | refine SpK.lit ?_ | refine GrdK.same ?_ | refine GrdK.tf ?_ | refine GrdK.ft ?_ | refine PickK.t ?_ | refine PickK.f ?_); (conv => whnf))
    exact ⟨_, HSub.of [2] rfl, T0, x0, rfl, rfl⟩
  subst h0
  rw [if_pos rfl] at hIr
  rw [← hIr] at hR0
  simp only at hR0
  subst hR0
  obtain ⟨q1, q2, q3, q4, q5, q6⟩ := hfacts _ _ _ rfl
  refine Wp.cond rfl (fun h => ?_) (fun _ => ?_)
  · have h := neT h
    omega
  (conv => whnf); repeat ((first | refine RngK.mk (by omega) (by omega) ?_ | refine NzK.mk (by omega) ?_ | refine NnK.mk (by omega) ?_ | refine BdK.mk (by omega) (by omega) (by omega) ?_ | refine InsK.lit (by omega) (by omega) ?_ | refine SpK.lit ?_ | refine GrdK.same ?_ | refine GrdK.tf ?_ | refine GrdK.ft ?_ | refine PickK.t ?_ | refine PickK.f ?_); (conv => whnf))
  refine Wp.cutEx 10 (fun _ : Unit => [(0, .pointer (some ⟨r, 0, none⟩)), (2, vN off), (3, vN most), (5, .slice T m mc), (15, .pointer (some ⟨br, 0, none⟩)), (17, vN b), (23, .pointer (some ⟨nb, 0, none⟩))])
    (fun _ => [.blk br 144 (brc r A bs.length c off2 (bitsN (num bs) (8 * off2 - cnt2) cnt2) cnt2), .blk nb 149 ((normC (cs ++ List.replicate (most + 1 - cs.length) 0)).map vS16), .own T m mc 132 3 (flE (List.replicate m (0, 0, 0)))])
    (fun _ => True) ?_ fun _ _ => ?_
  · refine Wp.loop (fun j : Nat => [(0, .pointer (some ⟨r, 0, none⟩)), (2, vN off), (3, vN most), (5, .slice T m mc), (15, .pointer (some ⟨br, 0, none⟩)), (17, vN b), (21, vN (cs.length + j)), (23, .pointer (some ⟨nb, 0, none⟩))])
      (fun j => [.blk br 144 (brc r A bs.length c off2 (bitsN (num bs) (8 * off2 - cnt2) cnt2) cnt2), .blk nb 149 ((normC (cs ++ List.replicate j 0)).map vS16), .own T m mc 132 3 (flE (List.replicate m (0, 0, 0)))])
      (fun j => j ≤ most + 1 - cs.length) (fun j => most + 1 - cs.length - j) 0 ⟨rfl, rfl, rfl, rfl, rfl, rfl, rfl, rfl, trivial⟩ (by rw [List.replicate_zero, List.append_nil]; exact HSub.refl _) (Nat.zero_le _) fun j hj => ?_
    (conv => whnf); repeat ((first | refine RngK.mk (by omega) (by omega) ?_ | refine NzK.mk (by omega) ?_ | refine NnK.mk (by omega) ?_ | refine BdK.mk (by omega) (by omega) (by omega) ?_ | refine InsK.lit (by omega) (by omega) ?_ | refine SpK.lit ?_ | refine GrdK.same ?_ | refine GrdK.tf ?_ | refine GrdK.ft ?_ | refine PickK.t ?_ | refine PickK.f ?_); (conv => whnf))
    refine Wp.cond rfl (fun h => ?_) (fun h => ?_)
    · have h : ((cs.length + j : Nat) : Int) ≤ ((most : Nat) : Int) := dT h
      have hjl : (cs ++ List.replicate j 0).length = cs.length + j := by simp
      have hset := normC_set (cs := cs ++ List.replicate j 0) (by rw [hjl]; omega) 0
      rw [hjl, rep_snoc] at hset
      have hnl := normC_len (cs := cs ++ List.replicate j 0) (by rw [hjl]; omega)
      have ei : IntKind.u8.wrap ((cs.length + j : Nat) : Int) = ((cs.length + j : Nat) : Int) := wrap_u_lt rfl (by show cs.length + j < 256; omega)
      (conv => whnf); repeat ((first | refine RngK.mk (by omega) (by omega) ?_ | refine NzK.mk (by omega) ?_ | refine NnK.mk (by omega) ?_ | refine BdK.mk (by omega) (by omega) (by omega) ?_ | refine InsK.lit (by omega) (by omega) ?_ | refine SpK.lit ?_ | refine GrdK.same ?_ | refine GrdK.tf ?_ | refine GrdK.ft ?_ | refine PickK.t ?_ | refine PickK.f ?_); (conv => whnf))
      rw [ei]
      (conv => whnf); repeat ((first | refine RngK.mk (by omega) (by omega) ?_ | refine NzK.mk (by omega) ?_ | refine NnK.mk (by omega) ?_ | refine BdK.mk (by omega) (by omega) (by omega) ?_ | refine InsK.lit (by omega) (by omega) ?_ | refine SpK.lit ?_ | refine GrdK.same ?_ | refine GrdK.tf ?_ | refine GrdK.ft ?_ | refine PickK.t ?_ | refine PickK.f ?_); (conv => whnf))
      refine StK.blkE 1 ((normC (cs ++ List.replicate (j + 1) 0)).map vS16) rfl rfl rfl rfl (by simp [hnl]; omega) (by rw [← hset, List.map_set, Nat.zero_add]; rfl) ?_
      (conv => whnf); repeat ((first | refine RngK.mk (by omega) (by omega) ?_ | refine NzK.mk (by omega) ?_ | refine NnK.mk (by omega) ?_ | refine BdK.mk (by omega) (by omega) (by omega) ?_ | refine InsK.lit (by omega) (by omega) ?_ | refine SpK.lit ?_ | refine GrdK.same ?_ | refine GrdK.tf ?_ | refine GrdK.ft ?_ | refine PickK.t ?_ | refine PickK.f ?_); (conv => whnf))
      exact ⟨j + 1, ⟨rfl, rfl, rfl, rfl, rfl, rfl, rfl, rfl, trivial⟩, HSub.refl _, by omega, by omega⟩
    · have h : ¬ ((cs.length + j : Nat) : Int) ≤ ((most : Nat) : Int) := dF h
      have hjk : j = most + 1 - cs.length := by omega
      subst hjk
      (conv => whnf); repeat ((first | refine RngK.mk (by omega) (by omega) ?_ | refine NzK.mk (by omega) ?_ | refine NnK.mk (by omega) ?_ | refine BdK.mk (by omega) (by omega) (by omega) ?_ | refine InsK.lit (by omega) (by omega) ?_ | refine SpK.lit ?_ | refine GrdK.same ?_ | refine GrdK.tf ?_ | refine GrdK.ft ?_ | refine PickK.t ?_ | refine PickK.f ?_); (conv => whnf))
      exact ⟨(), ⟨rfl, rfl, rfl, rfl, rfl, rfl, rfl, trivial⟩, HSub.refl _, trivial⟩
  obtain ⟨kz, hkz⟩ : ∃ kz, most + 1 - cs.length = kz := ⟨_, rfl⟩
  rw [hkz]
  have hcz := q1.zeros (k := kz) (by omega)
  have hsz := sum_zeros cs kz
  have hbz := build_zeros q1 q2 kz
  have hzl : (cs ++ List.replicate kz 0).length = most + 1 := by simp; omega
  rw [q2] at hsz
  generalize hzz : cs ++ List.replicate kz 0 = zz at *
  have htk := normC_take (cs := zz) (m := most + 1) (by omega) (by omega)
  rw [hzl, Nat.sub_self, List.replicate_zero, List.append_nil] at htk
  have hnl := normC_len (cs := zz) (by omega)
  (conv => whnf); repeat ((first | refine RngK.mk (by omega) (by omega) ?_ | refine NzK.mk (by omega) ?_ | refine NnK.mk (by omega) ?_ | refine BdK.mk (by omega) (by omega) (by omega) ?_ | refine InsK.lit (by omega) (by omega) ?_ | refine SpK.lit ?_ | refine GrdK.same ?_ | refine GrdK.tf ?_ | refine GrdK.ft ?_ | refine PickK.t ?_ | refine PickK.f ?_); (conv => whnf))
  refine CallK.of [0] (backup_spec br r A bs.length c off2 _ cnt2 k1 k3 (by omega)) rfl (fun _ _ => trivial) ?_
  rintro _ _ ⟨rfl, off3, cnt3, j1, j2, j3, j4, j5, rfl⟩
  (conv => whnf); repeat ((first | refine RngK.mk (by omega) (by omega) ?_ | refine NzK.mk (by omega) ?_ | refine NnK.mk (by omega) ?_ | refine BdK.mk (by omega) (by omega) (by omega) ?_ | refine InsK.lit (by omega) (by omega) ?_ | refine SpK.lit ?_ | refine GrdK.same ?_ | refine GrdK.tf ?_ | refine GrdK.ft ?_ | refine PickK.t ?_ | refine PickK.f ?_); (conv => whnf))
  have em : ((most : Nat) : Int) + 1 = ((most + 1 : Nat) : Int) := by omega
  rw [em]
  refine CallK.cast [.pointer (some ⟨r, 0, none⟩), vN off, .slice (some ⟨nb, 0, none⟩) (most + 1) 256, .slice T m mc, vN b] rfl ?_
  refine CallK.of [2] (bfse_spec r off (some ⟨nb, 0, none⟩) (most + 1) 256 T m mc b zz hcz hsz hbm hmm) rfl (fun w hw => ?_) ?_
  · have h := Rd.ofBlk (o := 0) (m := most + 1) (sz := 1) hw 1 rfl (by simp [hnl]; omega)
    rw [Nat.mul_one, List.drop_zero, ← List.map_take, htk] at h
    exact h
  rintro _ _ ⟨rfl, rfl⟩
  (conv => whnf); repeat ((first | refine RngK.mk (by omega) (by omega) ?_ | refine NzK.mk (by omega) ?_ | refine NnK.mk (by omega) ?_ | refine BdK.mk (by omega) (by omega) (by omega) ?_ | refine InsK.lit (by omega) (by omega) ?_ | refine SpK.lit ?_ | refine GrdK.same ?_ | refine GrdK.tf ?_ | refine GrdK.ft ?_ | refine PickK.t ?_ | refine PickK.f ?_); (conv => whnf))
  refine ValK.neNil rfl ?_
  (conv => whnf); repeat ((first | refine RngK.mk (by omega) (by omega) ?_ | refine NzK.mk (by omega) ?_ | refine NnK.mk (by omega) ?_ | refine BdK.mk (by omega) (by omega) (by omega) ?_ | refine InsK.lit (by omega) (by omega) ?_ | refine SpK.lit ?_ | refine GrdK.same ?_ | refine GrdK.tf ?_ | refine GrdK.ft ?_ | refine PickK.t ?_ | refine PickK.f ?_); (conv => whnf))
  refine Wp.cond rfl (fun h => by cases h) (fun _ => ?_)
  (conv => whnf); repeat ((first | refine RngK.mk (by omega) (by omega) ?_ | refine NzK.mk (by omega) ?_ | refine NnK.mk (by omega) ?_ | refine BdK.mk (by omega) (by omega) (by omega) ?_ | refine InsK.lit (by omega) (by omega) ?_ | refine SpK.lit ?_ | refine GrdK.same ?_ | refine GrdK.tf ?_ | refine GrdK.ft ?_ | refine PickK.t ?_ | refine PickK.f ?_); (conv => whnf))
  refine DrwK.ord (by kernel_rfl) [0, 1, 2, 3, 4, 5, 6] (by kernel_rfl) ?_; conv => whnf
  (conv => whnf); repeat ((first | refine RngK.mk (by omega) (by omega) ?_ | refine NzK.mk (by omega) ?_ | refine NnK.mk (by omega) ?_ | refine BdK.mk (by omega) (by omega) (by omega) ?_ | refine InsK.lit (by omega) (by omega) ?_ | refine SpK.lit ?_ | refine GrdK.same ?_ | refine GrdK.tf ?_ | refine GrdK.ft ?_ | refine PickK.t ?_ | refine PickK.f ?_); (conv => whnf))
  refine LdK.blk 1 rfl rfl rfl rfl ?_
  (conv => whnf); repeat ((first | refine RngK.mk (by omega) (by omega) ?_ | refine NzK.mk (by omega) ?_ | refine NnK.mk (by omega) ?_ | refine BdK.mk (by omega) (by omega) (by omega) ?_ | refine InsK.lit (by omega) (by omega) ?_ | refine SpK.lit ?_ | refine GrdK.same ?_ | refine GrdK.tf ?_ | refine GrdK.ft ?_ | refine PickK.t ?_ | refine PickK.f ?_); (conv => whnf))
  have ep : off3 = (8 * off2 - cnt2 + 7) / 8 := by omega
  exact ⟨_, HSub.of [0] rfl, by rw [← ep], by rw [hbz]⟩
end Go.Proofs.YtgdhdkjbilifiaaDoor
