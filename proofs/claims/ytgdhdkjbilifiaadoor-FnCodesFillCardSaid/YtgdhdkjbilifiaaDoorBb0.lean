/- The reader that goes forward: the functions of the package. -/
import Derived.Test.YtgdhdkjbilifiaaDoorBa
import Derived.Test.YtgdhdkjbilifiaaDoorErr
namespace Go.Proofs.YtgdhdkjbilifiaaDoor
open Go Go.Sx
set_option maxRecDepth 100000
def brc (r : Nat) (A : Option Addr) (n c off bits cnt : Nat) : List Value := [.pointer (some ⟨r, 0, none⟩), .slice A n c, .int .u32 off, .int .u32 bits, .int .u32 cnt]
abbrev brB (b r : Nat) (A : Option Addr) (n c off bits cnt : Nat) : Hp := [.blk b 144 (brc r A n c off bits cnt)]
structure BrPre (w : World) (W : Nat → Prop) (r : Nat) (A : Option Addr) (n c : Nat) (bs : List UInt8) (e u : Addr) : Prop where
  by_ : Bytes w W A n c bs
  la : Laid w W e u
  rr : Rd w W (some ⟨r, 6, none⟩) 1 1 [.int .i64 0]
theorem BrPre.pass {w0 w : World} {W : Nat → Prop} {Hin Hr : Hp} (hw : HInv w0 W (Hin ++ Hr) w) {r n c : Nat} {A : Option Addr} {bs : List UInt8} {e u : Addr} (h : BrPre w0 W r A n c bs e u) : BrPre w (blocks Hin) r A n c bs e u :=
  ⟨h.by_.pass hw, h.la.pass hw, h.rr.pass hw⟩
theorem moreBits_spec (b r : Nat) (A : Option Addr) (n c : Nat) (bs : List UInt8) (e u : Addr) (off cnt : Nat) (hn : n ≤ 16777216) (h1 : cnt ≤ 8 * off) (h2 : off ≤ n) (h3 : cnt < 32) :
    FnS Tryd.prog 77 [.pointer (some ⟨b, 0, none⟩)] (brB b r A n c off (bitsN (num bs) (8 * off - cnt) cnt) cnt)
      (fun w => BrPre w (blocks (brB b r A n c off (bitsN (num bs) (8 * off - cnt) cnt) cnt)) r A n c bs e u)
      (fun v H => ∃ off' cnt', 8 * off' - cnt' = 8 * off - cnt ∧ cnt' ≤ 8 * off' ∧ off' ≤ n ∧ cnt' < 32 ∧ H = brB b r A n c off' (bitsN (num bs) (8 * off' - cnt') cnt') cnt' ∧ ((v = .nilIface ∧ 16 ≤ cnt') ∨ ((∃ T x, v = .iface T x) ∧ cnt' < 16 ∧ off' = n))) := by
  refine FnS.intro Tryd.func77 rfl (by kernel_rfl) rfl fun w hH hp => ?_
  obtain rfl : bs.length = n := hp.by_.len
  generalize hW : blocks (brB b r A bs.length c off (bitsN (num bs) (8 * off - cnt) cnt) cnt) = W at *
  generalize hP : 8 * off - cnt = p at *
  (conv => whnf); repeat ((first | refine RngK.mk (by omega) (by omega) ?_ | refine NzK.mk (by omega) ?_ | refine NnK.mk (by omega) ?_ | refine BdK.mk (by omega) (by omega) (by omega) ?_ | refine InsK.lit (by omega) (by omega) ?_ | refine SpK.lit ?_ | refine GrdK.same ?_ | refine GrdK.tf ?_ | refine GrdK.ft ?_ | refine PickK.t ?_ | refine PickK.f ?_); (conv => whnf))
  refine Wp.loop (fun s : Nat × Nat => [(0, .pointer (some ⟨b, 0, none⟩)), (2, .nilIface)]) (fun s => brB b r A bs.length c s.1 (bitsN (num bs) p s.2) s.2) (fun s => 8 * s.1 - s.2 = p ∧ s.2 ≤ 8 * s.1 ∧ s.1 ≤ bs.length ∧ s.2 < 32) (fun s => bs.length - s.1) (off, cnt)
    ⟨rfl, rfl, trivial⟩ (HSub.refl _) ⟨hP, h1, h2, h3⟩ fun ⟨off, cnt⟩ ⟨hP, h1, h2, h3⟩ => ?_
  dsimp only at hP h1 h2 h3 ⊢
  (conv => whnf); repeat ((first | refine RngK.mk (by omega) (by omega) ?_ | refine NzK.mk (by omega) ?_ | refine NnK.mk (by omega) ?_ | refine BdK.mk (by omega) (by omega) (by omega) ?_ | refine InsK.lit (by omega) (by omega) ?_ | refine SpK.lit ?_ | refine GrdK.same ?_ | refine GrdK.tf ?_ | refine GrdK.ft ?_ | refine PickK.t ?_ | refine PickK.f ?_); (conv => whnf))
  refine LdK.blk 0 rfl rfl rfl rfl ?_
  (conv => whnf); repeat ((first | refine RngK.mk (by omega) (by omega) ?_ | refine NzK.mk (by omega) ?_ | refine NnK.mk (by omega) ?_ | refine BdK.mk (by omega) (by omega) (by omega) ?_ | refine InsK.lit (by omega) (by omega) ?_ | refine SpK.lit ?_ | refine GrdK.same ?_ | refine GrdK.tf ?_ | refine GrdK.ft ?_ | refine PickK.t ?_ | refine PickK.f ?_); (conv => whnf))
  refine Wp.cond rfl (fun h => ?_) (fun h => ?_)
  · have h := dT h
    (conv => whnf); repeat ((first | refine RngK.mk (by omega) (by omega) ?_ | refine NzK.mk (by omega) ?_ | refine NnK.mk (by omega) ?_ | refine BdK.mk (by omega) (by omega) (by omega) ?_ | refine InsK.lit (by omega) (by omega) ?_ | refine SpK.lit ?_ | refine GrdK.same ?_ | refine GrdK.tf ?_ | refine GrdK.ft ?_ | refine PickK.t ?_ | refine PickK.f ?_); (conv => whnf))
    refine DrwK.ord (by kernel_rfl) [0, 1, 2, 3, 4, 5, 6, 7, 8, 9, 10] (by kernel_rfl) ?_; conv => whnf
    (conv => whnf); repeat ((first | refine RngK.mk (by omega) (by omega) ?_ | refine NzK.mk (by omega) ?_ | refine NnK.mk (by omega) ?_ | refine BdK.mk (by omega) (by omega) (by omega) ?_ | refine InsK.lit (by omega) (by omega) ?_ | refine SpK.lit ?_ | refine GrdK.same ?_ | refine GrdK.tf ?_ | refine GrdK.ft ?_ | refine PickK.t ?_ | refine PickK.f ?_); (conv => whnf))
    refine LdK.blk 0 rfl rfl rfl rfl ?_
    (conv => whnf); repeat ((first | refine RngK.mk (by omega) (by omega) ?_ | refine NzK.mk (by omega) ?_ | refine NnK.mk (by omega) ?_ | refine BdK.mk (by omega) (by omega) (by omega) ?_ | refine InsK.lit (by omega) (by omega) ?_ | refine SpK.lit ?_ | refine GrdK.same ?_ | refine GrdK.tf ?_ | refine GrdK.ft ?_ | refine PickK.t ?_ | refine PickK.f ?_); (conv => whnf))
    refine LdK.blk 0 rfl rfl rfl rfl ?_
    (conv => whnf); repeat ((first | refine RngK.mk (by omega) (by omega) ?_ | refine NzK.mk (by omega) ?_ | refine NnK.mk (by omega) ?_ | refine BdK.mk (by omega) (by omega) (by omega) ?_ | refine InsK.lit (by omega) (by omega) ?_ | refine SpK.lit ?_ | refine GrdK.same ?_ | refine GrdK.tf ?_ | refine GrdK.ft ?_ | refine PickK.t ?_ | refine PickK.f ?_); (conv => whnf))
    have ew : IntKind.u32.wrap (bs.length : Int) = (bs.length : Int) := wrap_u_lt (k := .u32) rfl (by show _ < 2 ^ 32; omega)
    rw [ew]
    refine Wp.cond rfl (fun h4 => ?_) (fun h4 => ?_)
    · have h4 := dT h4
      (conv => whnf); repeat ((first | refine RngK.mk (by omega) (by omega) ?_ | refine NzK.mk (by omega) ?_ | refine NnK.mk (by omega) ?_ | refine BdK.mk (by omega) (by omega) (by omega) ?_ | refine InsK.lit (by omega) (by omega) ?_ | refine SpK.lit ?_ | refine GrdK.same ?_ | refine GrdK.tf ?_ | refine GrdK.ft ?_ | refine PickK.t ?_ | refine PickK.f ?_); (conv => whnf))
      refine DrwK.ord (by kernel_rfl) [0, 1, 2, 3, 4, 5, 6, 7, 8, 9, 10] (by kernel_rfl) ?_; conv => whnf
      (conv => whnf); repeat ((first | refine RngK.mk (by omega) (by omega) ?_ | refine NzK.mk (by omega) ?_ | refine NnK.mk (by omega) ?_ | refine BdK.mk (by omega) (by omega) (by omega) ?_ | refine InsK.lit (by omega) (by omega) ?_ | refine SpK.lit ?_ | refine GrdK.same ?_ | refine GrdK.tf ?_ | refine GrdK.ft ?_ | refine PickK.t ?_ | refine PickK.f ?_); (conv => whnf))
      refine LdK.blk 0 rfl rfl rfl rfl ?_
      (conv => whnf); repeat ((first | refine RngK.mk (by omega) (by omega) ?_ | refine NzK.mk (by omega) ?_ | refine NnK.mk (by omega) ?_ | refine BdK.mk (by omega) (by omega) (by omega) ?_ | refine InsK.lit (by omega) (by omega) ?_ | refine SpK.lit ?_ | refine GrdK.same ?_ | refine GrdK.tf ?_ | refine GrdK.ft ?_ | refine PickK.t ?_ | refine PickK.f ?_); (conv => whnf))
      refine LdK.blk 0 rfl rfl rfl rfl ?_
      (conv => whnf); repeat ((first | refine RngK.mk (by omega) (by omega) ?_ | refine NzK.mk (by omega) ?_ | refine NnK.mk (by omega) ?_ | refine BdK.mk (by omega) (by omega) (by omega) ?_ | refine InsK.lit (by omega) (by omega) ?_ | refine SpK.lit ?_ | refine GrdK.same ?_ | refine GrdK.tf ?_ | refine GrdK.ft ?_ | refine PickK.t ?_ | refine PickK.f ?_); (conv => whnf))
      refine CallK.of [] (eof_spec r off e u (by omega) (by omega)) rfl (fun w hw => ⟨hp.la.pass hw, hp.rr.pass hw⟩) ?_
      rintro _ _ ⟨⟨T, x, rfl⟩, rfl⟩
      (conv => whnf); repeat ((first | refine RngK.mk (by omega) (by omega) ?_ | refine NzK.mk (by omega) ?_ | refine NnK.mk (by omega) ?_ | refine BdK.mk (by omega) (by omega) (by omega) ?_ | refine InsK.lit (by omega) (by omega) ?_ | refine SpK.lit ?_ | refine GrdK.same ?_ | refine GrdK.tf ?_ | refine GrdK.ft ?_ | refine PickK.t ?_ | refine PickK.f ?_); (conv => whnf))
      refine KfK.of (LdK.blk 0 rfl rfl rfl rfl rfl) ?_
      (conv => whnf); repeat ((first | refine RngK.mk (by omega) (by omega) ?_ | refine NzK.mk (by omega) ?_ | refine NnK.mk (by omega) ?_ | refine BdK.mk (by omega) (by omega) (by omega) ?_ | refine InsK.lit (by omega) (by omega) ?_ | refine SpK.lit ?_ | refine GrdK.same ?_ | refine GrdK.tf ?_ | refine GrdK.ft ?_ | refine PickK.t ?_ | refine PickK.f ?_); (conv => whnf))
      refine KfK.of (LdK.blk 0 rfl rfl rfl rfl rfl) ?_
      (conv => whnf); repeat ((first | refine RngK.mk (by omega) (by omega) ?_ | refine NzK.mk (by omega) ?_ | refine NnK.mk (by omega) ?_ | refine BdK.mk (by omega) (by omega) (by omega) ?_ | refine InsK.lit (by omega) (by omega) ?_ | refine SpK.lit ?_ | refine GrdK.same ?_ | refine GrdK.tf ?_ | refine GrdK.ft ?_ | refine PickK.t ?_ | refine PickK.f ?_); (conv => whnf))
      exact ⟨off, cnt, hP, h1, h2, h3, by rw [hP], .inr ⟨⟨T, x, rfl⟩, by omega, by omega⟩⟩
    · have h4 := dF h4
      have ho : off < bs.length := by omega
      (conv => whnf); repeat ((first | refine RngK.mk (by omega) (by omega) ?_ | refine NzK.mk (by omega) ?_ | refine NnK.mk (by omega) ?_ | refine BdK.mk (by omega) (by omega) (by omega) ?_ | refine InsK.lit (by omega) (by omega) ?_ | refine SpK.lit ?_ | refine GrdK.same ?_ | refine GrdK.tf ?_ | refine GrdK.ft ?_ | refine PickK.t ?_ | refine PickK.f ?_); (conv => whnf))
      refine DrwK.ord (by kernel_rfl) [0, 1, 2, 3, 4, 5, 6, 7, 8, 9, 10] (by kernel_rfl) ?_; conv => whnf
      (conv => whnf); repeat ((first | refine RngK.mk (by omega) (by omega) ?_ | refine NzK.mk (by omega) ?_ | refine NnK.mk (by omega) ?_ | refine BdK.mk (by omega) (by omega) (by omega) ?_ | refine InsK.lit (by omega) (by omega) ?_ | refine SpK.lit ?_ | refine GrdK.same ?_ | refine GrdK.tf ?_ | refine GrdK.ft ?_ | refine PickK.t ?_ | refine PickK.f ?_); (conv => whnf))
      refine LdK.blk 0 rfl rfl rfl rfl ?_
      (conv => whnf); repeat ((first | refine RngK.mk (by omega) (by omega) ?_ | refine NzK.mk (by omega) ?_ | refine NnK.mk (by omega) ?_ | refine BdK.mk (by omega) (by omega) (by omega) ?_ | refine InsK.lit (by omega) (by omega) ?_ | refine SpK.lit ?_ | refine GrdK.same ?_ | refine GrdK.tf ?_ | refine GrdK.ft ?_ | refine PickK.t ?_ | refine PickK.f ?_); (conv => whnf))
      refine LdK.blk 0 rfl rfl rfl rfl ?_
      (conv => whnf); repeat ((first | refine RngK.mk (by omega) (by omega) ?_ | refine NzK.mk (by omega) ?_ | refine NnK.mk (by omega) ?_ | refine BdK.mk (by omega) (by omega) (by omega) ?_ | refine InsK.lit (by omega) (by omega) ?_ | refine SpK.lit ?_ | refine GrdK.same ?_ | refine GrdK.tf ?_ | refine GrdK.ft ?_ | refine PickK.t ?_ | refine PickK.f ?_); (conv => whnf))
      refine InsK.rd hp.by_.rd (by omega) (by omega) ?_
      (conv => whnf); repeat ((first | refine RngK.mk (by omega) (by omega) ?_ | refine NzK.mk (by omega) ?_ | refine NnK.mk (by omega) ?_ | refine BdK.mk (by omega) (by omega) (by omega) ?_ | refine InsK.lit (by omega) (by omega) ?_ | refine SpK.lit ?_ | refine GrdK.same ?_ | refine GrdK.tf ?_ | refine GrdK.ft ?_ | refine PickK.t ?_ | refine PickK.f ?_); (conv => whnf))
      refine LdK.rd (v := vU8 bs[off]) hp.by_.rd off rfl rfl rfl (by simp [ho]) ?_
      (conv => whnf); repeat ((first | refine RngK.mk (by omega) (by omega) ?_ | refine NzK.mk (by omega) ?_ | refine NnK.mk (by omega) ?_ | refine BdK.mk (by omega) (by omega) (by omega) ?_ | refine InsK.lit (by omega) (by omega) ?_ | refine SpK.lit ?_ | refine GrdK.same ?_ | refine GrdK.tf ?_ | refine GrdK.ft ?_ | refine PickK.t ?_ | refine PickK.f ?_); (conv => whnf))
      refine LdK.blk 0 rfl rfl rfl rfl ?_
      (conv => whnf); repeat ((first | refine RngK.mk (by omega) (by omega) ?_ | refine NzK.mk (by omega) ?_ | refine NnK.mk (by omega) ?_ | refine BdK.mk (by omega) (by omega) (by omega) ?_ | refine InsK.lit (by omega) (by omega) ?_ | refine SpK.lit ?_ | refine GrdK.same ?_ | refine GrdK.tf ?_ | refine GrdK.ft ?_ | refine PickK.t ?_ | refine PickK.f ?_); (conv => whnf))
      refine StK.blkE 0 (brc r A bs.length c (off + 1) (bitsN (num bs) p cnt) cnt) rfl rfl rfl rfl (Nat.le_of_ble_eq_true rfl) ?_ ?_
      · show [_, _, Value.int .u32 _, _, _] = [_, _, Value.int .u32 _, _, _]
        have : IntKind.u32.wrap ((off : Int) + 1) = ((off + 1 : Nat) : Int) := wrap_u_lt (k := .u32) (n := off + 1) rfl (by show _ < 2 ^ 32; omega)
        rw [this]
      (conv => whnf); repeat ((first | refine RngK.mk (by omega) (by omega) ?_ | refine NzK.mk (by omega) ?_ | refine NnK.mk (by omega) ?_ | refine BdK.mk (by omega) (by omega) (by omega) ?_ | refine InsK.lit (by omega) (by omega) ?_ | refine SpK.lit ?_ | refine GrdK.same ?_ | refine GrdK.tf ?_ | refine GrdK.ft ?_ | refine PickK.t ?_ | refine PickK.f ?_); (conv => whnf))
      refine DrwK.ord (by kernel_rfl) [0, 1, 2, 3, 4, 5, 6, 7, 8, 9, 10, 11, 12, 13, 14] (by kernel_rfl) ?_; conv => whnf
      (conv => whnf); repeat ((first | refine RngK.mk (by omega) (by omega) ?_ | refine NzK.mk (by omega) ?_ | refine NnK.mk (by omega) ?_ | refine BdK.mk (by omega) (by omega) (by omega) ?_ | refine InsK.lit (by omega) (by omega) ?_ | refine SpK.lit ?_ | refine GrdK.same ?_ | refine GrdK.tf ?_ | refine GrdK.ft ?_ | refine PickK.t ?_ | refine PickK.f ?_); (conv => whnf))
      refine LdK.blk 0 rfl rfl rfl rfl ?_
      (conv => whnf); repeat ((first | refine RngK.mk (by omega) (by omega) ?_ | refine NzK.mk (by omega) ?_ | refine NnK.mk (by omega) ?_ | refine BdK.mk (by omega) (by omega) (by omega) ?_ | refine InsK.lit (by omega) (by omega) ?_ | refine SpK.lit ?_ | refine GrdK.same ?_ | refine GrdK.tf ?_ | refine GrdK.ft ?_ | refine PickK.t ?_ | refine PickK.f ?_); (conv => whnf))
      refine LdK.blk 0 rfl rfl rfl rfl ?_
      (conv => whnf); repeat ((first | refine RngK.mk (by omega) (by omega) ?_ | refine NzK.mk (by omega) ?_ | refine NnK.mk (by omega) ?_ | refine BdK.mk (by omega) (by omega) (by omega) ?_ | refine InsK.lit (by omega) (by omega) ?_ | refine SpK.lit ?_ | refine GrdK.same ?_ | refine GrdK.tf ?_ | refine GrdK.ft ?_ | refine PickK.t ?_ | refine PickK.f ?_); (conv => whnf))
      refine StK.blkE 0 (brc r A bs.length c (off + 1) (bitsN (num bs) p (cnt + 8)) cnt) rfl rfl rfl rfl (Nat.le_of_ble_eq_true rfl) ?_ ?_
      · show [_, _, _, Value.int .u32 _, _] = [_, _, _, Value.int .u32 _, _]
        have hb := bs[off].toNat_lt
        have hlt := bitsN_lt (num bs) p cnt
        have h2k : 2 ^ cnt ≤ 2 ^ 15 := Nat.pow_le_pow_right (by omega) (by omega)
        have hm : bs[off].toNat * 2 ^ cnt ≤ 255 * 2 ^ cnt := Nat.mul_le_mul_right _ (by omega)
        have e1 : IntKind.u32.wrap (bs[off].toNat : Int) = (bs[off].toNat : Int) := wrap_u_lt (k := .u32) rfl (by show _ < 2 ^ 32; omega)
        have e2 : ishl .u32 (bs[off].toNat : Int) (cnt : Int) = ((bs[off].toNat * 2 ^ cnt : Nat) : Int) := by
          rw [ishl_u (k := .u32) rfl _ (by show _ ≤ 32; omega), Nat.mod_eq_of_lt (by show _ < 2 ^ 32; omega)]
        rw [e1, e2, ior_u (k := .u32) rfl (by show _ < 2 ^ 32; omega) (by show _ < 2 ^ 32; omega), or_add hlt, bitsN_split, num_byte ho]
        have : 8 * off = p + cnt := by omega
        rw [this]
      (conv => whnf); repeat ((first | refine RngK.mk (by omega) (by omega) ?_ | refine NzK.mk (by omega) ?_ | refine NnK.mk (by omega) ?_ | refine BdK.mk (by omega) (by omega) (by omega) ?_ | refine InsK.lit (by omega) (by omega) ?_ | refine SpK.lit ?_ | refine GrdK.same ?_ | refine GrdK.tf ?_ | refine GrdK.ft ?_ | refine PickK.t ?_ | refine PickK.f ?_); (conv => whnf))
      refine LdK.blk 0 rfl rfl rfl rfl ?_
      (conv => whnf); repeat ((first | refine RngK.mk (by omega) (by omega) ?_ | refine NzK.mk (by omega) ?_ | refine NnK.mk (by omega) ?_ | refine BdK.mk (by omega) (by omega) (by omega) ?_ | refine InsK.lit (by omega) (by omega) ?_ | refine SpK.lit ?_ | refine GrdK.same ?_ | refine GrdK.tf ?_ | refine GrdK.ft ?_ | refine PickK.t ?_ | refine PickK.f ?_); (conv => whnf))
      refine StK.blkE 0 (brc r A bs.length c (off + 1) (bitsN (num bs) p (cnt + 8)) (cnt + 8)) rfl rfl rfl rfl (Nat.le_of_ble_eq_true rfl) ?_ ?_
      · show [_, _, _, _, Value.int .u32 _] = [_, _, _, _, Value.int .u32 _]
        have : IntKind.u32.wrap ((cnt : Int) + 8) = ((cnt + 8 : Nat) : Int) := wrap_u_lt (k := .u32) (n := cnt + 8) rfl (by show _ < 2 ^ 32; omega)
        rw [this]
      (conv => whnf); repeat ((first | refine RngK.mk (by omega) (by omega) ?_ | refine NzK.mk (by omega) ?_ | refine NnK.mk (by omega) ?_ | refine BdK.mk (by omega) (by omega) (by omega) ?_ | refine InsK.lit (by omega) (by omega) ?_ | refine SpK.lit ?_ | refine GrdK.same ?_ | refine GrdK.tf ?_ | refine GrdK.ft ?_ | refine PickK.t ?_ | refine PickK.f ?_); (conv => whnf))
      exact ⟨(off + 1, cnt + 8), ⟨rfl, rfl, trivial⟩, HSub.refl _, ⟨by simp only; omega, by simp only; omega, by simp only; omega, by simp only; omega⟩, by simp only; omega⟩
  · have h := dF h
    (conv => whnf); repeat ((first | refine RngK.mk (by omega) (by omega) ?_ | refine NzK.mk (by omega) ?_ | refine NnK.mk (by omega) ?_ | refine BdK.mk (by omega) (by omega) (by omega) ?_ | refine InsK.lit (by omega) (by omega) ?_ | refine SpK.lit ?_ | refine GrdK.same ?_ | refine GrdK.tf ?_ | refine GrdK.ft ?_ | refine PickK.t ?_ | refine PickK.f ?_); (conv => whnf))
    exact ⟨off, cnt, hP, h1, h2, h3, by rw [hP], .inl ⟨rfl, by omega⟩⟩
theorem val_spec (b r : Nat) (A : Option Addr) (n c N off cnt q : Nat) (hq : q ≤ cnt) (h1 : cnt ≤ 8 * off) (h3 : cnt < 32) :
    FnS Tryd.prog 78 [.pointer (some ⟨b, 0, none⟩), .int .u8 q] (brB b r A n c off (bitsN N (8 * off - cnt) cnt) cnt) (fun _ => True)
      (fun v H => v = .int .u32 (bitsN N (8 * off - cnt) q : Nat) ∧ H = brB b r A n c off (bitsN N (8 * off - (cnt - q)) (cnt - q)) (cnt - q)) := by
  refine FnS.intro Tryd.func78 rfl (by kernel_rfl) rfl fun w hH _ => ?_
  have hlt := bitsN_lt N (8 * off - cnt) cnt
  have h2k : 2 ^ cnt ≤ 2 ^ 31 := Nat.pow_le_pow_right (by omega) (by omega)
  have h2q : 2 ^ q ≤ 2 ^ cnt := Nat.pow_le_pow_right (by omega) hq
  have h2p := Nat.two_pow_pos q
  have e0 : ishl .u32 1 (q : Int) = ((2 ^ q : Nat) : Int) := by
    have := ishl_u (k := .u32) rfl 1 (n := q) (by show _ ≤ 32; omega)
    rw [show (1 : Int) = ((1 : Nat) : Int) from rfl, this, Nat.one_mul, Nat.mod_eq_of_lt (by show _ < 2 ^ 32; omega)]
  have e1 : IntKind.u32.wrap (((2 ^ q : Nat) : Int) - 1) = ((2 ^ q - 1 : Nat) : Int) := by
    rw [IntWalk.u32_in _ (by omega)]
    omega
  have e2 : iand .u32 ((bitsN N (8 * off - cnt) cnt : Nat) : Int) ((2 ^ q - 1 : Nat) : Int) = ((bitsN N (8 * off - cnt) q : Nat) : Int) := by
    rw [iand_u (k := .u32) rfl (by show _ < 2 ^ 32; omega) (by show _ < 2 ^ 32; omega), Nat.and_two_pow_sub_one_eq_mod, bitsN_low _ _ hq]
  (conv => whnf); repeat ((first | refine RngK.mk (by omega) (by omega) ?_ | refine NzK.mk (by omega) ?_ | refine NnK.mk (by omega) ?_ | refine BdK.mk (by omega) (by omega) (by omega) ?_ | refine InsK.lit (by omega) (by omega) ?_ | refine SpK.lit ?_ | refine GrdK.same ?_ | refine GrdK.tf ?_ | refine GrdK.ft ?_ | refine PickK.t ?_ | refine PickK.f ?_); (conv => whnf))
  refine LdK.blk 0 rfl rfl rfl rfl ?_
  (conv => whnf); repeat ((first | refine RngK.mk (by omega) (by omega) ?_ | refine NzK.mk (by omega) ?_ | refine NnK.mk (by omega) ?_ | refine BdK.mk (by omega) (by omega) (by omega) ?_ | refine InsK.lit (by omega) (by omega) ?_ | refine SpK.lit ?_ | refine GrdK.same ?_ | refine GrdK.tf ?_ | refine GrdK.ft ?_ | refine PickK.t ?_ | refine PickK.f ?_); (conv => whnf))
  rw [e0, e1, e2]
  refine LdK.blk 0 rfl rfl rfl rfl ?_
  (conv => whnf); repeat ((first | refine RngK.mk (by omega) (by omega) ?_ | refine NzK.mk (by omega) ?_ | refine NnK.mk (by omega) ?_ | refine BdK.mk (by omega) (by omega) (by omega) ?_ | refine InsK.lit (by omega) (by omega) ?_ | refine SpK.lit ?_ | refine GrdK.same ?_ | refine GrdK.tf ?_ | refine GrdK.ft ?_ | refine PickK.t ?_ | refine PickK.f ?_); (conv => whnf))
  refine StK.blkE 0 (brc r A n c off (bitsN N (8 * off - (cnt - q)) (cnt - q)) cnt) rfl rfl rfl rfl (Nat.le_of_ble_eq_true rfl) ?_ ?_
  · show [_, _, _, Value.int .u32 _, _] = [_, _, _, Value.int .u32 _, _]
    rw [ishr_nat .u32 _ (by show _ ≤ 32; omega), bitsN_shr _ _ hq]
    have : 8 * off - cnt + q = 8 * off - (cnt - q) := by omega
    rw [this]
  (conv => whnf); repeat ((first | refine RngK.mk (by omega) (by omega) ?_ | refine NzK.mk (by omega) ?_ | refine NnK.mk (by omega) ?_ | refine BdK.mk (by omega) (by omega) (by omega) ?_ | refine InsK.lit (by omega) (by omega) ?_ | refine SpK.lit ?_ | refine GrdK.same ?_ | refine GrdK.tf ?_ | refine GrdK.ft ?_ | refine PickK.t ?_ | refine PickK.f ?_); (conv => whnf))
  refine LdK.blk 0 rfl rfl rfl rfl ?_
  (conv => whnf); repeat ((first | refine RngK.mk (by omega) (by omega) ?_ | refine NzK.mk (by omega) ?_ | refine NnK.mk (by omega) ?_ | refine BdK.mk (by omega) (by omega) (by omega) ?_ | refine InsK.lit (by omega) (by omega) ?_ | refine SpK.lit ?_ | refine GrdK.same ?_ | refine GrdK.tf ?_ | refine GrdK.ft ?_ | refine PickK.t ?_ | refine PickK.f ?_); (conv => whnf))
  refine StK.blkE 0 (brc r A n c off (bitsN N (8 * off - (cnt - q)) (cnt - q)) (cnt - q)) rfl rfl rfl rfl (Nat.le_of_ble_eq_true rfl) ?_ ?_
  · show [_, _, _, _, Value.int .u32 _] = [_, _, _, _, Value.int .u32 _]
    have ew : IntKind.u32.wrap (q : Int) = (q : Int) := IntWalk.u32_in _ (by omega)
    rw [ew, IntWalk.u32_in _ (by omega)]
    have : (cnt : Int) - (q : Int) = ((cnt - q : Nat) : Int) := by omega
    rw [this]
  (conv => whnf); repeat ((first | refine RngK.mk (by omega) (by omega) ?_ | refine NzK.mk (by omega) ?_ | refine NnK.mk (by omega) ?_ | refine BdK.mk (by omega) (by omega) (by omega) ?_ | refine InsK.lit (by omega) (by omega) ?_ | refine SpK.lit ?_ | refine GrdK.same ?_ | refine GrdK.tf ?_ | refine GrdK.ft ?_ | refine PickK.t ?_ | refine PickK.f ?_); (conv => whnf))
  exact ⟨rfl, rfl⟩
theorem backup_spec (b r : Nat) (A : Option Addr) (n c off bits cnt : Nat) (h1 : cnt ≤ 8 * off) (h3 : cnt < 32) (h4 : off < 2 ^ 31) :
    FnS Tryd.prog 80 [.pointer (some ⟨b, 0, none⟩)] (brB b r A n c off bits cnt) (fun _ => True)
      (fun v H => v = .tuple #[] ∧ ∃ off' cnt', 8 * off' - cnt' = 8 * off - cnt ∧ cnt' ≤ 8 * off' ∧ off' ≤ off ∧ cnt' < 8 ∧ cnt' ≤ cnt ∧ H = brB b r A n c off' bits cnt') := by
  refine FnS.intro Tryd.func80 rfl (by kernel_rfl) rfl fun w hH _ => ?_
  (conv => whnf); repeat ((first | refine RngK.mk (by omega) (by omega) ?_ | refine NzK.mk (by omega) ?_ | refine NnK.mk (by omega) ?_ | refine BdK.mk (by omega) (by omega) (by omega) ?_ | refine InsK.lit (by omega) (by omega) ?_ | refine SpK.lit ?_ | refine GrdK.same ?_ | refine GrdK.tf ?_ | refine GrdK.ft ?_ | refine PickK.t ?_ | refine PickK.f ?_); (conv => whnf))
  refine Wp.loop (fun s : Nat × Nat => [(0, .pointer (some ⟨b, 0, none⟩))]) (fun s => brB b r A n c s.1 bits s.2) (fun s => 8 * s.1 - s.2 = 8 * off - cnt ∧ s.2 ≤ 8 * s.1 ∧ s.1 ≤ off ∧ s.2 ≤ cnt) (fun s => s.2) (off, cnt)
    ⟨rfl, trivial⟩ (HSub.refl _) ⟨rfl, h1, Nat.le_refl _, Nat.le_refl _⟩ fun ⟨o, k⟩ ⟨g1, g2, g3, g4⟩ => ?_
  dsimp only at g1 g2 g3 g4 ⊢
  (conv => whnf); repeat ((first | refine RngK.mk (by omega) (by omega) ?_ | refine NzK.mk (by omega) ?_ | refine NnK.mk (by omega) ?_ | refine BdK.mk (by omega) (by omega) (by omega) ?_ | refine InsK.lit (by omega) (by omega) ?_ | refine SpK.lit ?_ | refine GrdK.same ?_ | refine GrdK.tf ?_ | refine GrdK.ft ?_ | refine PickK.t ?_ | refine PickK.f ?_); (conv => whnf))
  refine LdK.blk 0 rfl rfl rfl rfl ?_
  (conv => whnf); repeat ((first | refine RngK.mk (by omega) (by omega) ?_ | refine NzK.mk (by omega) ?_ | refine NnK.mk (by omega) ?_ | refine BdK.mk (by omega) (by omega) (by omega) ?_ | refine InsK.lit (by omega) (by omega) ?_ | refine SpK.lit ?_ | refine GrdK.same ?_ | refine GrdK.tf ?_ | refine GrdK.ft ?_ | refine PickK.t ?_ | refine PickK.f ?_); (conv => whnf))
  refine Wp.cond rfl (fun h => ?_) (fun h => ?_)
  · have h := dT h
    (conv => whnf); repeat ((first | refine RngK.mk (by omega) (by omega) ?_ | refine NzK.mk (by omega) ?_ | refine NnK.mk (by omega) ?_ | refine BdK.mk (by omega) (by omega) (by omega) ?_ | refine InsK.lit (by omega) (by omega) ?_ | refine SpK.lit ?_ | refine GrdK.same ?_ | refine GrdK.tf ?_ | refine GrdK.ft ?_ | refine PickK.t ?_ | refine PickK.f ?_); (conv => whnf))
    refine LdK.blk 0 rfl rfl rfl rfl ?_
    (conv => whnf); repeat ((first | refine RngK.mk (by omega) (by omega) ?_ | refine NzK.mk (by omega) ?_ | refine NnK.mk (by omega) ?_ | refine BdK.mk (by omega) (by omega) (by omega) ?_ | refine InsK.lit (by omega) (by omega) ?_ | refine SpK.lit ?_ | refine GrdK.same ?_ | refine GrdK.tf ?_ | refine GrdK.ft ?_ | refine PickK.t ?_ | refine PickK.f ?_); (conv => whnf))
    refine StK.blkE 0 (brc r A n c (o - 1) bits k) rfl rfl rfl rfl (Nat.le_of_ble_eq_true rfl) ?_ ?_
    · show [_, _, Value.int .u32 _, _, _] = [_, _, Value.int .u32 _, _, _]
      have : (o : Int) - 1 = ((o - 1 : Nat) : Int) := by omega
      rw [IntWalk.u32_in _ (by omega), this]
    (conv => whnf); repeat ((first | refine RngK.mk (by omega) (by omega) ?_ | refine NzK.mk (by omega) ?_ | refine NnK.mk (by omega) ?_ | refine BdK.mk (by omega) (by omega) (by omega) ?_ | refine InsK.lit (by omega) (by omega) ?_ | refine SpK.lit ?_ | refine GrdK.same ?_ | refine GrdK.tf ?_ | refine GrdK.ft ?_ | refine PickK.t ?_ | refine PickK.f ?_); (conv => whnf))
    refine LdK.blk 0 rfl rfl rfl rfl ?_
    (conv => whnf); repeat ((first | refine RngK.mk (by omega) (by omega) ?_ | refine NzK.mk (by omega) ?_ | refine NnK.mk (by omega) ?_ | refine BdK.mk (by omega) (by omega) (by omega) ?_ | refine InsK.lit (by omega) (by omega) ?_ | refine SpK.lit ?_ | refine GrdK.same ?_ | refine GrdK.tf ?_ | refine GrdK.ft ?_ | refine PickK.t ?_ | refine PickK.f ?_); (conv => whnf))
    refine StK.blkE 0 (brc r A n c (o - 1) bits (k - 8)) rfl rfl rfl rfl (Nat.le_of_ble_eq_true rfl) ?_ ?_
    · show [_, _, _, _, Value.int .u32 _] = [_, _, _, _, Value.int .u32 _]
      have : (k : Int) - 8 = ((k - 8 : Nat) : Int) := by omega
      rw [IntWalk.u32_in _ (by omega), this]
    (conv => whnf); repeat ((first | refine RngK.mk (by omega) (by omega) ?_ | refine NzK.mk (by omega) ?_ | refine NnK.mk (by omega) ?_ | refine BdK.mk (by omega) (by omega) (by omega) ?_ | refine InsK.lit (by omega) (by omega) ?_ | refine SpK.lit ?_ | refine GrdK.same ?_ | refine GrdK.tf ?_ | refine GrdK.ft ?_ | refine PickK.t ?_ | refine PickK.f ?_); (conv => whnf))
    exact ⟨(o - 1, k - 8), ⟨rfl, trivial⟩, HSub.refl _, ⟨by simp only; omega, by simp only; omega, by simp only; omega, by simp only; omega⟩, by simp only; omega⟩
  · have h := dF h
    (conv => whnf); repeat ((first | refine RngK.mk (by omega) (by omega) ?_ | refine NzK.mk (by omega) ?_ | refine NnK.mk (by omega) ?_ | refine BdK.mk (by omega) (by omega) (by omega) ?_ | refine InsK.lit (by omega) (by omega) ?_ | refine SpK.lit ?_ | refine GrdK.same ?_ | refine GrdK.tf ?_ | refine GrdK.ft ?_ | refine PickK.t ?_ | refine PickK.f ?_); (conv => whnf))
    exact ⟨rfl, o, k, g1, g2, g3, by omega, g4, rfl⟩
theorem makeBitReader_spec (r : Nat) (A : Option Addr) (n c off : Nat) (h4 : off < 2 ^ 31) : FnS Tryd.prog 76 [.pointer (some ⟨r, 0, none⟩), .slice A n c, vI off] [] (fun _ => True) (Is (.agg (brc r A n c off 0 0).toArray)) := by
  refine FnS.introD Tryd.func76 rfl (by kernel_rfl) rfl fun w hH _ => ?_
  (conv => whnf); repeat ((first | refine RngK.mk (by omega) (by omega) ?_ | refine NzK.mk (by omega) ?_ | refine NnK.mk (by omega) ?_ | refine BdK.mk (by omega) (by omega) (by omega) ?_ | refine InsK.lit (by omega) (by omega) ?_ | refine SpK.lit ?_ | refine GrdK.same ?_ | refine GrdK.tf ?_ | refine GrdK.ft ?_ | refine PickK.t ?_ | refine PickK.f ?_); (conv => whnf))
  refine ⟨_, _, rfl, rfl, ?_⟩
  intro b
  (conv => whnf); repeat ((first | refine RngK.mk (by omega) (by omega) ?_ | refine NzK.mk (by omega) ?_ | refine NnK.mk (by omega) ?_ | refine BdK.mk (by omega) (by omega) (by omega) ?_ | refine InsK.lit (by omega) (by omega) ?_ | refine SpK.lit ?_ | refine GrdK.same ?_ | refine GrdK.tf ?_ | refine GrdK.ft ?_ | refine PickK.t ?_ | refine PickK.f ?_); (conv => whnf))
  refine ValK.build rfl ?_
  (conv => whnf); repeat ((first | refine RngK.mk (by omega) (by omega) ?_ | refine NzK.mk (by omega) ?_ | refine NnK.mk (by omega) ?_ | refine BdK.mk (by omega) (by omega) (by omega) ?_ | refine InsK.lit (by omega) (by omega) ?_ | refine SpK.lit ?_ | refine GrdK.same ?_ | refine GrdK.tf ?_ | refine GrdK.ft ?_ | refine PickK.t ?_ | refine PickK.f ?_); (conv => whnf))
  refine StK.blkNE 0 (brc r A n c off 0 0) rfl rfl rfl rfl rfl ?_ ?_
  · show [_, _, Value.int .u32 _, _, _] = [_, _, Value.int .u32 _, _, _]
    rw [IntWalk.u32_in _ (by omega)]
    rfl
  (conv => whnf); repeat ((first | refine RngK.mk (by omega) (by omega) ?_ | refine NzK.mk (by omega) ?_ | refine NnK.mk (by omega) ?_ | refine BdK.mk (by omega) (by omega) (by omega) ?_ | refine InsK.lit (by omega) (by omega) ?_ | refine SpK.lit ?_ | refine GrdK.same ?_ | refine GrdK.tf ?_ | refine GrdK.ft ?_ | refine PickK.t ?_ | refine PickK.f ?_); (conv => whnf))
  refine LdK.blkN 0 rfl rfl rfl rfl rfl ?_
  (conv => whnf); repeat ((first | refine RngK.mk (by omega) (by omega) ?_ | refine NzK.mk (by omega) ?_ | refine NnK.mk (by omega) ?_ | refine BdK.mk (by omega) (by omega) (by omega) ?_ | refine InsK.lit (by omega) (by omega) ?_ | refine SpK.lit ?_ | refine GrdK.same ?_ | refine GrdK.tf ?_ | refine GrdK.ft ?_ | refine PickK.t ?_ | refine PickK.f ?_); (conv => whnf))
  exact ⟨[], HSub.nil _, rfl, rfl⟩
theorem brErr_spec (b r : Nat) (A : Option Addr) (n c off bits cnt : Nat) (s : ByteArray) (e u : Addr) (ho : off < 2 ^ 31) :
    FnS Tryd.prog 79 [.pointer (some ⟨b, 0, none⟩), .string s] (brB b r A n c off bits cnt)
      (fun w => Laid w (blocks (brB b r A n c off bits cnt)) e u ∧ Rd w (blocks (brB b r A n c off bits cnt)) (some ⟨r, 6, none⟩) 1 1 [.int .i64 0])
      (fun v H => (∃ T x, v = .iface T x) ∧ H = brB b r A n c off bits cnt) := by
  refine FnS.intro Tryd.func79 rfl (by kernel_rfl) rfl fun w hH ⟨hL, hR⟩ => ?_
  generalize hW : blocks (brB b r A n c off bits cnt) = W at *
  (conv => whnf); repeat ((first | refine RngK.mk (by omega) (by omega) ?_ | refine NzK.mk (by omega) ?_ | refine NnK.mk (by omega) ?_ | refine BdK.mk (by omega) (by omega) (by omega) ?_ | refine InsK.lit (by omega) (by omega) ?_ | refine SpK.lit ?_ | refine GrdK.same ?_ | refine GrdK.tf ?_ | refine GrdK.ft ?_ | refine PickK.t ?_ | refine PickK.f ?_); (conv => whnf))
  refine DrwK.ord (by kernel_rfl) [0, 1, 2, 3, 4, 5, 6, 7, 8, 9, 10, 11] (by kernel_rfl) ?_; conv => whnf
  (conv => whnf); repeat ((first | refine RngK.mk (by omega) (by omega) ?_ | refine NzK.mk (by omega) ?_ | refine NnK.mk (by omega) ?_ | refine BdK.mk (by omega) (by omega) (by omega) ?_ | refine InsK.lit (by omega) (by omega) ?_ | refine SpK.lit ?_ | refine GrdK.same ?_ | refine GrdK.tf ?_ | refine GrdK.ft ?_ | refine PickK.t ?_ | refine PickK.f ?_); (conv => whnf))
  refine LdK.blk 0 rfl rfl rfl rfl ?_
  (conv => whnf); repeat ((first | refine RngK.mk (by omega) (by omega) ?_ | refine NzK.mk (by omega) ?_ | refine NnK.mk (by omega) ?_ | refine BdK.mk (by omega) (by omega) (by omega) ?_ | refine InsK.lit (by omega) (by omega) ?_ | refine SpK.lit ?_ | refine GrdK.same ?_ | refine GrdK.tf ?_ | refine GrdK.ft ?_ | refine PickK.t ?_ | refine PickK.f ?_); (conv => whnf))
  refine LdK.blk 0 rfl rfl rfl rfl ?_
  (conv => whnf); repeat ((first | refine RngK.mk (by omega) (by omega) ?_ | refine NzK.mk (by omega) ?_ | refine NnK.mk (by omega) ?_ | refine BdK.mk (by omega) (by omega) (by omega) ?_ | refine InsK.lit (by omega) (by omega) ?_ | refine SpK.lit ?_ | refine GrdK.same ?_ | refine GrdK.tf ?_ | refine GrdK.ft ?_ | refine PickK.t ?_ | refine PickK.f ?_); (conv => whnf))
  refine CallK.of [] (err_spec r off s e u (by omega) (by omega)) rfl (fun w hw => ⟨hL.pass hw, hR.pass hw⟩) ?_
  rintro _ _ ⟨⟨T, x, rfl⟩, rfl⟩
  (conv => whnf); repeat ((first | refine RngK.mk (by omega) (by omega) ?_ | refine NzK.mk (by omega) ?_ | refine NnK.mk (by omega) ?_ | refine BdK.mk (by omega) (by omega) (by omega) ?_ | refine InsK.lit (by omega) (by omega) ?_ | refine SpK.lit ?_ | refine GrdK.same ?_ | refine GrdK.tf ?_ | refine GrdK.ft ?_ | refine PickK.t ?_ | refine PickK.f ?_); (conv => whnf))
  refine KfK.of (LdK.blk 0 rfl rfl rfl rfl rfl) ?_
  (conv => whnf); repeat ((first | refine RngK.mk (by omega) (by omega) ?_ | refine NzK.mk (by omega) ?_ | refine NnK.mk (by omega) ?_ | refine BdK.mk (by omega) (by omega) (by omega) ?_ | refine InsK.lit (by omega) (by omega) ?_ | refine SpK.lit ?_ | refine GrdK.same ?_ | refine GrdK.tf ?_ | refine GrdK.ft ?_ | refine PickK.t ?_ | refine PickK.f ?_); (conv => whnf))
  refine KfK.of (LdK.blk 0 rfl rfl rfl rfl rfl) ?_
  (conv => whnf); repeat ((first | refine RngK.mk (by omega) (by omega) ?_ | refine NzK.mk (by omega) ?_ | refine NnK.mk (by omega) ?_ | refine BdK.mk (by omega) (by omega) (by omega) ?_ | refine InsK.lit (by omega) (by omega) ?_ | refine SpK.lit ?_ | refine GrdK.same ?_ | refine GrdK.tf ?_ | refine GrdK.ft ?_ | refine PickK.t ?_ | refine PickK.f ?_); (conv => whnf))
  exact ⟨⟨T, x, rfl⟩, rfl⟩
end Go.Proofs.YtgdhdkjbilifiaaDoor
