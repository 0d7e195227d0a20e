/- The reader that goes backward: its functions. The reader that goes backward: the functions of the package. spec.Stream: the stream that is read backward. -/
import Derived.Test.YtgdhdkjbilifiaaDoorBb0
import Derived.Test.YtgdhdkjbilifiaaDoorWidth
import Derived.Test.YtgdhdkjbilifiaaDoorSize
import Derived.Test.YtgdhdkjbilifiaaDoorEq
import Derived.Test.YtgdhdkjbilifiaaDoorBits
import Derived.Test.YtgdhdkjbilifiaaDoorOwn
namespace Go.Proofs.YtgdhdkjbilifiaaDoor
open Go Go.Sx
set_option maxRecDepth 100000
theorem topOf_spec (A : Option Addr) (n c o : Nat) (bs : List UInt8) (ho : o < bs.length) (hn : n ≤ 16777216) : FnS Tryd.prog 43 [.slice A n c, vI o] [] (fun w => Bytes w (blocks []) A n c bs)
    (Is (if bs[o].toNat = 0 then vI (-1) else vI ((8 * o + wd bs[o].toNat - 1 : Nat) : Int))) := by
  refine FnS.intro Tryd.func43 rfl (by kernel_rfl) rfl fun w hH hp => ?_
  obtain rfl : bs.length = n := hp.len
  (conv => whnf); repeat ((first | refine RngK.mk (by omega) (by omega) ?_ | refine NzK.mk (by omega) ?_ | refine NnK.mk (by omega) ?_ | refine BdK.mk (by omega) (by omega) (by omega) ?_ | refine InsK.lit (by omega) (by omega) ?_ | refine SpK.lit ?_ | refine GrdK.same ?_ | refine GrdK.tf ?_ | refine GrdK.ft ?_ | refine PickK.t ?_ | refine PickK.f ?_); (conv => whnf))
  refine InsK.rd hp.rd (by omega) (by omega) ?_
  (conv => whnf); repeat ((first | refine RngK.mk (by omega) (by omega) ?_ | refine NzK.mk (by omega) ?_ | refine NnK.mk (by omega) ?_ | refine BdK.mk (by omega) (by omega) (by omega) ?_ | refine InsK.lit (by omega) (by omega) ?_ | refine SpK.lit ?_ | refine GrdK.same ?_ | refine GrdK.tf ?_ | refine GrdK.ft ?_ | refine PickK.t ?_ | refine PickK.f ?_); (conv => whnf))
  refine LdK.rd (v := vU8 bs[o]) hp.rd o rfl rfl rfl (by simp [ho]) ?_
  (conv => whnf); repeat ((first | refine RngK.mk (by omega) (by omega) ?_ | refine NzK.mk (by omega) ?_ | refine NnK.mk (by omega) ?_ | refine BdK.mk (by omega) (by omega) (by omega) ?_ | refine InsK.lit (by omega) (by omega) ?_ | refine SpK.lit ?_ | refine GrdK.same ?_ | refine GrdK.tf ?_ | refine GrdK.ft ?_ | refine PickK.t ?_ | refine PickK.f ?_); (conv => whnf))
  refine Wp.cond rfl (fun g => ?_) (fun g => ?_)
  · have g := eqT g
    rw [if_pos (by omega)]
    (conv => whnf); repeat ((first | refine RngK.mk (by omega) (by omega) ?_ | refine NzK.mk (by omega) ?_ | refine NnK.mk (by omega) ?_ | refine BdK.mk (by omega) (by omega) (by omega) ?_ | refine InsK.lit (by omega) (by omega) ?_ | refine SpK.lit ?_ | refine GrdK.same ?_ | refine GrdK.tf ?_ | refine GrdK.ft ?_ | refine PickK.t ?_ | refine PickK.f ?_); (conv => whnf))
    exact ⟨rfl, rfl⟩
  · have g := eqF g
    have hb : 0 < bs[o].toNat := by omega
    have hb2 := bs[o].toNat_lt
    have hw : wd bs[o].toNat ≤ 8 := wd_lt (by omega)
    have hw2 := wd_pos hb
    rw [if_neg (by omega)]
    (conv => whnf); repeat ((first | refine RngK.mk (by omega) (by omega) ?_ | refine NzK.mk (by omega) ?_ | refine NnK.mk (by omega) ?_ | refine BdK.mk (by omega) (by omega) (by omega) ?_ | refine InsK.lit (by omega) (by omega) ?_ | refine SpK.lit ?_ | refine GrdK.same ?_ | refine GrdK.tf ?_ | refine GrdK.ft ?_ | refine PickK.t ?_ | refine PickK.f ?_); (conv => whnf))
    refine InsK.rd hp.rd (by omega) (by omega) ?_
    (conv => whnf); repeat ((first | refine RngK.mk (by omega) (by omega) ?_ | refine NzK.mk (by omega) ?_ | refine NnK.mk (by omega) ?_ | refine BdK.mk (by omega) (by omega) (by omega) ?_ | refine InsK.lit (by omega) (by omega) ?_ | refine SpK.lit ?_ | refine GrdK.same ?_ | refine GrdK.tf ?_ | refine GrdK.ft ?_ | refine PickK.t ?_ | refine PickK.f ?_); (conv => whnf))
    refine LdK.rd (v := vU8 bs[o]) hp.rd o rfl rfl rfl (by simp [ho]) ?_
    (conv => whnf); repeat ((first | refine RngK.mk (by omega) (by omega) ?_ | refine NzK.mk (by omega) ?_ | refine NnK.mk (by omega) ?_ | refine BdK.mk (by omega) (by omega) (by omega) ?_ | refine InsK.lit (by omega) (by omega) ?_ | refine SpK.lit ?_ | refine GrdK.same ?_ | refine GrdK.tf ?_ | refine GrdK.ft ?_ | refine PickK.t ?_ | refine PickK.f ?_); (conv => whnf))
    refine CallK.of0 (width_spec bs[o].toNat (by omega)) ?_
    rintro _ _ ⟨rfl, rfl⟩
    (conv => whnf); repeat ((first | refine RngK.mk (by omega) (by omega) ?_ | refine NzK.mk (by omega) ?_ | refine NnK.mk (by omega) ?_ | refine BdK.mk (by omega) (by omega) (by omega) ?_ | refine InsK.lit (by omega) (by omega) ?_ | refine SpK.lit ?_ | refine GrdK.same ?_ | refine GrdK.tf ?_ | refine GrdK.ft ?_ | refine PickK.t ?_ | refine PickK.f ?_); (conv => whnf))
    refine ⟨?_, rfl⟩
    show Value.int .i64 _ = Value.int .i64 _
    congr 1
    omega
theorem len8_spec (x : UInt8) : FnS Tryd.prog 86 [vU8 x] [] (fun _ => True) (Is (vI (wd x.toNat))) := by
  refine FnS.intro Tryd.func86 rfl (by kernel_rfl) rfl fun w hH _ => ?_
  (conv => whnf); repeat ((first | refine RngK.mk (by omega) (by omega) ?_ | refine NzK.mk (by omega) ?_ | refine NnK.mk (by omega) ?_ | refine BdK.mk (by omega) (by omega) (by omega) ?_ | refine InsK.lit (by omega) (by omega) ?_ | refine SpK.lit ?_ | refine GrdK.same ?_ | refine GrdK.tf ?_ | refine GrdK.ft ?_ | refine PickK.t ?_ | refine PickK.f ?_); (conv => whnf))
  refine ⟨UInt8.ofNat (wd x.toNat), by omega, ?_, ?_⟩
  · have e : ((x.toNat : Int)).toNat = x.toNat := by omega
    rw [e]
    have hx := x.toNat_lt
    generalize x.toNat = y at hx ⊢
    revert y
    decide +kernel
  have hw : wd x.toNat ≤ 8 := wd_lt x.toNat_lt
  have e : (UInt8.ofNat (wd x.toNat)).toNat = wd x.toNat := UInt8.toNat_ofNat_of_lt' (by simp [UInt8.size]; omega)
  rw [e]
  (conv => whnf); repeat ((first | refine RngK.mk (by omega) (by omega) ?_ | refine NzK.mk (by omega) ?_ | refine NnK.mk (by omega) ?_ | refine BdK.mk (by omega) (by omega) (by omega) ?_ | refine InsK.lit (by omega) (by omega) ?_ | refine SpK.lit ?_ | refine GrdK.same ?_ | refine GrdK.tf ?_ | refine GrdK.ft ?_ | refine PickK.t ?_ | refine PickK.f ?_); (conv => whnf))
  exact ⟨rfl, rfl⟩
theorem lz8_spec (x : UInt8) : FnS Tryd.prog 82 [vU8 x] [] (fun _ => True) (Is (vI ((8 - wd x.toNat : Nat) : Int))) := by
  have hw : wd x.toNat ≤ 8 := wd_lt x.toNat_lt
  refine FnS.intro Tryd.func82 rfl (by kernel_rfl) rfl fun w hH _ => ?_
  (conv => whnf); repeat ((first | refine RngK.mk (by omega) (by omega) ?_ | refine NzK.mk (by omega) ?_ | refine NnK.mk (by omega) ?_ | refine BdK.mk (by omega) (by omega) (by omega) ?_ | refine InsK.lit (by omega) (by omega) ?_ | refine SpK.lit ?_ | refine GrdK.same ?_ | refine GrdK.tf ?_ | refine GrdK.ft ?_ | refine PickK.t ?_ | refine PickK.f ?_); (conv => whnf))
  refine CallK.of0 (len8_spec x) ?_
  rintro _ _ ⟨rfl, rfl⟩
  (conv => whnf); repeat ((first | refine RngK.mk (by omega) (by omega) ?_ | refine NzK.mk (by omega) ?_ | refine NnK.mk (by omega) ?_ | refine BdK.mk (by omega) (by omega) (by omega) ?_ | refine InsK.lit (by omega) (by omega) ?_ | refine SpK.lit ?_ | refine GrdK.same ?_ | refine GrdK.tf ?_ | refine GrdK.ft ?_ | refine PickK.t ?_ | refine PickK.f ?_); (conv => whnf))
  refine ⟨?_, rfl⟩
  show Value.int .i64 _ = Value.int .i64 _
  congr 1
  omega
end Go.Proofs.YtgdhdkjbilifiaaDoor
namespace Go.Proofs.YtgdhdkjbilifiaaDoor
open Go Go.Sx
set_option maxRecDepth 100000
def rbc (r : Nat) (A : Option Addr) (n c off st bits cnt : Nat) : List Value := [.pointer (some ⟨r, 0, none⟩), .slice A n c, .int .u32 off, .int .u32 st, .int .u32 bits, .int .u32 cnt]
abbrev rbB (b r : Nat) (A : Option Addr) (n c off st bits cnt : Nat) : Hp := [.blk b 125 (rbc r A n c off st bits cnt)]
/-- where a reader stands: the bits that are ready are those from its place on -/
structure RbI (N n st off bits cnt : Nat) : Prop where
  so : st ≤ off
  on : off ≤ n
  lt : cnt < 32
  b32 : bits < 2 ^ 32
  low : bits % 2 ^ cnt = bitsN N (8 * off) cnt
theorem fetch_spec (b r : Nat) (A : Option Addr) (n c : Nat) (bs : List UInt8) (off st bits cnt q : Nat) (hn : n ≤ 16777216) (hI : RbI (num bs) n st off bits cnt) (hq : q ≤ 24) :
    FnS Tryd.prog 68 [.pointer (some ⟨b, 0, none⟩), .int .u8 q] (rbB b r A n c off st bits cnt)
      (fun w => Bytes w (blocks (rbB b r A n c off st bits cnt)) A n c bs)
      (fun v H => ∃ off' bits' cnt', 8 * off' + cnt' = 8 * off + cnt ∧ RbI (num bs) n st off' bits' cnt' ∧ H = rbB b r A n c off' st bits' cnt' ∧ ((v = vB true ∧ q ≤ cnt' ∧ 8 * st + q ≤ 8 * off + cnt) ∨ (v = vB false ∧ 8 * off + cnt < 8 * st + q))) := by
  refine FnS.intro Tryd.func68 rfl (by kernel_rfl) rfl fun w hH hp => ?_
  obtain rfl : bs.length = n := hp.len
  generalize hW : blocks (rbB b r A bs.length c off st bits cnt) = W at *
  generalize hP : 8 * off + cnt = p at *
  have eq : IntKind.u32.wrap (q : Int) = (q : Int) := IntWalk.u32_in _ (by omega)
  (conv => whnf); repeat ((first | refine RngK.mk (by omega) (by omega) ?_ | refine NzK.mk (by omega) ?_ | refine NnK.mk (by omega) ?_ | refine BdK.mk (by omega) (by omega) (by omega) ?_ | refine InsK.lit (by omega) (by omega) ?_ | refine SpK.lit ?_ | refine GrdK.same ?_ | refine GrdK.tf ?_ | refine GrdK.ft ?_ | refine PickK.t ?_ | refine PickK.f ?_); (conv => whnf))
  refine Wp.loop (fun s : Nat × Nat × Nat => [(0, .pointer (some ⟨b, 0, none⟩)), (1, .int .u8 q), (4, .bool false)]) (fun s => rbB b r A bs.length c s.1 st s.2.1 s.2.2) (fun s => 8 * s.1 + s.2.2 = p ∧ RbI (num bs) bs.length st s.1 s.2.1 s.2.2) (fun s => s.1) (off, bits, cnt)
    ⟨rfl, rfl, rfl, trivial⟩ (HSub.refl _) ⟨hP, hI⟩ fun ⟨off, bits, cnt⟩ ⟨hP, hI⟩ => ?_
  dsimp only at hP hI ⊢
  obtain ⟨i1, i2, i3, i4, i5⟩ := hI
  (conv => whnf); repeat ((first | refine RngK.mk (by omega) (by omega) ?_ | refine NzK.mk (by omega) ?_ | refine NnK.mk (by omega) ?_ | refine BdK.mk (by omega) (by omega) (by omega) ?_ | refine InsK.lit (by omega) (by omega) ?_ | refine SpK.lit ?_ | refine GrdK.same ?_ | refine GrdK.tf ?_ | refine GrdK.ft ?_ | refine PickK.t ?_ | refine PickK.f ?_); (conv => whnf))
  refine LdK.blk 0 rfl rfl rfl rfl ?_
  (conv => whnf); repeat ((first | refine RngK.mk (by omega) (by omega) ?_ | refine NzK.mk (by omega) ?_ | refine NnK.mk (by omega) ?_ | refine BdK.mk (by omega) (by omega) (by omega) ?_ | refine InsK.lit (by omega) (by omega) ?_ | refine SpK.lit ?_ | refine GrdK.same ?_ | refine GrdK.tf ?_ | refine GrdK.ft ?_ | refine PickK.t ?_ | refine PickK.f ?_); (conv => whnf))
  rw [eq]
  refine Wp.cond rfl (fun h => ?_) (fun h => ?_)
  · have h := dT h
    (conv => whnf); repeat ((first | refine RngK.mk (by omega) (by omega) ?_ | refine NzK.mk (by omega) ?_ | refine NnK.mk (by omega) ?_ | refine BdK.mk (by omega) (by omega) (by omega) ?_ | refine InsK.lit (by omega) (by omega) ?_ | refine SpK.lit ?_ | refine GrdK.same ?_ | refine GrdK.tf ?_ | refine GrdK.ft ?_ | refine PickK.t ?_ | refine PickK.f ?_); (conv => whnf))
    refine DrwK.ord (by kernel_rfl) [0, 1, 2, 3, 4, 5, 6, 7, 8] (by kernel_rfl) ?_; conv => whnf
    (conv => whnf); repeat ((first | refine RngK.mk (by omega) (by omega) ?_ | refine NzK.mk (by omega) ?_ | refine NnK.mk (by omega) ?_ | refine BdK.mk (by omega) (by omega) (by omega) ?_ | refine InsK.lit (by omega) (by omega) ?_ | refine SpK.lit ?_ | refine GrdK.same ?_ | refine GrdK.tf ?_ | refine GrdK.ft ?_ | refine PickK.t ?_ | refine PickK.f ?_); (conv => whnf))
    refine LdK.blk 0 rfl rfl rfl rfl ?_
    (conv => whnf); repeat ((first | refine RngK.mk (by omega) (by omega) ?_ | refine NzK.mk (by omega) ?_ | refine NnK.mk (by omega) ?_ | refine BdK.mk (by omega) (by omega) (by omega) ?_ | refine InsK.lit (by omega) (by omega) ?_ | refine SpK.lit ?_ | refine GrdK.same ?_ | refine GrdK.tf ?_ | refine GrdK.ft ?_ | refine PickK.t ?_ | refine PickK.f ?_); (conv => whnf))
    refine LdK.blk 0 rfl rfl rfl rfl ?_
    (conv => whnf); repeat ((first | refine RngK.mk (by omega) (by omega) ?_ | refine NzK.mk (by omega) ?_ | refine NnK.mk (by omega) ?_ | refine BdK.mk (by omega) (by omega) (by omega) ?_ | refine InsK.lit (by omega) (by omega) ?_ | refine SpK.lit ?_ | refine GrdK.same ?_ | refine GrdK.tf ?_ | refine GrdK.ft ?_ | refine PickK.t ?_ | refine PickK.f ?_); (conv => whnf))
    refine Wp.cond rfl (fun h4 => ?_) (fun h4 => ?_)
    · have h4 := dT h4
      (conv => whnf); repeat ((first | refine RngK.mk (by omega) (by omega) ?_ | refine NzK.mk (by omega) ?_ | refine NnK.mk (by omega) ?_ | refine BdK.mk (by omega) (by omega) (by omega) ?_ | refine InsK.lit (by omega) (by omega) ?_ | refine SpK.lit ?_ | refine GrdK.same ?_ | refine GrdK.tf ?_ | refine GrdK.ft ?_ | refine PickK.t ?_ | refine PickK.f ?_); (conv => whnf))
      exact ⟨off, bits, cnt, hP, ⟨i1, i2, i3, i4, i5⟩, rfl, .inr ⟨rfl, by omega⟩⟩
    · have h4 := dF h4
      have ho : off - 1 < bs.length := by omega
      (conv => whnf); repeat ((first | refine RngK.mk (by omega) (by omega) ?_ | refine NzK.mk (by omega) ?_ | refine NnK.mk (by omega) ?_ | refine BdK.mk (by omega) (by omega) (by omega) ?_ | refine InsK.lit (by omega) (by omega) ?_ | refine SpK.lit ?_ | refine GrdK.same ?_ | refine GrdK.tf ?_ | refine GrdK.ft ?_ | refine PickK.t ?_ | refine PickK.f ?_); (conv => whnf))
      refine LdK.blk 0 rfl rfl rfl rfl ?_
      (conv => whnf); repeat ((first | refine RngK.mk (by omega) (by omega) ?_ | refine NzK.mk (by omega) ?_ | refine NnK.mk (by omega) ?_ | refine BdK.mk (by omega) (by omega) (by omega) ?_ | refine InsK.lit (by omega) (by omega) ?_ | refine SpK.lit ?_ | refine GrdK.same ?_ | refine GrdK.tf ?_ | refine GrdK.ft ?_ | refine PickK.t ?_ | refine PickK.f ?_); (conv => whnf))
      refine StK.blkE 0 (rbc r A bs.length c (off - 1) st bits cnt) rfl rfl rfl rfl (Nat.le_of_ble_eq_true rfl) ?_ ?_
      · show [_, _, Value.int .u32 _, _, _, _] = [_, _, Value.int .u32 _, _, _, _]
        have : (off : Int) - 1 = ((off - 1 : Nat) : Int) := by omega
        rw [IntWalk.u32_in _ (by omega), this]
      (conv => whnf); repeat ((first | refine RngK.mk (by omega) (by omega) ?_ | refine NzK.mk (by omega) ?_ | refine NnK.mk (by omega) ?_ | refine BdK.mk (by omega) (by omega) (by omega) ?_ | refine InsK.lit (by omega) (by omega) ?_ | refine SpK.lit ?_ | refine GrdK.same ?_ | refine GrdK.tf ?_ | refine GrdK.ft ?_ | refine PickK.t ?_ | refine PickK.f ?_); (conv => whnf))
      refine DrwK.ord (by kernel_rfl) [0, 1, 2, 3, 4, 5, 6, 7, 8, 9, 10] (by kernel_rfl) ?_; conv => whnf
      (conv => whnf); repeat ((first | refine RngK.mk (by omega) (by omega) ?_ | refine NzK.mk (by omega) ?_ | refine NnK.mk (by omega) ?_ | refine BdK.mk (by omega) (by omega) (by omega) ?_ | refine InsK.lit (by omega) (by omega) ?_ | refine SpK.lit ?_ | refine GrdK.same ?_ | refine GrdK.tf ?_ | refine GrdK.ft ?_ | refine PickK.t ?_ | refine PickK.f ?_); (conv => whnf))
      refine LdK.blk 0 rfl rfl rfl rfl ?_
      (conv => whnf); repeat ((first | refine RngK.mk (by omega) (by omega) ?_ | refine NzK.mk (by omega) ?_ | refine NnK.mk (by omega) ?_ | refine BdK.mk (by omega) (by omega) (by omega) ?_ | refine InsK.lit (by omega) (by omega) ?_ | refine SpK.lit ?_ | refine GrdK.same ?_ | refine GrdK.tf ?_ | refine GrdK.ft ?_ | refine PickK.t ?_ | refine PickK.f ?_); (conv => whnf))
      refine LdK.blk 0 rfl rfl rfl rfl ?_
      (conv => whnf); repeat ((first | refine RngK.mk (by omega) (by omega) ?_ | refine NzK.mk (by omega) ?_ | refine NnK.mk (by omega) ?_ | refine BdK.mk (by omega) (by omega) (by omega) ?_ | refine InsK.lit (by omega) (by omega) ?_ | refine SpK.lit ?_ | refine GrdK.same ?_ | refine GrdK.tf ?_ | refine GrdK.ft ?_ | refine PickK.t ?_ | refine PickK.f ?_); (conv => whnf))
      refine InsK.rd hp.rd (by omega) (by omega) ?_
      (conv => whnf); repeat ((first | refine RngK.mk (by omega) (by omega) ?_ | refine NzK.mk (by omega) ?_ | refine NnK.mk (by omega) ?_ | refine BdK.mk (by omega) (by omega) (by omega) ?_ | refine InsK.lit (by omega) (by omega) ?_ | refine SpK.lit ?_ | refine GrdK.same ?_ | refine GrdK.tf ?_ | refine GrdK.ft ?_ | refine PickK.t ?_ | refine PickK.f ?_); (conv => whnf))
      refine LdK.rd (v := vU8 bs[off - 1]) hp.rd (off - 1) rfl rfl rfl (by simp [ho]) ?_
      (conv => whnf); repeat ((first | refine RngK.mk (by omega) (by omega) ?_ | refine NzK.mk (by omega) ?_ | refine NnK.mk (by omega) ?_ | refine BdK.mk (by omega) (by omega) (by omega) ?_ | refine InsK.lit (by omega) (by omega) ?_ | refine SpK.lit ?_ | refine GrdK.same ?_ | refine GrdK.tf ?_ | refine GrdK.ft ?_ | refine PickK.t ?_ | refine PickK.f ?_); (conv => whnf))
      refine LdK.blk 0 rfl rfl rfl rfl ?_
      (conv => whnf); repeat ((first | refine RngK.mk (by omega) (by omega) ?_ | refine NzK.mk (by omega) ?_ | refine NnK.mk (by omega) ?_ | refine BdK.mk (by omega) (by omega) (by omega) ?_ | refine InsK.lit (by omega) (by omega) ?_ | refine SpK.lit ?_ | refine GrdK.same ?_ | refine GrdK.tf ?_ | refine GrdK.ft ?_ | refine PickK.t ?_ | refine PickK.f ?_); (conv => whnf))
      have hb := bs[off - 1].toNat_lt
      have h2k : 2 ^ cnt ≤ 2 ^ 23 := Nat.pow_le_pow_right (by omega) (by omega)
      obtain ⟨nb, hnb⟩ : ∃ nb, nb = bits % 16777216 * 256 := ⟨_, rfl⟩
      have e8 : ishl .u32 (bits : Int) 8 = ((nb : Nat) : Int) := by
        rw [hnb]
        have := ishl_u (k := .u32) rfl bits (n := 8) (by show _ ≤ 32; omega)
        rw [show ((8 : Nat) : Int) = (8 : Int) from rfl] at this
        rw [this]
        show (((bits * 256 % 4294967296 : Nat)) : Int) = _
        omega
      have hnl : nb < 4294967296 := by omega
      obtain ⟨x, hx⟩ : ∃ x, x = bs[off - 1].toNat := ⟨_, rfl⟩
      obtain ⟨nc, hnc⟩ : ∃ nc, nc = nb + x := ⟨_, rfl⟩
      refine StK.blkE 0 (rbc r A bs.length c (off - 1) st nb cnt) rfl rfl rfl rfl (Nat.le_of_ble_eq_true rfl) ?_ ?_
      · show [_, _, _, _, Value.int .u32 _, _] = [_, _, _, _, Value.int .u32 _, _]
        rw [e8]
      (conv => whnf); repeat ((first | refine RngK.mk (by omega) (by omega) ?_ | refine NzK.mk (by omega) ?_ | refine NnK.mk (by omega) ?_ | refine BdK.mk (by omega) (by omega) (by omega) ?_ | refine InsK.lit (by omega) (by omega) ?_ | refine SpK.lit ?_ | refine GrdK.same ?_ | refine GrdK.tf ?_ | refine GrdK.ft ?_ | refine PickK.t ?_ | refine PickK.f ?_); (conv => whnf))
      refine LdK.blk 0 rfl rfl rfl rfl ?_
      (conv => whnf); repeat ((first | refine RngK.mk (by omega) (by omega) ?_ | refine NzK.mk (by omega) ?_ | refine NnK.mk (by omega) ?_ | refine BdK.mk (by omega) (by omega) (by omega) ?_ | refine InsK.lit (by omega) (by omega) ?_ | refine SpK.lit ?_ | refine GrdK.same ?_ | refine GrdK.tf ?_ | refine GrdK.ft ?_ | refine PickK.t ?_ | refine PickK.f ?_); (conv => whnf))
      refine StK.blkE 0 (rbc r A bs.length c (off - 1) st nc cnt) rfl rfl rfl rfl (Nat.le_of_ble_eq_true rfl) ?_ ?_
      · show [_, _, _, _, Value.int .u32 _, _] = [_, _, _, _, Value.int .u32 _, _]
        rw [← hx] at hb ⊢
        have e1 : IntKind.u32.wrap (x : Int) = (x : Int) := wrap_u_lt (k := .u32) rfl (by show _ < 2 ^ 32; omega)
        have e9 : x ||| bits % 16777216 * 256 = x + bits % 16777216 * 256 := or_add (i := 8) (by omega)
        rw [e1, ior_u (k := .u32) rfl (by show _ < 2 ^ 32; omega) (by show _ < 2 ^ 32; omega), hnc, hnb, Nat.or_comm, e9, Nat.add_comm]
      (conv => whnf); repeat ((first | refine RngK.mk (by omega) (by omega) ?_ | refine NzK.mk (by omega) ?_ | refine NnK.mk (by omega) ?_ | refine BdK.mk (by omega) (by omega) (by omega) ?_ | refine InsK.lit (by omega) (by omega) ?_ | refine SpK.lit ?_ | refine GrdK.same ?_ | refine GrdK.tf ?_ | refine GrdK.ft ?_ | refine PickK.t ?_ | refine PickK.f ?_); (conv => whnf))
      refine LdK.blk 0 rfl rfl rfl rfl ?_
      (conv => whnf); repeat ((first | refine RngK.mk (by omega) (by omega) ?_ | refine NzK.mk (by omega) ?_ | refine NnK.mk (by omega) ?_ | refine BdK.mk (by omega) (by omega) (by omega) ?_ | refine InsK.lit (by omega) (by omega) ?_ | refine SpK.lit ?_ | refine GrdK.same ?_ | refine GrdK.tf ?_ | refine GrdK.ft ?_ | refine PickK.t ?_ | refine PickK.f ?_); (conv => whnf))
      refine StK.blkE 0 (rbc r A bs.length c (off - 1) st nc (cnt + 8)) rfl rfl rfl rfl (Nat.le_of_ble_eq_true rfl) ?_ ?_
      · show [_, _, _, _, _, Value.int .u32 _] = [_, _, _, _, _, Value.int .u32 _]
        have : IntKind.u32.wrap ((cnt : Int) + 8) = ((cnt + 8 : Nat) : Int) := wrap_u_lt (k := .u32) (n := cnt + 8) rfl (by show _ < 2 ^ 32; omega)
        rw [this]
      (conv => whnf); repeat ((first | refine RngK.mk (by omega) (by omega) ?_ | refine NzK.mk (by omega) ?_ | refine NnK.mk (by omega) ?_ | refine BdK.mk (by omega) (by omega) (by omega) ?_ | refine InsK.lit (by omega) (by omega) ?_ | refine SpK.lit ?_ | refine GrdK.same ?_ | refine GrdK.tf ?_ | refine GrdK.ft ?_ | refine PickK.t ?_ | refine PickK.f ?_); (conv => whnf))
      have hlow : nc % 2 ^ (cnt + 8) = bitsN (num bs) (8 * (off - 1)) (cnt + 8) := by
        rw [Nat.add_comm cnt 8, bitsN_split, ← num_byte ho, ← hx]
        have e3 : 8 * (off - 1) + 8 = 8 * off := by omega
        have e4 : bits % 16777216 % 2 ^ cnt = bits % 2 ^ cnt := Nat.mod_mod_of_dvd _ (Nat.pow_dvd_pow 2 (show cnt ≤ 24 by omega))
        rw [e3, ← i5, ← e4, hnc, hnb, Nat.pow_add]
        rw [← hx] at hb
        have h8 : x < 2 ^ 8 := by omega
        show (bits % 16777216 * 2 ^ 8 + x) % (2 ^ 8 * 2 ^ cnt) = _
        rw [Nat.add_comm (bits % 16777216 * 2 ^ 8), Nat.mul_comm (bits % 16777216)]
        generalize bits % 16777216 = y
        rw [Nat.mod_mul, Nat.add_mul_mod_self_left, Nat.mod_eq_of_lt h8, Nat.add_mul_div_left _ _ (Nat.two_pow_pos 8), Nat.div_eq_of_lt h8, Nat.zero_add, Nat.mul_comm (2 ^ 8)]
      exact ⟨(off - 1, nc, cnt + 8), ⟨rfl, rfl, rfl, trivial⟩, HSub.refl _, ⟨by simp only; omega, ⟨by simp only; omega, by simp only; omega, by simp only; omega, by simp only; omega, hlow⟩⟩, by simp only; omega⟩
  · have h := dF h
    (conv => whnf); repeat ((first | refine RngK.mk (by omega) (by omega) ?_ | refine NzK.mk (by omega) ?_ | refine NnK.mk (by omega) ?_ | refine BdK.mk (by omega) (by omega) (by omega) ?_ | refine InsK.lit (by omega) (by omega) ?_ | refine SpK.lit ?_ | refine GrdK.same ?_ | refine GrdK.tf ?_ | refine GrdK.ft ?_ | refine PickK.t ?_ | refine PickK.f ?_); (conv => whnf))
    exact ⟨off, bits, cnt, hP, ⟨i1, i2, i3, i4, i5⟩, rfl, .inl ⟨rfl, by omega, by omega⟩⟩
/-- what fetching a value comes to -/
abbrev RvQ (b r : Nat) (A : Option Addr) (n c N off st cnt q : Nat) : Value → Hp → Prop := fun v H =>
  ∃ off' bits' cnt', RbI N n st off' bits' cnt' ∧ H = rbB b r A n c off' st bits' cnt' ∧
    ((8 * st + q ≤ 8 * off + cnt ∧ 8 * off' + cnt' + q = 8 * off + cnt ∧ v = .tuple #[.int .u32 (bitsN N (8 * off + cnt - q) q : Nat), .nilIface]) ∨
     (8 * off + cnt < 8 * st + q ∧ 8 * off' + cnt' = 8 * off + cnt ∧ ∃ T x, v = .tuple #[.int .u32 0, .iface T x]))
theorem rval_spec (b r : Nat) (A : Option Addr) (n c : Nat) (bs : List UInt8) (e u : Addr) (off st bits cnt q : Nat) (hn : n ≤ 16777216) (hI : RbI (num bs) n st off bits cnt) (hq : q ≤ 24) :
    FnS Tryd.prog 67 [.pointer (some ⟨b, 0, none⟩), .int .u8 q] (rbB b r A n c off st bits cnt)
      (fun w => BrPre w (blocks (rbB b r A n c off st bits cnt)) r A n c bs e u) (RvQ b r A n c (num bs) off st cnt q) := by
  refine FnS.intro Tryd.func67 rfl (by kernel_rfl) rfl fun w hH hp => ?_
  (conv => whnf); repeat ((first | refine RngK.mk (by omega) (by omega) ?_ | refine NzK.mk (by omega) ?_ | refine NnK.mk (by omega) ?_ | refine BdK.mk (by omega) (by omega) (by omega) ?_ | refine InsK.lit (by omega) (by omega) ?_ | refine SpK.lit ?_ | refine GrdK.same ?_ | refine GrdK.tf ?_ | refine GrdK.ft ?_ | refine PickK.t ?_ | refine PickK.f ?_); (conv => whnf))
  refine CallK.of [0] (fetch_spec b r A n c bs off st bits cnt q hn hI hq) rfl (fun w hw => hp.by_.pass hw) ?_
  rintro v _ ⟨off', bits', cnt', g1, g2, rfl, hv⟩
  obtain ⟨i1, i2, i3, i4, i5⟩ := g2
  rcases hv with ⟨rfl, g3, g4⟩ | ⟨rfl, g3⟩
  · (conv => whnf); repeat ((first | refine RngK.mk (by omega) (by omega) ?_ | refine NzK.mk (by omega) ?_ | refine NnK.mk (by omega) ?_ | refine BdK.mk (by omega) (by omega) (by omega) ?_ | refine InsK.lit (by omega) (by omega) ?_ | refine SpK.lit ?_ | refine GrdK.same ?_ | refine GrdK.tf ?_ | refine GrdK.ft ?_ | refine PickK.t ?_ | refine PickK.f ?_); (conv => whnf))
    refine Wp.cond rfl (fun h => by cases h) (fun _ => ?_)
    (conv => whnf); repeat ((first | refine RngK.mk (by omega) (by omega) ?_ | refine NzK.mk (by omega) ?_ | refine NnK.mk (by omega) ?_ | refine BdK.mk (by omega) (by omega) (by omega) ?_ | refine InsK.lit (by omega) (by omega) ?_ | refine SpK.lit ?_ | refine GrdK.same ?_ | refine GrdK.tf ?_ | refine GrdK.ft ?_ | refine PickK.t ?_ | refine PickK.f ?_); (conv => whnf))
    refine LdK.blk 0 rfl rfl rfl rfl ?_
    (conv => whnf); repeat ((first | refine RngK.mk (by omega) (by omega) ?_ | refine NzK.mk (by omega) ?_ | refine NnK.mk (by omega) ?_ | refine BdK.mk (by omega) (by omega) (by omega) ?_ | refine InsK.lit (by omega) (by omega) ?_ | refine SpK.lit ?_ | refine GrdK.same ?_ | refine GrdK.tf ?_ | refine GrdK.ft ?_ | refine PickK.t ?_ | refine PickK.f ?_); (conv => whnf))
    have eq : IntKind.u32.wrap (q : Int) = (q : Int) := IntWalk.u32_in _ (by omega)
    refine StK.blkE 0 (rbc r A n c off' st bits' (cnt' - q)) rfl rfl rfl rfl (Nat.le_of_ble_eq_true rfl) ?_ ?_
    · show [_, _, _, _, _, Value.int .u32 _] = [_, _, _, _, _, Value.int .u32 _]
      rw [eq, IntWalk.u32_in _ (by omega)]
      have : (cnt' : Int) - (q : Int) = ((cnt' - q : Nat) : Int) := by omega
      rw [this]
    (conv => whnf); repeat ((first | refine RngK.mk (by omega) (by omega) ?_ | refine NzK.mk (by omega) ?_ | refine NnK.mk (by omega) ?_ | refine BdK.mk (by omega) (by omega) (by omega) ?_ | refine InsK.lit (by omega) (by omega) ?_ | refine SpK.lit ?_ | refine GrdK.same ?_ | refine GrdK.tf ?_ | refine GrdK.ft ?_ | refine PickK.t ?_ | refine PickK.f ?_); (conv => whnf))
    refine DrwK.ord (by kernel_rfl) [0, 1, 2, 3, 4, 5, 6, 7, 8, 9, 10, 11, 12, 13] (by kernel_rfl) ?_; conv => whnf
    (conv => whnf); repeat ((first | refine RngK.mk (by omega) (by omega) ?_ | refine NzK.mk (by omega) ?_ | refine NnK.mk (by omega) ?_ | refine BdK.mk (by omega) (by omega) (by omega) ?_ | refine InsK.lit (by omega) (by omega) ?_ | refine SpK.lit ?_ | refine GrdK.same ?_ | refine GrdK.tf ?_ | refine GrdK.ft ?_ | refine PickK.t ?_ | refine PickK.f ?_); (conv => whnf))
    refine LdK.blk 0 rfl rfl rfl rfl ?_
    (conv => whnf); repeat ((first | refine RngK.mk (by omega) (by omega) ?_ | refine NzK.mk (by omega) ?_ | refine NnK.mk (by omega) ?_ | refine BdK.mk (by omega) (by omega) (by omega) ?_ | refine InsK.lit (by omega) (by omega) ?_ | refine SpK.lit ?_ | refine GrdK.same ?_ | refine GrdK.tf ?_ | refine GrdK.ft ?_ | refine PickK.t ?_ | refine PickK.f ?_); (conv => whnf))
    refine LdK.blk 0 rfl rfl rfl rfl ?_
    (conv => whnf); repeat ((first | refine RngK.mk (by omega) (by omega) ?_ | refine NzK.mk (by omega) ?_ | refine NnK.mk (by omega) ?_ | refine BdK.mk (by omega) (by omega) (by omega) ?_ | refine InsK.lit (by omega) (by omega) ?_ | refine SpK.lit ?_ | refine GrdK.same ?_ | refine GrdK.tf ?_ | refine GrdK.ft ?_ | refine PickK.t ?_ | refine PickK.f ?_); (conv => whnf))
    have h2q : 2 ^ q ≤ 2 ^ 24 := Nat.pow_le_pow_right (by omega) hq
    have h2p := Nat.two_pow_pos q
    have e0 : ishl .u32 1 (q : Int) = ((2 ^ q : Nat) : Int) := by
      have := ishl_u (k := .u32) rfl 1 (n := q) (by show _ ≤ 32; omega)
      rw [show (1 : Int) = ((1 : Nat) : Int) from rfl, this, Nat.one_mul, Nat.mod_eq_of_lt (by show _ < 2 ^ 32; omega)]
    have e1 : IntKind.u32.wrap (((2 ^ q : Nat) : Int) - 1) = ((2 ^ q - 1 : Nat) : Int) := by
      rw [IntWalk.u32_in _ (by omega)]
      omega
    have e2 : ishr .u32 (bits' : Int) ((cnt' - q : Nat) : Int) = ((bits' / 2 ^ (cnt' - q) : Nat) : Int) := ishr_nat .u32 bits' (by show _ ≤ 32; omega)
    have hd : bits' / 2 ^ (cnt' - q) < 2 ^ 32 := Nat.lt_of_le_of_lt (Nat.div_le_self _ _) i4
    have e3 : iand .u32 ((bits' / 2 ^ (cnt' - q) : Nat) : Int) ((2 ^ q - 1 : Nat) : Int) = ((bitsN (num bs) (8 * off + cnt - q) q : Nat) : Int) := by
      rw [iand_u (k := .u32) rfl hd (by show _ < 2 ^ 32; omega), Nat.and_two_pow_sub_one_eq_mod]
      have e4 : bitsN (num bs) (8 * off + cnt - q) q = bitsN (num bs) (8 * off' + (cnt' - q)) (cnt' - (cnt' - q)) := by
        have h1 : 8 * off + cnt - q = 8 * off' + (cnt' - q) := by omega
        have h2 : cnt' - (cnt' - q) = q := by omega
        rw [h1, h2]
      rw [e4, ← bitsN_shr _ _ (by omega), ← i5]
      have e5 : 2 ^ cnt' = 2 ^ (cnt' - q) * 2 ^ q := by rw [← Nat.pow_add]; congr 1; omega
      rw [e5, Nat.mod_mul_right_div_self]
    rw [e0, e1, e2, e3]
    (conv => whnf); repeat ((first | refine RngK.mk (by omega) (by omega) ?_ | refine NzK.mk (by omega) ?_ | refine NnK.mk (by omega) ?_ | refine BdK.mk (by omega) (by omega) (by omega) ?_ | refine InsK.lit (by omega) (by omega) ?_ | refine SpK.lit ?_ | refine GrdK.same ?_ | refine GrdK.tf ?_ | refine GrdK.ft ?_ | refine PickK.t ?_ | refine PickK.f ?_); (conv => whnf))
    refine ⟨off', bits', cnt' - q, ⟨i1, i2, by omega, i4, ?_⟩, rfl, .inl ⟨g4, by omega, rfl⟩⟩
    have e6 : bits' % 2 ^ cnt' % 2 ^ (cnt' - q) = bits' % 2 ^ (cnt' - q) := Nat.mod_mod_of_dvd _ (Nat.pow_dvd_pow 2 (by omega))
    rw [← e6, i5, bitsN_low _ _ (by omega)]
  · (conv => whnf); repeat ((first | refine RngK.mk (by omega) (by omega) ?_ | refine NzK.mk (by omega) ?_ | refine NnK.mk (by omega) ?_ | refine BdK.mk (by omega) (by omega) (by omega) ?_ | refine InsK.lit (by omega) (by omega) ?_ | refine SpK.lit ?_ | refine GrdK.same ?_ | refine GrdK.tf ?_ | refine GrdK.ft ?_ | refine PickK.t ?_ | refine PickK.f ?_); (conv => whnf))
    refine Wp.cond rfl (fun _ => ?_) (fun h => by cases h)
    (conv => whnf); repeat ((first | refine RngK.mk (by omega) (by omega) ?_ | refine NzK.mk (by omega) ?_ | refine NnK.mk (by omega) ?_ | refine BdK.mk (by omega) (by omega) (by omega) ?_ | refine InsK.lit (by omega) (by omega) ?_ | refine SpK.lit ?_ | refine GrdK.same ?_ | refine GrdK.tf ?_ | refine GrdK.ft ?_ | refine PickK.t ?_ | refine PickK.f ?_); (conv => whnf))
    refine DrwK.ord (by kernel_rfl) [0, 1, 2, 3, 4, 5, 6, 7, 8, 9, 10, 11] (by kernel_rfl) ?_; conv => whnf
    (conv => whnf); repeat ((first | refine RngK.mk (by omega) (by omega) ?_ | refine NzK.mk (by omega) ?_ | refine NnK.mk (by omega) ?_ | refine BdK.mk (by omega) (by omega) (by omega) ?_ | refine InsK.lit (by omega) (by omega) ?_ | refine SpK.lit ?_ | refine GrdK.same ?_ | refine GrdK.tf ?_ | refine GrdK.ft ?_ | refine PickK.t ?_ | refine PickK.f ?_); (conv => whnf))
    refine LdK.blk 0 rfl rfl rfl rfl ?_
    (conv => whnf); repeat ((first | refine RngK.mk (by omega) (by omega) ?_ | refine NzK.mk (by omega) ?_ | refine NnK.mk (by omega) ?_ | refine BdK.mk (by omega) (by omega) (by omega) ?_ | refine InsK.lit (by omega) (by omega) ?_ | refine SpK.lit ?_ | refine GrdK.same ?_ | refine GrdK.tf ?_ | refine GrdK.ft ?_ | refine PickK.t ?_ | refine PickK.f ?_); (conv => whnf))
    refine LdK.blk 0 rfl rfl rfl rfl ?_
    (conv => whnf); repeat ((first | refine RngK.mk (by omega) (by omega) ?_ | refine NzK.mk (by omega) ?_ | refine NnK.mk (by omega) ?_ | refine BdK.mk (by omega) (by omega) (by omega) ?_ | refine InsK.lit (by omega) (by omega) ?_ | refine SpK.lit ?_ | refine GrdK.same ?_ | refine GrdK.tf ?_ | refine GrdK.ft ?_ | refine PickK.t ?_ | refine PickK.f ?_); (conv => whnf))
    refine CallK.of [] (eof_spec r off' e u (by omega) (by omega)) rfl (fun w hw => ⟨hp.la.pass hw, hp.rr.pass hw⟩) ?_
    rintro _ _ ⟨⟨T, x, rfl⟩, rfl⟩
    (conv => whnf); repeat ((first | refine RngK.mk (by omega) (by omega) ?_ | refine NzK.mk (by omega) ?_ | refine NnK.mk (by omega) ?_ | refine BdK.mk (by omega) (by omega) (by omega) ?_ | refine InsK.lit (by omega) (by omega) ?_ | refine SpK.lit ?_ | refine GrdK.same ?_ | refine GrdK.tf ?_ | refine GrdK.ft ?_ | refine PickK.t ?_ | refine PickK.f ?_); (conv => whnf))
    repeat (refine KfK.of (LdK.blk 0 rfl rfl rfl rfl rfl) ?_; conv => whnf)
    (conv => whnf); repeat ((first | refine RngK.mk (by omega) (by omega) ?_ | refine NzK.mk (by omega) ?_ | refine NnK.mk (by omega) ?_ | refine BdK.mk (by omega) (by omega) (by omega) ?_ | refine InsK.lit (by omega) (by omega) ?_ | refine SpK.lit ?_ | refine GrdK.same ?_ | refine GrdK.tf ?_ | refine GrdK.ft ?_ | refine PickK.t ?_ | refine PickK.f ?_); (conv => whnf))
    exact ⟨off', bits', cnt', ⟨i1, i2, i3, i4, i5⟩, rfl, .inr ⟨g3, g1, T, x, rfl⟩⟩
theorem makeReverse_spec (r : Nat) (A : Option Addr) (n c o st : Nat) (bs : List UInt8) (e u : Addr) (hn : n ≤ 16777216) (ho : o < bs.length) (hs : st ≤ o) :
    FnS Tryd.prog 66 [.pointer (some ⟨r, 0, none⟩), .slice A n c, vI o, vI st] [] (fun w => BrPre w (blocks []) r A n c bs e u)
      (fun v H => H = [] ∧ ((bs[o].toNat = 0 ∧ ∃ cs T x, cs.size = 6 ∧ cs.toList.all (·.oneCell') = true ∧ v = .tuple #[.agg cs, .iface T x]) ∨
        (0 < bs[o].toNat ∧ v = .tuple #[.agg (rbc r A n c o st bs[o].toNat (wd bs[o].toNat - 1)).toArray, .nilIface]))) := by
  refine FnS.introD Tryd.func66 rfl (by kernel_rfl) rfl fun w hH hp => ?_
  obtain rfl : bs.length = n := hp.by_.len
  (conv => whnf); repeat ((first | refine RngK.mk (by omega) (by omega) ?_ | refine NzK.mk (by omega) ?_ | refine NnK.mk (by omega) ?_ | refine BdK.mk (by omega) (by omega) (by omega) ?_ | refine InsK.lit (by omega) (by omega) ?_ | refine SpK.lit ?_ | refine GrdK.same ?_ | refine GrdK.tf ?_ | refine GrdK.ft ?_ | refine PickK.t ?_ | refine PickK.f ?_); (conv => whnf))
  refine ⟨_, _, rfl, rfl, ?_⟩
  intro b8
  (conv => whnf); repeat ((first | refine RngK.mk (by omega) (by omega) ?_ | refine NzK.mk (by omega) ?_ | refine NnK.mk (by omega) ?_ | refine BdK.mk (by omega) (by omega) (by omega) ?_ | refine InsK.lit (by omega) (by omega) ?_ | refine SpK.lit ?_ | refine GrdK.same ?_ | refine GrdK.tf ?_ | refine GrdK.ft ?_ | refine PickK.t ?_ | refine PickK.f ?_); (conv => whnf))
  refine InsK.rd hp.by_.rd (by omega) (by omega) ?_
  (conv => whnf); repeat ((first | refine RngK.mk (by omega) (by omega) ?_ | refine NzK.mk (by omega) ?_ | refine NnK.mk (by omega) ?_ | refine BdK.mk (by omega) (by omega) (by omega) ?_ | refine InsK.lit (by omega) (by omega) ?_ | refine SpK.lit ?_ | refine GrdK.same ?_ | refine GrdK.tf ?_ | refine GrdK.ft ?_ | refine PickK.t ?_ | refine PickK.f ?_); (conv => whnf))
  refine LdK.rd (v := vU8 bs[o]) hp.by_.rd o rfl rfl rfl (by simp [ho]) ?_
  (conv => whnf); repeat ((first | refine RngK.mk (by omega) (by omega) ?_ | refine NzK.mk (by omega) ?_ | refine NnK.mk (by omega) ?_ | refine BdK.mk (by omega) (by omega) (by omega) ?_ | refine InsK.lit (by omega) (by omega) ?_ | refine SpK.lit ?_ | refine GrdK.same ?_ | refine GrdK.tf ?_ | refine GrdK.ft ?_ | refine PickK.t ?_ | refine PickK.f ?_); (conv => whnf))
  refine Wp.cond rfl (fun g => ?_) (fun g => ?_)
  · have g := eqT g
    (conv => whnf); repeat ((first | refine RngK.mk (by omega) (by omega) ?_ | refine NzK.mk (by omega) ?_ | refine NnK.mk (by omega) ?_ | refine BdK.mk (by omega) (by omega) (by omega) ?_ | refine InsK.lit (by omega) (by omega) ?_ | refine SpK.lit ?_ | refine GrdK.same ?_ | refine GrdK.tf ?_ | refine GrdK.ft ?_ | refine PickK.t ?_ | refine PickK.f ?_); (conv => whnf))
    refine ValK.build rfl ?_
    (conv => whnf); repeat ((first | refine RngK.mk (by omega) (by omega) ?_ | refine NzK.mk (by omega) ?_ | refine NnK.mk (by omega) ?_ | refine BdK.mk (by omega) (by omega) (by omega) ?_ | refine InsK.lit (by omega) (by omega) ?_ | refine SpK.lit ?_ | refine GrdK.same ?_ | refine GrdK.tf ?_ | refine GrdK.ft ?_ | refine PickK.t ?_ | refine PickK.f ?_); (conv => whnf))
    refine CallK.of [] (err_spec r o _ e u (by omega) (by omega)) rfl (fun w hw => ⟨hp.la.pass hw, hp.rr.pass hw⟩) ?_
    rintro _ _ ⟨⟨T, x, rfl⟩, rfl⟩
    (conv => whnf); repeat ((first | refine RngK.mk (by omega) (by omega) ?_ | refine NzK.mk (by omega) ?_ | refine NnK.mk (by omega) ?_ | refine BdK.mk (by omega) (by omega) (by omega) ?_ | refine InsK.lit (by omega) (by omega) ?_ | refine SpK.lit ?_ | refine GrdK.same ?_ | refine GrdK.tf ?_ | refine GrdK.ft ?_ | refine PickK.t ?_ | refine PickK.f ?_); (conv => whnf))
    refine StK.blkNE 0 _ rfl rfl rfl rfl rfl rfl ?_
    (conv => whnf); repeat ((first | refine RngK.mk (by omega) (by omega) ?_ | refine NzK.mk (by omega) ?_ | refine NnK.mk (by omega) ?_ | refine BdK.mk (by omega) (by omega) (by omega) ?_ | refine InsK.lit (by omega) (by omega) ?_ | refine SpK.lit ?_ | refine GrdK.same ?_ | refine GrdK.tf ?_ | refine GrdK.ft ?_ | refine PickK.t ?_ | refine PickK.f ?_); (conv => whnf))
    refine LdK.blkN 0 rfl rfl rfl rfl rfl ?_
    (conv => whnf); repeat ((first | refine RngK.mk (by omega) (by omega) ?_ | refine NzK.mk (by omega) ?_ | refine NnK.mk (by omega) ?_ | refine BdK.mk (by omega) (by omega) (by omega) ?_ | refine InsK.lit (by omega) (by omega) ?_ | refine SpK.lit ?_ | refine GrdK.same ?_ | refine GrdK.tf ?_ | refine GrdK.ft ?_ | refine PickK.t ?_ | refine PickK.f ?_); (conv => whnf))
    exact ⟨[], HSub.nil _, rfl, .inl ⟨by omega, _, T, x, rfl, rfl, rfl⟩⟩
  · have g := eqF g
    have hb : 0 < bs[o].toNat := by omega
    have hb2 := bs[o].toNat_lt
    have hw : wd bs[o].toNat ≤ 8 := wd_lt (by omega)
    have hw2 := wd_pos hb
    (conv => whnf); repeat ((first | refine RngK.mk (by omega) (by omega) ?_ | refine NzK.mk (by omega) ?_ | refine NnK.mk (by omega) ?_ | refine BdK.mk (by omega) (by omega) (by omega) ?_ | refine InsK.lit (by omega) (by omega) ?_ | refine SpK.lit ?_ | refine GrdK.same ?_ | refine GrdK.tf ?_ | refine GrdK.ft ?_ | refine PickK.t ?_ | refine PickK.f ?_); (conv => whnf))
    refine CallK.of0 (lz8_spec bs[o]) ?_
    rintro _ _ ⟨rfl, rfl⟩
    generalize wd bs[o].toNat = wv at hw hw2 ⊢
    (conv => whnf); repeat ((first | refine RngK.mk (by omega) (by omega) ?_ | refine NzK.mk (by omega) ?_ | refine NnK.mk (by omega) ?_ | refine BdK.mk (by omega) (by omega) (by omega) ?_ | refine InsK.lit (by omega) (by omega) ?_ | refine SpK.lit ?_ | refine GrdK.same ?_ | refine GrdK.tf ?_ | refine GrdK.ft ?_ | refine PickK.t ?_ | refine PickK.f ?_); (conv => whnf))
    refine ValK.buildS 6 rfl rfl rfl rfl rfl rfl rfl ?_
    (conv => whnf); repeat ((first | refine RngK.mk (by omega) (by omega) ?_ | refine NzK.mk (by omega) ?_ | refine NnK.mk (by omega) ?_ | refine BdK.mk (by omega) (by omega) (by omega) ?_ | refine InsK.lit (by omega) (by omega) ?_ | refine SpK.lit ?_ | refine GrdK.same ?_ | refine GrdK.tf ?_ | refine GrdK.ft ?_ | refine PickK.t ?_ | refine PickK.f ?_); (conv => whnf))
    refine ⟨_, _, rfl, rfl, ?_⟩
    intro b11
    (conv => whnf); repeat ((first | refine RngK.mk (by omega) (by omega) ?_ | refine NzK.mk (by omega) ?_ | refine NnK.mk (by omega) ?_ | refine BdK.mk (by omega) (by omega) (by omega) ?_ | refine InsK.lit (by omega) (by omega) ?_ | refine SpK.lit ?_ | refine GrdK.same ?_ | refine GrdK.tf ?_ | refine GrdK.ft ?_ | refine PickK.t ?_ | refine PickK.f ?_); (conv => whnf))
    refine StK.blkNE 0 (rbc r A bs.length c o st bs[o].toNat (wv - 1)) rfl rfl rfl rfl rfl ?_ ?_
    · show [_, _, Value.int .u32 _, Value.int .u32 _, Value.int .u32 _, Value.int .u32 _] = [_, _, Value.int .u32 _, Value.int .u32 _, Value.int .u32 _, Value.int .u32 _]
      have e1 : IntKind.u32.wrap (o : Int) = (o : Int) := IntWalk.u32_in _ (by omega)
      have e2 : IntKind.u32.wrap (st : Int) = (st : Int) := IntWalk.u32_in _ (by omega)
      have e3 : IntKind.u32.wrap (bs[o].toNat : Int) = (bs[o].toNat : Int) := IntWalk.u32_in _ (by omega)
      have e4 : IntKind.u32.wrap (7 - ((8 - wv : Nat) : Int)) = ((wv - 1 : Nat) : Int) := by
        rw [IntWalk.u32_in _ (by omega)]; omega
      rw [e1, e2, e3, e4]
    (conv => whnf); repeat ((first | refine RngK.mk (by omega) (by omega) ?_ | refine NzK.mk (by omega) ?_ | refine NnK.mk (by omega) ?_ | refine BdK.mk (by omega) (by omega) (by omega) ?_ | refine InsK.lit (by omega) (by omega) ?_ | refine SpK.lit ?_ | refine GrdK.same ?_ | refine GrdK.tf ?_ | refine GrdK.ft ?_ | refine PickK.t ?_ | refine PickK.f ?_); (conv => whnf))
    refine LdK.blkN 0 rfl rfl rfl rfl rfl ?_
    (conv => whnf); repeat ((first | refine RngK.mk (by omega) (by omega) ?_ | refine NzK.mk (by omega) ?_ | refine NnK.mk (by omega) ?_ | refine BdK.mk (by omega) (by omega) (by omega) ?_ | refine InsK.lit (by omega) (by omega) ?_ | refine SpK.lit ?_ | refine GrdK.same ?_ | refine GrdK.tf ?_ | refine GrdK.ft ?_ | refine PickK.t ?_ | refine PickK.f ?_); (conv => whnf))
    refine StK.blkNE 1 (rbc r A bs.length c o st bs[o].toNat (wv - 1)) rfl rfl rfl rfl rfl rfl ?_
    (conv => whnf); repeat ((first | refine RngK.mk (by omega) (by omega) ?_ | refine NzK.mk (by omega) ?_ | refine NnK.mk (by omega) ?_ | refine BdK.mk (by omega) (by omega) (by omega) ?_ | refine InsK.lit (by omega) (by omega) ?_ | refine SpK.lit ?_ | refine GrdK.same ?_ | refine GrdK.tf ?_ | refine GrdK.ft ?_ | refine PickK.t ?_ | refine PickK.f ?_); (conv => whnf))
    refine LdK.blkN 1 rfl rfl rfl rfl rfl ?_
    (conv => whnf); repeat ((first | refine RngK.mk (by omega) (by omega) ?_ | refine NzK.mk (by omega) ?_ | refine NnK.mk (by omega) ?_ | refine BdK.mk (by omega) (by omega) (by omega) ?_ | refine InsK.lit (by omega) (by omega) ?_ | refine SpK.lit ?_ | refine GrdK.same ?_ | refine GrdK.tf ?_ | refine GrdK.ft ?_ | refine PickK.t ?_ | refine PickK.f ?_); (conv => whnf))
    exact ⟨[], HSub.nil _, rfl, .inr ⟨hb, rfl⟩⟩
theorem RbI.start {bs : List UInt8} {o st : Nat} (ho : o < bs.length) (hs : st ≤ o) : RbI (num bs) bs.length st o bs[o].toNat (wd bs[o].toNat - 1) := by
  have hb2 := bs[o].toNat_lt
  have hw : wd bs[o].toNat ≤ 8 := wd_lt (by omega)
  refine ⟨hs, by omega, by omega, by omega, ?_⟩
  have h := bitsN_low (num bs) (8 * o) (b := wd bs[o].toNat - 1) (c := 8) (by omega)
  rw [← num_byte ho] at h
  exact h
theorem rbErr_spec (b r : Nat) (A : Option Addr) (n c off st bits cnt : Nat) (s : ByteArray) (e u : Addr) (ho : off < 2 ^ 31) :
    FnS Tryd.prog 69 [.pointer (some ⟨b, 0, none⟩), .string s] (rbB b r A n c off st bits cnt)
      (fun w => Laid w (blocks (rbB b r A n c off st bits cnt)) e u ∧ Rd w (blocks (rbB b r A n c off st bits cnt)) (some ⟨r, 6, none⟩) 1 1 [.int .i64 0])
      (fun v H => (∃ T x, v = .iface T x) ∧ H = rbB b r A n c off st bits cnt) := by
  refine FnS.intro Tryd.func69 rfl (by kernel_rfl) rfl fun w hH ⟨hL, hR⟩ => ?_
  generalize hW : blocks (rbB b r A n c off st bits cnt) = W at *
  (conv => whnf); repeat ((first | refine RngK.mk (by omega) (by omega) ?_ | refine NzK.mk (by omega) ?_ | refine NnK.mk (by omega) ?_ | refine BdK.mk (by omega) (by omega) (by omega) ?_ | refine InsK.lit (by omega) (by omega) ?_ | refine SpK.lit ?_ | refine GrdK.same ?_ | refine GrdK.tf ?_ | refine GrdK.ft ?_ | refine PickK.t ?_ | refine PickK.f ?_); (conv => whnf))
  refine DrwK.ord (by kernel_rfl) [0, 1, 2, 3, 4, 5, 6, 7, 8, 9, 10, 11] (by kernel_rfl) ?_; conv => whnf
  (conv => whnf); repeat ((first | refine RngK.mk (by omega) (by omega) ?_ | refine NzK.mk (by omega) ?_ | refine NnK.mk (by omega) ?_ | refine BdK.mk (by omega) (by omega) (by omega) ?_ | refine InsK.lit (by omega) (by omega) ?_ | refine SpK.lit ?_ | refine GrdK.same ?_ | refine GrdK.tf ?_ | refine GrdK.ft ?_ | refine PickK.t ?_ | refine PickK.f ?_); (conv => whnf))
  refine LdK.blk 0 rfl rfl rfl rfl ?_
  (conv => whnf); repeat ((first | refine RngK.mk (by omega) (by omega) ?_ | refine NzK.mk (by omega) ?_ | refine NnK.mk (by omega) ?_ | refine BdK.mk (by omega) (by omega) (by omega) ?_ | refine InsK.lit (by omega) (by omega) ?_ | refine SpK.lit ?_ | refine GrdK.same ?_ | refine GrdK.tf ?_ | refine GrdK.ft ?_ | refine PickK.t ?_ | refine PickK.f ?_); (conv => whnf))
  refine LdK.blk 0 rfl rfl rfl rfl ?_
  (conv => whnf); repeat ((first | refine RngK.mk (by omega) (by omega) ?_ | refine NzK.mk (by omega) ?_ | refine NnK.mk (by omega) ?_ | refine BdK.mk (by omega) (by omega) (by omega) ?_ | refine InsK.lit (by omega) (by omega) ?_ | refine SpK.lit ?_ | refine GrdK.same ?_ | refine GrdK.tf ?_ | refine GrdK.ft ?_ | refine PickK.t ?_ | refine PickK.f ?_); (conv => whnf))
  refine CallK.of [] (err_spec r off s e u (by omega) (by omega)) rfl (fun w hw => ⟨hL.pass hw, hR.pass hw⟩) ?_
  rintro _ _ ⟨⟨T, x, rfl⟩, rfl⟩
  (conv => whnf); repeat ((first | refine RngK.mk (by omega) (by omega) ?_ | refine NzK.mk (by omega) ?_ | refine NnK.mk (by omega) ?_ | refine BdK.mk (by omega) (by omega) (by omega) ?_ | refine InsK.lit (by omega) (by omega) ?_ | refine SpK.lit ?_ | refine GrdK.same ?_ | refine GrdK.tf ?_ | refine GrdK.ft ?_ | refine PickK.t ?_ | refine PickK.f ?_); (conv => whnf))
  refine KfK.of (LdK.blk 0 rfl rfl rfl rfl rfl) ?_
  (conv => whnf); repeat ((first | refine RngK.mk (by omega) (by omega) ?_ | refine NzK.mk (by omega) ?_ | refine NnK.mk (by omega) ?_ | refine BdK.mk (by omega) (by omega) (by omega) ?_ | refine InsK.lit (by omega) (by omega) ?_ | refine SpK.lit ?_ | refine GrdK.same ?_ | refine GrdK.tf ?_ | refine GrdK.ft ?_ | refine PickK.t ?_ | refine PickK.f ?_); (conv => whnf))
  refine KfK.of (LdK.blk 0 rfl rfl rfl rfl rfl) ?_
  (conv => whnf); repeat ((first | refine RngK.mk (by omega) (by omega) ?_ | refine NzK.mk (by omega) ?_ | refine NnK.mk (by omega) ?_ | refine BdK.mk (by omega) (by omega) (by omega) ?_ | refine InsK.lit (by omega) (by omega) ?_ | refine SpK.lit ?_ | refine GrdK.same ?_ | refine GrdK.tf ?_ | refine GrdK.ft ?_ | refine PickK.t ?_ | refine PickK.f ?_); (conv => whnf))
  exact ⟨⟨T, x, rfl⟩, rfl⟩
end Go.Proofs.YtgdhdkjbilifiaaDoor
namespace Go.Proofs.YtgdhdkjbilifiaaDoor
open Go Go.Sx
set_option maxRecDepth 100000
theorem wd_top {x k : Nat} (h1 : 2 ^ k ≤ x) (h2 : x < 2 ^ (k + 1)) : wd x = k + 1 := by
  have hx : x ≠ 0 := by have := Nat.two_pow_pos k; omega
  unfold wd
  rw [if_neg hx, (Nat.log2_eq_iff hx).2 ⟨h1, h2⟩]
/-- where the stream of bits ends -/
theorem stream_top {L : List Int} (h : ∀ z ∈ L, z = 0 ∨ z = 1) {bs : List UInt8} (hN : num bs = hiN 1 L) (ho : L.length / 8 < bs.length) :
    0 < bs[L.length / 8].toNat ∧ 8 * (L.length / 8) + wd bs[L.length / 8].toNat - 1 = L.length := by
  have h1 := hiN_lt h
  have h2 := hiN_add 1 L
  rw [Nat.one_mul] at h2
  have e : 2 ^ L.length = 2 ^ (8 * (L.length / 8)) * 2 ^ (L.length % 8) := by rw [← Nat.pow_add]; congr 1; omega
  have hp := Nat.two_pow_pos (8 * (L.length / 8))
  have hr : 2 ^ (L.length % 8) ≤ 2 ^ 7 := Nat.pow_le_pow_right (by omega) (by omega)
  have hlo : 2 ^ (L.length % 8) ≤ num bs / 2 ^ (8 * (L.length / 8)) := by
    rw [Nat.le_div_iff_mul_le hp, Nat.mul_comm, ← e]; omega
  have hhi : num bs / 2 ^ (8 * (L.length / 8)) < 2 ^ (L.length % 8 + 1) := by
    rw [Nat.div_lt_iff_lt_mul hp, Nat.pow_succ, Nat.mul_right_comm, Nat.mul_comm (2 ^ (L.length % 8)), ← e]; omega
  have hb : bs[L.length / 8].toNat = num bs / 2 ^ (8 * (L.length / 8)) := by
    rw [num_byte ho]
    unfold bitsN
    rw [Nat.pow_succ] at hhi
    exact Nat.mod_eq_of_lt (by omega)
  rw [← hb] at hlo hhi
  have := Nat.two_pow_pos (L.length % 8)
  refine ⟨by omega, ?_⟩
  rw [wd_top hlo hhi]
  omega
theorem stream_spec (A : Option Addr) (n c : Nat) (zs : List Int) (h01 : ∀ z ∈ zs, z = 0 ∨ z = 1) (hn : n ≤ 100000000) :
    FnS Tryd.prog 40 [.slice A n c] [] (fun w => Rd w (blocks []) A n 1 (zs.map vI))
      (fun v H => ∃ bs A1 c1, v = .slice A1 bs.length c1 ∧ H = [.own A1 bs.length c1 5 1 (bs.map vU8)] ∧ bs.length = n / 8 + 1 ∧ num bs = hiN 1 zs) := by
  refine FnS.introD Tryd.func40 rfl (by kernel_rfl) rfl fun w hH hp => ?_
  obtain rfl : zs.length = n := by simpa using hp.len
  (conv => whnf); repeat ((first | refine RngK.mk (by omega) (by omega) ?_ | refine NzK.mk (by omega) ?_ | refine NnK.mk (by omega) ?_ | refine BdK.mk (by omega) (by omega) (by omega) ?_ | refine InsK.lit (by omega) (by omega) ?_ | refine SpK.lit ?_ | refine GrdK.same ?_ | refine GrdK.tf ?_ | refine GrdK.ft ?_ | refine PickK.t ?_ | refine PickK.f ?_); (conv => whnf))
  refine EffK.litV rfl rfl rfl rfl rfl rfl rfl rfl rfl ?_
  (conv => whnf); repeat ((first | refine RngK.mk (by omega) (by omega) ?_ | refine NzK.mk (by omega) ?_ | refine NnK.mk (by omega) ?_ | refine BdK.mk (by omega) (by omega) (by omega) ?_ | refine InsK.lit (by omega) (by omega) ?_ | refine SpK.lit ?_ | refine GrdK.same ?_ | refine GrdK.tf ?_ | refine GrdK.ft ?_ | refine PickK.t ?_ | refine PickK.f ?_); (conv => whnf))
  intro b
  (conv => whnf); repeat ((first | refine RngK.mk (by omega) (by omega) ?_ | refine NzK.mk (by omega) ?_ | refine NnK.mk (by omega) ?_ | refine BdK.mk (by omega) (by omega) (by omega) ?_ | refine InsK.lit (by omega) (by omega) ?_ | refine SpK.lit ?_ | refine GrdK.same ?_ | refine GrdK.tf ?_ | refine GrdK.ft ?_ | refine PickK.t ?_ | refine PickK.f ?_); (conv => whnf))
  refine EffK.append 0 (news := zs.map vI) rfl rfl rfl rfl rfl rfl rfl rfl (Src.rd hp) (by intro u hu; obtain ⟨z, _, rfl⟩ := List.mem_map.1 hu; rfl) (by simp [maxLen]; omega) (by show (_ + _) * 8 ≤ _; omega) fun A1 c1 => ?_
  (conv => whnf); repeat ((first | refine RngK.mk (by omega) (by omega) ?_ | refine NzK.mk (by omega) ?_ | refine NnK.mk (by omega) ?_ | refine BdK.mk (by omega) (by omega) (by omega) ?_ | refine InsK.lit (by omega) (by omega) ?_ | refine SpK.lit ?_ | refine GrdK.same ?_ | refine GrdK.tf ?_ | refine GrdK.ft ?_ | refine PickK.t ?_ | refine PickK.f ?_); (conv => whnf))
  refine RngK.mk ?_ ?_ ?_
  · rw [Int.tdiv_eq_ediv_of_nonneg (by omega)]; omega
  · rw [Int.tdiv_eq_ediv_of_nonneg (by omega)]; omega
  (conv => whnf); repeat ((first | refine RngK.mk (by omega) (by omega) ?_ | refine NzK.mk (by omega) ?_ | refine NnK.mk (by omega) ?_ | refine BdK.mk (by omega) (by omega) (by omega) ?_ | refine InsK.lit (by omega) (by omega) ?_ | refine SpK.lit ?_ | refine GrdK.same ?_ | refine GrdK.tf ?_ | refine GrdK.ft ?_ | refine PickK.t ?_ | refine PickK.f ?_); (conv => whnf))
  have em : (((1 + zs.length : Nat) : Int) + 7).tdiv 8 = ((zs.length / 8 + 1 : Nat) : Int) := by
    rw [Int.tdiv_eq_ediv_of_nonneg (by omega)]; omega
  refine EffK.made1 (zs.length / 8 + 1) rfl rfl rfl em rfl rfl (by show 1 * _ ≤ _; omega) (by simp [maxLen]; omega) fun b2 => ?_
  (conv => whnf); repeat ((first | refine RngK.mk (by omega) (by omega) ?_ | refine NzK.mk (by omega) ?_ | refine NnK.mk (by omega) ?_ | refine BdK.mk (by omega) (by omega) (by omega) ?_ | refine InsK.lit (by omega) (by omega) ?_ | refine SpK.lit ?_ | refine GrdK.same ?_ | refine GrdK.tf ?_ | refine GrdK.ft ?_ | refine PickK.t ?_ | refine PickK.f ?_); (conv => whnf))
  refine Wp.own 1 rfl fun hA1 => ?_
  have hall : [Value.int .i64 1] ++ zs.map vI = (1 :: zs).map vI := rfl
  rw [hall]
  have h01' : ∀ z ∈ (1 :: zs), z = 0 ∨ z = 1 := fun z hz => by
    rcases List.mem_cons.1 hz with rfl | hz
    · exact .inr rfl
    · exact h01 z hz
  have hlen : (1 :: zs).length = 1 + zs.length := by simp; omega
  have hfin : hiN 0 (1 :: zs) = hiN 1 zs := rfl
  rw [← hfin]
  generalize (1 :: zs) = all at hlen h01' hfin ⊢
  refine Wp.loop (fun s : Nat × List UInt8 => [(3, .slice A1 (1 + zs.length) c1), (16, .slice A1 (1 + zs.length) c1), (17, vI ((1 + zs.length : Nat) : Int)), (18, vI s.1), (4, .slice (some ⟨b2, 0, none⟩) (zs.length / 8 + 1) (zs.length / 8 + 1))])
    (fun s => [.own (some ⟨b2, 0, none⟩) (zs.length / 8 + 1) (zs.length / 8 + 1) 5 1 (s.2.map vU8), .own A1 (1 + zs.length) c1 3 1 (all.map vI)])
    (fun s => s.1 ≤ 1 + zs.length ∧ s.2.length = zs.length / 8 + 1 ∧ num s.2 = hiN 0 (all.take s.1) * 2 ^ (1 + zs.length - s.1)) (fun s => 1 + zs.length - s.1) (0, List.replicate (zs.length / 8 + 1) 0)
    ⟨rfl, rfl, rfl, rfl, rfl, trivial⟩ ?_ ⟨Nat.zero_le _, by simp, ?_⟩ fun ⟨k, bs⟩ ⟨hk, hbl, hnum⟩ => ?_
  · dsimp only
    rw [List.map_replicate]
    exact HSub.of [0, 0] rfl
  · show num (List.replicate _ 0) = 0 * _
    rw [Nat.zero_mul]
    generalize zs.length / 8 + 1 = q
    induction q with
    | zero => rfl
    | succ q ih => rw [List.replicate_succ, num_cons, ih]; rfl
  dsimp only at hk hbl hnum ⊢
  (conv => whnf); repeat ((first | refine RngK.mk (by omega) (by omega) ?_ | refine NzK.mk (by omega) ?_ | refine NnK.mk (by omega) ?_ | refine BdK.mk (by omega) (by omega) (by omega) ?_ | refine InsK.lit (by omega) (by omega) ?_ | refine SpK.lit ?_ | refine GrdK.same ?_ | refine GrdK.tf ?_ | refine GrdK.ft ?_ | refine PickK.t ?_ | refine PickK.f ?_); (conv => whnf))
  refine Wp.cond rfl (fun h => ?_) (fun h => ?_)
  · have h := dT h
    have hk' : k < all.length := by omega
    obtain ⟨zb, hzb, hz1⟩ : ∃ zb : Nat, all[k] = (zb : Int) ∧ zb ≤ 1 := by
      rcases h01' _ (List.getElem_mem hk') with e | e
      · exact ⟨0, e, by omega⟩
      · exact ⟨1, e, by omega⟩
    have hget : (all.map vI)[k]? = some (vI zb) := by simp [hk', hzb]
    obtain ⟨p, hp'⟩ : ∃ p, zs.length - k = p := ⟨_, rfl⟩
    have hj : p / 8 < bs.length := by omega
    have hb := bs[p / 8].toNat_lt
    have hr : p % 8 < 8 := by omega
    have hpow : 2 ^ (1 + zs.length - k) = 2 * 2 ^ p := by rw [show 1 + zs.length - k = p + 1 by omega, Nat.pow_succ, Nat.mul_comm]
    have hzero : bs[p / 8].toNat / 2 ^ (p % 8) % 2 = 0 := by
      rw [byte_bit hj, hnum, hpow]
      unfold bitsN
      rw [Nat.mul_left_comm, Nat.mul_comm 2, Nat.mul_right_comm, Nat.mul_div_cancel _ (Nat.two_pow_pos p)]
      omega
    obtain ⟨hor, hor2⟩ := or_bit_dec _ hb _ hr hzero
    have hr2 : 2 ^ (p % 8) ≤ 2 ^ 7 := Nat.pow_le_pow_right (by omega) (by omega)
    (conv => whnf); repeat ((first | refine RngK.mk (by omega) (by omega) ?_ | refine NzK.mk (by omega) ?_ | refine NnK.mk (by omega) ?_ | refine BdK.mk (by omega) (by omega) (by omega) ?_ | refine InsK.lit (by omega) (by omega) ?_ | refine SpK.lit ?_ | refine GrdK.same ?_ | refine GrdK.tf ?_ | refine GrdK.ft ?_ | refine PickK.t ?_ | refine PickK.f ?_); (conv => whnf))
    refine InsK.own hA1 (by omega) (by omega) ?_
    (conv => whnf); repeat ((first | refine RngK.mk (by omega) (by omega) ?_ | refine NzK.mk (by omega) ?_ | refine NnK.mk (by omega) ?_ | refine BdK.mk (by omega) (by omega) (by omega) ?_ | refine InsK.lit (by omega) (by omega) ?_ | refine SpK.lit ?_ | refine GrdK.same ?_ | refine GrdK.tf ?_ | refine GrdK.ft ?_ | refine PickK.t ?_ | refine PickK.f ?_); (conv => whnf))
    refine LdK.own 1 k rfl rfl rfl rfl hget ?_
    (conv => whnf); repeat ((first | refine RngK.mk (by omega) (by omega) ?_ | refine NzK.mk (by omega) ?_ | refine NnK.mk (by omega) ?_ | refine BdK.mk (by omega) (by omega) (by omega) ?_ | refine InsK.lit (by omega) (by omega) ?_ | refine SpK.lit ?_ | refine GrdK.same ?_ | refine GrdK.tf ?_ | refine GrdK.ft ?_ | refine PickK.t ?_ | refine PickK.f ?_); (conv => whnf))
    have ep : ((1 + zs.length : Nat) : Int) - 1 - (k : Int) = (p : Int) := by omega
    rw [ep]
    refine DrwK.ord (by kernel_rfl) [0, 1, 2, 3, 4, 5, 6, 7, 8, 9, 10, 11, 12] (by kernel_rfl) ?_; conv => whnf
    have e1 : (p : Int).tdiv 8 = ((p / 8 : Nat) : Int) := by rw [Int.tdiv_eq_ediv_of_nonneg (by omega)]; omega
    have e2 : (p : Int).tmod 8 = ((p % 8 : Nat) : Int) := by rw [Int.tmod_eq_emod_of_nonneg (by omega)]; omega
    (conv => whnf); repeat ((first | refine RngK.mk (by omega) (by omega) ?_ | refine NzK.mk (by omega) ?_ | refine NnK.mk (by omega) ?_ | refine BdK.mk (by omega) (by omega) (by omega) ?_ | refine InsK.lit (by omega) (by omega) ?_ | refine SpK.lit ?_ | refine GrdK.same ?_ | refine GrdK.tf ?_ | refine GrdK.ft ?_ | refine PickK.t ?_ | refine PickK.f ?_); (conv => whnf))
    rw [e1]
    (conv => whnf); repeat ((first | refine RngK.mk (by omega) (by omega) ?_ | refine NzK.mk (by omega) ?_ | refine NnK.mk (by omega) ?_ | refine BdK.mk (by omega) (by omega) (by omega) ?_ | refine InsK.lit (by omega) (by omega) ?_ | refine SpK.lit ?_ | refine GrdK.same ?_ | refine GrdK.tf ?_ | refine GrdK.ft ?_ | refine PickK.t ?_ | refine PickK.f ?_); (conv => whnf))
    refine LdK.own 0 (p / 8) rfl rfl rfl rfl (v := vU8 bs[p / 8]) (by simp [hj]) ?_
    (conv => whnf); repeat ((first | refine RngK.mk (by omega) (by omega) ?_ | refine NzK.mk (by omega) ?_ | refine NnK.mk (by omega) ?_ | refine BdK.mk (by omega) (by omega) (by omega) ?_ | refine InsK.lit (by omega) (by omega) ?_ | refine SpK.lit ?_ | refine GrdK.same ?_ | refine GrdK.tf ?_ | refine GrdK.ft ?_ | refine PickK.t ?_ | refine PickK.f ?_); (conv => whnf))
    rw [e2]
    (conv => whnf); repeat ((first | refine RngK.mk (by omega) (by omega) ?_ | refine NzK.mk (by omega) ?_ | refine NnK.mk (by omega) ?_ | refine BdK.mk (by omega) (by omega) (by omega) ?_ | refine InsK.lit (by omega) (by omega) ?_ | refine SpK.lit ?_ | refine GrdK.same ?_ | refine GrdK.tf ?_ | refine GrdK.ft ?_ | refine PickK.t ?_ | refine PickK.f ?_); (conv => whnf))
    have hzr : zb * 2 ^ (p % 8) ≤ 2 ^ (p % 8) := by
      have := Nat.mul_le_mul_right (2 ^ (p % 8)) hz1
      omega
    obtain ⟨y, hy⟩ : ∃ y : UInt8, y.toNat = bs[p / 8].toNat + zb * 2 ^ (p % 8) :=
      ⟨UInt8.ofNat (bs[p / 8].toNat + zb * 2 ^ (p % 8)), by rw [UInt8.toNat_ofNat_of_lt' (by simp only [UInt8.size]; omega)]⟩
    have hval : ior .u8 (bs[p / 8].toNat : Int) (IntKind.u8.wrap (ishl .i64 (zb : Int) ((p % 8 : Nat) : Int))) = (y.toNat : Int) := by
      rw [ishl_i64 (by omega) (by omega), wrap_u_lt (k := .u8) rfl (by show _ < 2 ^ 8; omega), ior_u (k := .u8) rfl (by show _ < 2 ^ 8; omega) (by show _ < 2 ^ 8; omega), hy]
      congr 1
      obtain rfl | rfl : zb = 0 ∨ zb = 1 := by omega
      · simp
      · rw [Nat.one_mul, hor]
    rw [hval]
    refine StK.own 0 (p / 8) rfl ⟨b2, rfl⟩ rfl rfl rfl rfl (by simpa using hj) ?_
    (conv => whnf); repeat ((first | refine RngK.mk (by omega) (by omega) ?_ | refine NzK.mk (by omega) ?_ | refine NnK.mk (by omega) ?_ | refine BdK.mk (by omega) (by omega) (by omega) ?_ | refine InsK.lit (by omega) (by omega) ?_ | refine SpK.lit ?_ | refine GrdK.same ?_ | refine GrdK.tf ?_ | refine GrdK.ft ?_ | refine PickK.t ?_ | refine PickK.f ?_); (conv => whnf))
    have hset : (bs.map vU8).set (p / 8) (.int .u8 (y.toNat : Int)) = (bs.set (p / 8) y).map vU8 := by rw [List.map_set]; rfl
    rw [hset]
    refine ⟨(k + 1, bs.set (p / 8) y), ⟨rfl, rfl, rfl, rfl, rfl, trivial⟩, HSub.refl _, ⟨by simp only; omega, by simp only [List.length_set]; exact hbl, ?_⟩, by simp only; omega⟩
    dsimp only
    rw [num_set hj y _ hy, hnum, hpow, List.take_succ_eq_append_getElem hk', hiN_snoc, hzb]
    have e3 : 1 + zs.length - (k + 1) = p := by omega
    have e4 : zb * 2 ^ (p % 8) * 2 ^ (8 * (p / 8)) = zb * 2 ^ p := by
      rw [Nat.mul_assoc, ← Nat.pow_add]
      congr 2
      omega
    have e5 : ((zb : Nat) : Int).toNat = zb := by omega
    rw [e3, e4, e5, Nat.add_mul, Nat.mul_left_comm, Nat.mul_assoc 2]
  · have h := dF h
    have hke : k = 1 + zs.length := by omega
    subst hke
    rw [Nat.sub_self, Nat.pow_zero, Nat.mul_one, ← hlen, List.take_length] at hnum
    (conv => whnf); repeat ((first | refine RngK.mk (by omega) (by omega) ?_ | refine NzK.mk (by omega) ?_ | refine NnK.mk (by omega) ?_ | refine BdK.mk (by omega) (by omega) (by omega) ?_ | refine InsK.lit (by omega) (by omega) ?_ | refine SpK.lit ?_ | refine GrdK.same ?_ | refine GrdK.tf ?_ | refine GrdK.ft ?_ | refine PickK.t ?_ | refine PickK.f ?_); (conv => whnf))
    exact ⟨_, HSub.of [0] rfl, bs, some ⟨b2, 0, none⟩, _, by rw [hbl], by rw [hbl], hbl, hnum⟩
end Go.Proofs.YtgdhdkjbilifiaaDoor
