/- The reader that goes backward: the functions of the package. -/
import Derived.Test.YtgdhdkjbilifiaaDoorRvA
namespace Go.Proofs.YtgdhdkjbilifiaaDoor
open Go Go.Sx
set_option maxRecDepth 100000
def rbc (r : Nat) (A : Option Addr) (n c off st bits cnt : Nat) : List Value := [.pointer (some ⟨r, 0, none⟩), .slice A n c, .int .u32 off, .int .u32 st, .int .u32 bits, .int .u32 cnt]
abbrev rbB (b r : Nat) (A : Option Addr) (n c off st bits cnt : Nat) : Hp := [.blk b 125 (rbc r A n c off st bits cnt)]
/-- where a reader stands: the bits that are ready are those from its place on -/
structure RbI (N n st off bits cnt : Nat) : Prop where
  so : st ≤ off
  on : off ≤ n
  lt : cnt < 32
  b32 : bits < 2 ^ 32
  low : bits % 2 ^ cnt = bitsN N (8 * off) cnt
theorem fetch_spec (b r : Nat) (A : Option Addr) (n c : Nat) (bs : List UInt8) (off st bits cnt q : Nat) (hn : n ≤ 16777216) (hI : RbI (num bs) n st off bits cnt) (hq : q ≤ 24) :
    FnS Tryd.prog 68 [.pointer (some ⟨b, 0, none⟩), .int .u8 q] (rbB b r A n c off st bits cnt)
      (fun w => Bytes w (blocks (rbB b r A n c off st bits cnt)) A n c bs)
      (fun v H => ∃ off' bits' cnt', 8 * off' + cnt' = 8 * off + cnt ∧ RbI (num bs) n st off' bits' cnt' ∧ H = rbB b r A n c off' st bits' cnt' ∧ ((v = vB true ∧ q ≤ cnt' ∧ 8 * st + q ≤ 8 * off + cnt) ∨ (v = vB false ∧ 8 * off + cnt < 8 * st + q))) := by
  refine FnS.intro Tryd.func68 rfl (by kernel_rfl) rfl fun w hH hp => ?_
  obtain rfl : bs.length = n := hp.len
  generalize hW : blocks (rbB b r A bs.length c off st bits cnt) = W at *
  generalize hP : 8 * off + cnt = p at *
  have eq : IntKind.u32.wrap (q : Int) = (q : Int) := IntWalk.u32_in _ (by omega)
  (conv => whnf); repeat ((first | refine RngK.mk (by omega) (by omega) ?_ | refine NzK.mk (by omega) ?_ | refine NnK.mk (by omega) ?_ | refine BdK.mk (by omega) (by omega) (by omega) ?_ | refine InsK.lit (by omega) (by omega) ?_ | refine SpK.lit ?_ | refine GrdK.same ?_ | refine GrdK.tf ?_ | refine GrdK.ft ?_ | refine PickK.t ?_ | refine PickK.f ?_); (conv => whnf))
  refine Wp.loop (fun s : Nat × Nat × Nat => [(0, .pointer (some ⟨b, 0, none⟩)), (1, .int .u8 q), (4, .bool false)]) (fun s => rbB b r A bs.length c s.1 st s.2.1 s.2.2) (fun s => 8 * s.1 + s.2.2 = p ∧ RbI (num bs) bs.length st s.1 s.2.1 s.2.2) (fun s => s.1) (off, bits, cnt)
    ⟨rfl, rfl, rfl, trivial⟩ (HSub.refl _) ⟨hP, hI⟩ fun ⟨off, bits, cnt⟩ ⟨hP, hI⟩ => ?_
  dsimp only at hP hI ⊢
  obtain ⟨i1, i2, i3, i4, i5⟩ := hI
  (conv => whnf); repeat ((first | refine RngK.mk (by omega) (by omega) ?_ | refine NzK.mk (by omega) ?_ | refine NnK.mk (by omega) ?_ | refine BdK.mk (by omega) (by omega) (by omega) ?_ | refine InsK.lit (by omega) (by omega) ?_ | refine SpK.lit ?_ | refine GrdK.same ?_ | refine GrdK.tf ?_ | refine GrdK.ft ?_ | refine PickK.t ?_ | refine PickK.f ?_); (conv => whnf))
  refine LdK.blk 0 rfl rfl rfl rfl ?_
  (conv => whnf); repeat ((first | refine RngK.mk (by omega) (by omega) ?_ | refine NzK.mk (by omega) ?_ | refine NnK.mk (by omega) ?_ | refine BdK.mk (by omega) (by omega) (by omega) ?_ | refine InsK.lit (by omega) (by omega) ?_ | refine SpK.lit ?_ | refine GrdK.same ?_ | refine GrdK.tf ?_ | refine GrdK.ft ?_ | refine PickK.t ?_ | refine PickK.f ?_); (conv => whnf))
  rw [eq]
  refine Wp.cond rfl (fun h => ?_) (fun h => ?_)
  · have h := dT h
    (conv => whnf); repeat ((first | refine RngK.mk (by omega) (by omega) ?_ | refine NzK.mk (by omega) ?_ | refine NnK.mk (by omega) ?_ | refine BdK.mk (by omega) (by omega) (by omega) ?_ | refine InsK.lit (by omega) (by omega) ?_ | refine SpK.lit ?_ | refine GrdK.same ?_ | refine GrdK.tf ?_ | refine GrdK.ft ?_ | refine PickK.t ?_ | refine PickK.f ?_); (conv => whnf))
    refine DrwK.ord (by kernel_rfl) [0, 1, 2, 3, 4, 5, 6, 7, 8] (by kernel_rfl) ?_; conv => whnf
    (conv => whnf); repeat ((first | refine RngK.mk (by omega) (by omega) ?_ | refine NzK.mk (by omega) ?_ | refine NnK.mk (by omega) ?_ | refine BdK.mk (by omega) (by omega) (by omega) ?_ | refine InsK.lit (by omega) (by omega) ?_ | refine SpK.lit ?_ | refine GrdK.same ?_ | refine GrdK.tf ?_ | refine GrdK.ft ?_ | refine PickK.t ?_ | refine PickK.f ?_); (conv => whnf))
    refine LdK.blk 0 rfl rfl rfl rfl ?_
    (conv => whnf); repeat ((first | refine RngK.mk (by omega) (by omega) ?_ | refine NzK.mk (by omega) ?_ | refine NnK.mk (by omega) ?_ | refine BdK.mk (by omega) (by omega) (by omega) ?_ | refine InsK.lit (by omega) (by omega) ?_ | refine SpK.lit ?_ | refine GrdK.same ?_ | refine GrdK.tf ?_ | refine GrdK.ft ?_ | refine PickK.t ?_ | refine PickK.f ?_); (conv => whnf))
    refine LdK.blk 0 rfl rfl rfl rfl ?_
    (conv => whnf); repeat ((first | refine RngK.mk (by omega) (by omega) ?_ | refine NzK.mk (by omega) ?_ | refine NnK.mk (by omega) ?_ | refine BdK.mk (by omega) (by omega) (by omega) ?_ | refine InsK.lit (by omega) (by omega) ?_ | refine SpK.lit ?_ | refine GrdK.same ?_ | refine GrdK.tf ?_ | refine GrdK.ft ?_ | refine PickK.t ?_ | refine PickK.f ?_); (conv => whnf))
    refine Wp.cond rfl (fun h4 => ?_) (fun h4 => ?_)
    · have h4 := dT h4
      (conv => whnf); repeat ((first | refine RngK.mk (by omega) (by omega) ?_ | refine NzK.mk (by omega) ?_ | refine NnK.mk (by omega) ?_ | refine BdK.mk (by omega) (by omega) (by omega) ?_ | refine InsK.lit (by omega) (by omega) ?_ | refine SpK.lit ?_ | refine GrdK.same ?_ | refine GrdK.tf ?_ | refine GrdK.ft ?_ | refine PickK.t ?_ | refine PickK.f ?_); (conv => whnf))
      exact ⟨off, bits, cnt, hP, ⟨i1, i2, i3, i4, i5⟩, rfl, .inr ⟨rfl, by omega⟩⟩
    · have h4 := dF h4
      have ho : off - 1 < bs.length := by omega
      (conv => whnf); repeat ((first | refine RngK.mk (by omega) (by omega) ?_ | refine NzK.mk (by omega) ?_ | refine NnK.mk (by omega) ?_ | refine BdK.mk (by omega) (by omega) (by omega) ?_ | refine InsK.lit (by omega) (by omega) ?_ | refine SpK.lit ?_ | refine GrdK.same ?_ | refine GrdK.tf ?_ | refine GrdK.ft ?_ | refine PickK.t ?_ | refine PickK.f ?_); (conv => whnf))
      refine LdK.blk 0 rfl rfl rfl rfl ?_
      (conv => whnf); repeat ((first | refine RngK.mk (by omega) (by omega) ?_ | refine NzK.mk (by omega) ?_ | refine NnK.mk (by omega) ?_ | refine BdK.mk (by omega) (by omega) (by omega) ?_ | refine InsK.lit (by omega) (by omega) ?_ | refine SpK.lit ?_ | refine GrdK.same ?_ | refine GrdK.tf ?_ | refine GrdK.ft ?_ | refine PickK.t ?_ | refine PickK.f ?_); (conv => whnf))
      refine StK.blkE 0 (rbc r A bs.length c (off - 1) st bits cnt) rfl rfl rfl rfl (Nat.le_of_ble_eq_true rfl) ?_ ?_
      · show [_, _, Value.int .u32 _, _, _, _] = [_, _, Value.int .u32 _, _, _, _]
        have : (off : Int) - 1 = ((off - 1 : Nat) : Int) := by omega
        rw [IntWalk.u32_in _ (by omega), this]
      (conv => whnf); repeat ((first | refine RngK.mk (by omega) (by omega) ?_ | refine NzK.mk (by omega) ?_ | refine NnK.mk (by omega) ?_ | refine BdK.mk (by omega) (by omega) (by omega) ?_ | refine InsK.lit (by omega) (by omega) ?_ | refine SpK.lit ?_ | refine GrdK.same ?_ | refine GrdK.tf ?_ | refine GrdK.ft ?_ | refine PickK.t ?_ | refine PickK.f ?_); (conv => whnf))
      refine DrwK.ord (by kernel_rfl) [0, 1, 2, 3, 4, 5, 6, 7, 8, 9, 10] (by kernel_rfl) ?_; conv => whnf
      (conv => whnf); repeat ((first | refine RngK.mk (by omega) (by omega) ?_ | refine NzK.mk (by omega) ?_ | refine NnK.mk (by omega) ?_ | refine BdK.mk (by omega) (by omega) (by omega) ?_ | refine InsK.lit (by omega) (by omega) ?_ | refine SpK.lit ?_ | refine GrdK.same ?_ | refine GrdK.tf ?_ | refine GrdK.ft ?_ | refine PickK.t ?_ | refine PickK.f ?_); (conv => whnf))
      refine LdK.blk 0 rfl rfl rfl rfl ?_
      (conv => whnf); repeat ((first | refine RngK.mk (by omega) (by omega) ?_ | refine NzK.mk (by omega) ?_ | refine NnK.mk (by omega) ?_ | refine BdK.mk (by omega) (by omega) (by omega) ?_ | refine InsK.lit (by omega) (by omega) ?_ | refine SpK.lit ?_ | refine GrdK.same ?_ | refine GrdK.tf ?_ | refine GrdK.ft ?_ | refine PickK.t ?_ | refine PickK.f ?_); (conv => whnf))
      refine LdK.blk 0 rfl rfl rfl rfl ?_
      (conv => whnf); repeat ((first | refine RngK.mk (by omega) (by omega) ?_ | refine NzK.mk (by omega) ?_ | refine NnK.mk (by omega) ?_ | refine BdK.mk (by omega) (by omega) (by omega) ?_ | refine InsK.lit (by omega) (by omega) ?_ | refine SpK.lit ?_ | refine GrdK.same ?_ | refine GrdK.tf ?_ | refine GrdK.ft ?_ | refine PickK.t ?_ | refine PickK.f ?_); (conv => whnf))
      refine InsK.rd hp.rd (by omega) (by omega) ?_
      (conv => whnf); repeat ((first | refine RngK.mk (by omega) (by omega) ?_ | refine NzK.mk (by omega) ?_ | refine NnK.mk (by omega) ?_ | refine BdK.mk (by omega) (by omega) (by omega) ?_ | refine InsK.lit (by omega) (by omega) ?_ | refine SpK.lit ?_ | refine GrdK.same ?_ | refine GrdK.tf ?_ | refine GrdK.ft ?_ | refine PickK.t ?_ | refine PickK.f ?_); (conv => whnf))
      refine LdK.rd (v := vU8 bs[off - 1]) hp.rd (off - 1) rfl rfl rfl (by simp [ho]) ?_
      (conv => whnf); repeat ((first | refine RngK.mk (by omega) (by omega) ?_ | refine NzK.mk (by omega) ?_ | refine NnK.mk (by omega) ?_ | refine BdK.mk (by omega) (by omega) (by omega) ?_ | refine InsK.lit (by omega) (by omega) ?_ | refine SpK.lit ?_ | refine GrdK.same ?_ | refine GrdK.tf ?_ | refine GrdK.ft ?_ | refine PickK.t ?_ | refine PickK.f ?_); (conv => whnf))
      refine LdK.blk 0 rfl rfl rfl rfl ?_
      (conv => whnf); repeat ((first | refine RngK.mk (by omega) (by omega) ?_ | refine NzK.mk (by omega) ?_ | refine NnK.mk (by omega) ?_ | refine BdK.mk (by omega) (by omega) (by omega) ?_ | refine InsK.lit (by omega) (by omega) ?_ | refine SpK.lit ?_ | refine GrdK.same ?_ | refine GrdK.tf ?_ | refine GrdK.ft ?_ | refine PickK.t ?_ | refine PickK.f ?_); (conv => whnf))
      have hb := bs[off - 1].toNat_lt
      have h2k : 2 ^ cnt ≤ 2 ^ 23 := Nat.pow_le_pow_right (by omega) (by omega)
      obtain ⟨nb, hnb⟩ : ∃ nb, nb = bits % 16777216 * 256 := ⟨_, rfl⟩
      have e8 : ishl .u32 (bits : Int) 8 = ((nb : Nat) : Int) := by
        rw [hnb]
        have := ishl_u (k := .u32) rfl bits (n := 8) (by show _ ≤ 32; omega)
        rw [show ((8 : Nat) : Int) = (8 : Int) from rfl] at this
        rw [this]
        show (((bits * 256 % 4294967296 : Nat)) : Int) = _
        omega
      have hnl : nb < 4294967296 := by omega
      obtain ⟨x, hx⟩ : ∃ x, x = bs[off - 1].toNat := ⟨_, rfl⟩
      obtain ⟨nc, hnc⟩ : ∃ nc, nc = nb + x := ⟨_, rfl⟩
      refine StK.blkE 0 (rbc r A bs.length c (off - 1) st nb cnt) rfl rfl rfl rfl (Nat.le_of_ble_eq_true rfl) ?_ ?_
      · show [_, _, _, _, Value.int .u32 _, _] = [_, _, _, _, Value.int .u32 _, _]
        rw [e8]
      (conv => whnf); repeat ((first | refine RngK.mk (by omega) (by omega) ?_ | refine NzK.mk (by omega) ?_ | refine NnK.mk (by omega) ?_ | refine BdK.mk (by omega) (by omega) (by omega) ?_ | refine InsK.lit (by omega) (by omega) ?_ | refine SpK.lit ?_ | refine GrdK.same ?_ | refine GrdK.tf ?_ | refine GrdK.ft ?_ | refine PickK.t ?_ | refine PickK.f ?_); (conv => whnf))
      refine LdK.blk 0 rfl rfl rfl rfl ?_
      (conv => whnf); repeat ((first | refine RngK.mk (by omega) (by omega) ?_ | refine NzK.mk (by omega) ?_ | refine NnK.mk (by omega) ?_ | refine BdK.mk (by omega) (by omega) (by omega) ?_ | refine InsK.lit (by omega) (by omega) ?_ | refine SpK.lit ?_ | refine GrdK.same ?_ | refine GrdK.tf ?_ | refine GrdK.ft ?_ | refine PickK.t ?_ | refine PickK.f ?_); (conv => whnf))
      refine StK.blkE 0 (rbc r A bs.length c (off - 1) st nc cnt) rfl rfl rfl rfl (Nat.le_of_ble_eq_true rfl) ?_ ?_
      · show [_, _, _, _, Value.int .u32 _, _] = [_, _, _, _, Value.int .u32 _, _]
        rw [← hx] at hb ⊢
        have e1 : IntKind.u32.wrap (x : Int) = (x : Int) := wrap_u_lt (k := .u32) rfl (by show _ < 2 ^ 32; omega)
        have e9 : x ||| bits % 16777216 * 256 = x + bits % 16777216 * 256 := or_add (i := 8) (by omega)
        rw [e1, ior_u (k := .u32) rfl (by show _ < 2 ^ 32; omega) (by show _ < 2 ^ 32; omega), hnc, hnb, Nat.or_comm, e9, Nat.add_comm]
      (conv => whnf); repeat ((first | refine RngK.mk (by omega) (by omega) ?_ | refine NzK.mk (by omega) ?_ | refine NnK.mk (by omega) ?_ | refine BdK.mk (by omega) (by omega) (by omega) ?_ | refine InsK.lit (by omega) (by omega) ?_ | refine SpK.lit ?_ | refine GrdK.same ?_ | refine GrdK.tf ?_ | refine GrdK.ft ?_ | refine PickK.t ?_ | refine PickK.f ?_); (conv => whnf))
      refine LdK.blk 0 rfl rfl rfl rfl ?_
      (conv => whnf); repeat ((first | refine RngK.mk (by omega) (by omega) ?_ | refine NzK.mk (by omega) ?_ | refine NnK.mk (by omega) ?_ | refine BdK.mk (by omega) (by omega) (by omega) ?_ | refine InsK.lit (by omega) (by omega) ?_ | refine SpK.lit ?_ | refine GrdK.same ?_ | refine GrdK.tf ?_ | refine GrdK.ft ?_ | refine PickK.t ?_ | refine PickK.f ?_); (conv => whnf))
      refine StK.blkE 0 (rbc r A bs.length c (off - 1) st nc (cnt + 8)) rfl rfl rfl rfl (Nat.le_of_ble_eq_true rfl) ?_ ?_
      · show [_, _, _, _, _, Value.int .u32 _] = [_, _, _, _, _, Value.int .u32 _]
        have : IntKind.u32.wrap ((cnt : Int) + 8) = ((cnt + 8 : Nat) : Int) := wrap_u_lt (k := .u32) (n := cnt + 8) rfl (by show _ < 2 ^ 32; omega)
        rw [this]
      (conv => whnf); repeat ((first | refine RngK.mk (by omega) (by omega) ?_ | refine NzK.mk (by omega) ?_ | refine NnK.mk (by omega) ?_ | refine BdK.mk (by omega) (by omega) (by omega) ?_ | refine InsK.lit (by omega) (by omega) ?_ | refine SpK.lit ?_ | refine GrdK.same ?_ | refine GrdK.tf ?_ | refine GrdK.ft ?_ | refine PickK.t ?_ | refine PickK.f ?_); (conv => whnf))
      have hlow : nc % 2 ^ (cnt + 8) = bitsN (num bs) (8 * (off - 1)) (cnt + 8) := by
        rw [Nat.add_comm cnt 8, bitsN_split, ← num_byte ho, ← hx]
        have e3 : 8 * (off - 1) + 8 = 8 * off := by omega
        have e4 : bits % 16777216 % 2 ^ cnt = bits % 2 ^ cnt := Nat.mod_mod_of_dvd _ (Nat.pow_dvd_pow 2 (show cnt ≤ 24 by omega))
        rw [e3, ← i5, ← e4, hnc, hnb, Nat.pow_add]
        rw [← hx] at hb
        have h8 : x < 2 ^ 8 := by omega
        show (bits % 16777216 * 2 ^ 8 + x) % (2 ^ 8 * 2 ^ cnt) = _
        rw [Nat.add_comm (bits % 16777216 * 2 ^ 8), Nat.mul_comm (bits % 16777216)]
        generalize bits % 16777216 = y
        rw [Nat.mod_mul, Nat.add_mul_mod_self_left, Nat.mod_eq_of_lt h8, Nat.add_mul_div_left _ _ (Nat.two_pow_pos 8), Nat.div_eq_of_lt h8, Nat.zero_add, Nat.mul_comm (2 ^ 8)]
      exact ⟨(off - 1, nc, cnt + 8), ⟨rfl, rfl, rfl, trivial⟩, HSub.refl _, ⟨by simp only; omega, ⟨by simp only; omega, by simp only; omega, by simp only; omega, by simp only; omega, hlow⟩⟩, by simp only; omega⟩
  · have h := dF h
    (conv => whnf); repeat ((first | refine RngK.mk (by omega) (by omega) ?_ | refine NzK.mk (by omega) ?_ | refine NnK.mk (by omega) ?_ | refine BdK.mk (by omega) (by omega) (by omega) ?_ | refine InsK.lit (by omega) (by omega) ?_ | refine SpK.lit ?_ | refine GrdK.same ?_ | refine GrdK.tf ?_ | refine GrdK.ft ?_ | refine PickK.t ?_ | refine PickK.f ?_); (conv => whnf))
    exact ⟨off, bits, cnt, hP, ⟨i1, i2, i3, i4, i5⟩, rfl, .inl ⟨rfl, by omega, by omega⟩⟩
/-- what fetching a value comes to -/
abbrev RvQ (b r : Nat) (A : Option Addr) (n c N off st cnt q : Nat) : Value → Hp → Prop := fun v H =>
  ∃ off' bits' cnt', RbI N n st off' bits' cnt' ∧ H = rbB b r A n c off' st bits' cnt' ∧
    ((8 * st + q ≤ 8 * off + cnt ∧ 8 * off' + cnt' + q = 8 * off + cnt ∧ v = .tuple #[.int .u32 (bitsN N (8 * off + cnt - q) q : Nat), .nilIface]) ∨
     (8 * off + cnt < 8 * st + q ∧ 8 * off' + cnt' = 8 * off + cnt ∧ ∃ T x, v = .tuple #[.int .u32 0, .iface T x]))
theorem rval_spec (b r : Nat) (A : Option Addr) (n c : Nat) (bs : List UInt8) (e u : Addr) (off st bits cnt q : Nat) (hn : n ≤ 16777216) (hI : RbI (num bs) n st off bits cnt) (hq : q ≤ 24) :
    FnS Tryd.prog 67 [.pointer (some ⟨b, 0, none⟩), .int .u8 q] (rbB b r A n c off st bits cnt)
      (fun w => BrPre w (blocks (rbB b r A n c off st bits cnt)) r A n c bs e u) (RvQ b r A n c (num bs) off st cnt q) := by
  refine FnS.intro Tryd.func67 rfl (by kernel_rfl) rfl fun w hH hp => ?_
  (conv => whnf); repeat ((first | refine RngK.mk (by omega) (by omega) ?_ | refine NzK.mk (by omega) ?_ | refine NnK.mk (by omega) ?_ | refine BdK.mk (by omega) (by omega) (by omega) ?_ | refine InsK.lit (by omega) (by omega) ?_ | refine SpK.lit ?_ | refine GrdK.same ?_ | refine GrdK.tf ?_ | refine GrdK.ft ?_ | refine PickK.t ?_ | refine PickK.f ?_); (conv => whnf))
  refine CallK.of [0] (fetch_spec b r A n c bs off st bits cnt q hn hI hq) rfl (fun w hw => hp.by_.pass hw) ?_
  rintro v _ ⟨off', bits', cnt', g1, g2, rfl, hv⟩
  obtain ⟨i1, i2, i3, i4, i5⟩ := g2
  rcases hv with ⟨rfl, g3, g4⟩ | ⟨rfl, g3⟩
  · (conv => whnf); repeat ((first | refine RngK.mk (by omega) (by omega) ?_ | refine NzK.mk (by omega) ?_ | refine NnK.mk (by omega) ?_ | refine BdK.mk (by omega) (by omega) (by omega) ?_ | refine InsK.lit (by omega) (by omega) ?_ | refine SpK.lit ?_ | refine GrdK.same ?_ | refine GrdK.tf ?_ | refine GrdK.ft ?_ | refine PickK.t ?_ | refine PickK.f ?_); (conv => whnf))
    refine Wp.cond rfl (fun h => by cases h) (fun _ => ?_)
    (conv => whnf); repeat ((first | refine RngK.mk (by omega) (by omega) ?_ | refine NzK.mk (by omega) ?_ | refine NnK.mk (by omega) ?_ | refine BdK.mk (by omega) (by omega) (by omega) ?_ | refine InsK.lit (by omega) (by omega) ?_ | refine SpK.lit ?_ | refine GrdK.same ?_ | refine GrdK.tf ?_ | refine GrdK.ft ?_ | refine PickK.t ?_ | refine PickK.f ?_); (conv => whnf))
    refine LdK.blk 0 rfl rfl rfl rfl ?_
    (conv => whnf); repeat ((first | refine RngK.mk (by omega) (by omega) ?_ | refine NzK.mk (by omega) ?_ | refine NnK.mk (by omega) ?_ | refine BdK.mk (by omega) (by omega) (by omega) ?_ | refine InsK.lit (by omega) (by omega) ?_ | refine SpK.lit ?_ | refine GrdK.same ?_ | refine GrdK.tf ?_ | refine GrdK.ft ?_ | refine PickK.t ?_ | refine PickK.f ?_); (conv => whnf))
    have eq : IntKind.u32.wrap (q : Int) = (q : Int) := IntWalk.u32_in _ (by omega)
    refine StK.blkE 0 (rbc r A n c off' st bits' (cnt' - q)) rfl rfl rfl rfl (Nat.le_of_ble_eq_true rfl) ?_ ?_
    · show [_, _, _, _, _, Value.int .u32 _] = [_, _, _, _, _, Value.int .u32 _]
      rw [eq, IntWalk.u32_in _ (by omega)]
      have : (cnt' : Int) - (q : Int) = ((cnt' - q : Nat) : Int) := by omega
      rw [this]
    (conv => whnf); repeat ((first | refine RngK.mk (by omega) (by omega) ?_ | refine NzK.mk (by omega) ?_ | refine NnK.mk (by omega) ?_ | refine BdK.mk (by omega) (by omega) (by omega) ?_ | refine InsK.lit (by omega) (by omega) ?_ | refine SpK.lit ?_ | refine GrdK.same ?_ | refine GrdK.tf ?_ | refine GrdK.ft ?_ | refine PickK.t ?_ | refine PickK.f ?_); (conv => whnf))
    refine DrwK.ord (by kernel_rfl) [0, 1, 2, 3, 4, 5, 6, 7, 8, 9, 10, 11, 12, 13] (by kernel_rfl) ?_; conv => whnf
    (conv => whnf); repeat ((first | refine RngK.mk (by omega) (by omega) ?_ | refine NzK.mk (by omega) ?_ | refine NnK.mk (by omega) ?_ | refine BdK.mk (by omega) (by omega) (by omega) ?_ | refine InsK.lit (by omega) (by omega) ?_ | refine SpK.lit ?_ | refine GrdK.same ?_ | refine GrdK.tf ?_ | refine GrdK.ft ?_ | refine PickK.t ?_ | refine PickK.f ?_); (conv => whnf))
    refine LdK.blk 0 rfl rfl rfl rfl ?_
    (conv => whnf); repeat ((first | refine RngK.mk (by omega) (by omega) ?_ | refine NzK.mk (by omega) ?_ | refine NnK.mk (by omega) ?_ | refine BdK.mk (by omega) (by omega) (by omega) ?_ | refine InsK.lit (by omega) (by omega) ?_ | refine SpK.lit ?_ | refine GrdK.same ?_ | refine GrdK.tf ?_ | refine GrdK.ft ?_ | refine PickK.t ?_ | refine PickK.f ?_); (conv => whnf))
    refine LdK.blk 0 rfl rfl rfl rfl ?_
    (conv => whnf); repeat ((first | refine RngK.mk (by omega) (by omega) ?_ | refine NzK.mk (by omega) ?_ | refine NnK.mk (by omega) ?_ | refine BdK.mk (by omega) (by omega) (by omega) ?_ | refine InsK.lit (by omega) (by omega) ?_ | refine SpK.lit ?_ | refine GrdK.same ?_ | refine GrdK.tf ?_ | refine GrdK.ft ?_ | refine PickK.t ?_ | refine PickK.f ?_); (conv => whnf))
    have h2q : 2 ^ q ≤ 2 ^ 24 := Nat.pow_le_pow_right (by omega) hq
    have h2p := Nat.two_pow_pos q
    have e0 : ishl .u32 1 (q : Int) = ((2 ^ q : Nat) : Int) := by
      have := ishl_u (k := .u32) rfl 1 (n := q) (by show _ ≤ 32; omega)
      rw [show (1 : Int) = ((1 : Nat) : Int) from rfl, this, Nat.one_mul, Nat.mod_eq_of_lt (by show _ < 2 ^ 32; omega)]
    have e1 : IntKind.u32.wrap (((2 ^ q : Nat) : Int) - 1) = ((2 ^ q - 1 : Nat) : Int) := by
      rw [IntWalk.u32_in _ (by omega)]
      omega
    have e2 : ishr .u32 (bits' : Int) ((cnt' - q : Nat) : Int) = ((bits' / 2 ^ (cnt' - q) : Nat) : Int) := ishr_nat .u32 bits' (by show _ ≤ 32; omega)
    have hd : bits' / 2 ^ (cnt' - q) < 2 ^ 32 := Nat.lt_of_le_of_lt (Nat.div_le_self _ _) i4
    have e3 : iand .u32 ((bits' / 2 ^ (cnt' - q) : Nat) : Int) ((2 ^ q - 1 : Nat) : Int) = ((bitsN (num bs) (8 * off + cnt - q) q : Nat) : Int) := by
      rw [iand_u (k := .u32) rfl hd (by show _ < 2 ^ 32; omega), Nat.and_two_pow_sub_one_eq_mod]
      have e4 : bitsN (num bs) (8 * off + cnt - q) q = bitsN (num bs) (8 * off' + (cnt' - q)) (cnt' - (cnt' - q)) := by
        have h1 : 8 * off + cnt - q = 8 * off' + (cnt' - q) := by omega
        have h2 : cnt' - (cnt' - q) = q := by omega
        rw [h1, h2]
      rw [e4, ← bitsN_shr _ _ (by omega), ← i5]
      have e5 : 2 ^ cnt' = 2 ^ (cnt' - q) * 2 ^ q := by rw [← Nat.pow_add]; congr 1; omega
      rw [e5, Nat.mod_mul_right_div_self]
    rw [e0, e1, e2, e3]
    (conv => whnf); repeat ((first | refine RngK.mk (by omega) (by omega) ?_ | refine NzK.mk (by omega) ?_ | refine NnK.mk (by omega) ?_ | refine BdK.mk (by omega) (by omega) (by omega) ?_ | refine InsK.lit (by omega) (by omega) ?_ | refine SpK.lit ?_ | refine GrdK.same ?_ | refine GrdK.tf ?_ | refine GrdK.ft ?_ | refine PickK.t ?_ | refine PickK.f ?_); (conv => whnf))
    refine ⟨off', bits', cnt' - q, ⟨i1, i2, by omega, i4, ?_⟩, rfl, .inl ⟨g4, by omega, rfl⟩⟩
    have e6 : bits' % 2 ^ cnt' % 2 ^ (cnt' - q) = bits' % 2 ^ (cnt' - q) := Nat.mod_mod_of_dvd _ (Nat.pow_dvd_pow 2 (by omega))
    rw [← e6, i5, bitsN_low _ _ (by omega)]
  · (conv => whnf); repeat ((first | refine RngK.mk (by omega) (by omega) ?_ | refine NzK.mk (by omega) ?_ | refine NnK.mk (by omega) ?_ | refine BdK.mk (by omega) (by omega) (by omega) ?_ | refine InsK.lit (by omega) (by omega) ?_ | refine SpK.lit ?_ | refine GrdK.same ?_ | refine GrdK.tf ?_ | refine GrdK.ft ?_ | refine PickK.t ?_ | refine PickK.f ?_); (conv => whnf))
    refine Wp.cond rfl (fun _ => ?_) (fun h => by cases h)
    (conv => whnf); repeat ((first | refine RngK.mk (by omega) (by omega) ?_ | refine NzK.mk (by omega) ?_ | refine NnK.mk (by omega) ?_ | refine BdK.mk (by omega) (by omega) (by omega) ?_ | refine InsK.lit (by omega) (by omega) ?_ | refine SpK.lit ?_ | refine GrdK.same ?_ | refine GrdK.tf ?_ | refine GrdK.ft ?_ | refine PickK.t ?_ | refine PickK.f ?_); (conv => whnf))
    refine DrwK.ord (by kernel_rfl) [0, 1, 2, 3, 4, 5, 6, 7, 8, 9, 10, 11] (by kernel_rfl) ?_; conv => whnf
    (conv => whnf); repeat ((first | refine RngK.mk (by omega) (by omega) ?_ | refine NzK.mk (by omega) ?_ | refine NnK.mk (by omega) ?_ | refine BdK.mk (by omega) (by omega) (by omega) ?_ | refine InsK.lit (by omega) (by omega) ?_ | refine SpK.lit ?_ | refine GrdK.same ?_ | refine GrdK.tf ?_ | refine GrdK.ft ?_ | refine PickK.t ?_ | refine PickK.f ?_); (conv => whnf))
    refine LdK.blk 0 rfl rfl rfl rfl ?_
    (conv => whnf); repeat ((first | refine RngK.mk (by omega) (by omega) ?_ | refine NzK.mk (by omega) ?_ | refine NnK.mk (by omega) ?_ | refine BdK.mk (by omega) (by omega) (by omega) ?_ | refine InsK.lit (by omega) (by omega) ?_ | refine SpK.lit ?_ | refine GrdK.same ?_ | refine GrdK.tf ?_ | refine GrdK.ft ?_ | refine PickK.t ?_ | refine PickK.f ?_); (conv => whnf))
    refine LdK.blk 0 rfl rfl rfl rfl ?_
    (conv => whnf); repeat ((first | refine RngK.mk (by omega) (by omega) ?_ | refine NzK.mk (by omega) ?_ | refine NnK.mk (by omega) ?_ | refine BdK.mk (by omega) (by omega) (by omega) ?_ | refine InsK.lit (by omega) (by omega) ?_ | refine SpK.lit ?_ | refine GrdK.same ?_ | refine GrdK.tf ?_ | refine GrdK.ft ?_ | refine PickK.t ?_ | refine PickK.f ?_); (conv => whnf))
    refine CallK.of [] (eof_spec r off' e u (by omega) (by omega)) rfl (fun w hw => ⟨hp.la.pass hw, hp.rr.pass hw⟩) ?_
    rintro _ _ ⟨⟨T, x, rfl⟩, rfl⟩
    (conv => whnf); repeat ((first | refine RngK.mk (by omega) (by omega) ?_ | refine NzK.mk (by omega) ?_ | refine NnK.mk (by omega) ?_ | refine BdK.mk (by omega) (by omega) (by omega) ?_ | refine InsK.lit (by omega) (by omega) ?_ | refine SpK.lit ?_ | refine GrdK.same ?_ | refine GrdK.tf ?_ | refine GrdK.ft ?_ | refine PickK.t ?_ | refine PickK.f ?_); (conv => whnf))
    repeat (refine KfK.of (LdK.blk 0 rfl rfl rfl rfl rfl) ?_; conv => whnf)
    (conv => whnf); repeat ((first | refine RngK.mk (by omega) (by omega) ?_ | refine NzK.mk (by omega) ?_ | refine NnK.mk (by omega) ?_ | refine BdK.mk (by omega) (by omega) (by omega) ?_ | refine InsK.lit (by omega) (by omega) ?_ | refine SpK.lit ?_ | refine GrdK.same ?_ | refine GrdK.tf ?_ | refine GrdK.ft ?_ | refine PickK.t ?_ | refine PickK.f ?_); (conv => whnf))
    exact ⟨off', bits', cnt', ⟨i1, i2, i3, i4, i5⟩, rfl, .inr ⟨g3, g1, T, x, rfl⟩⟩
theorem makeReverse_spec (r : Nat) (A : Option Addr) (n c o st : Nat) (bs : List UInt8) (e u : Addr) (hn : n ≤ 16777216) (ho : o < bs.length) (hs : st ≤ o) :
    FnS Tryd.prog 66 [.pointer (some ⟨r, 0, none⟩), .slice A n c, vI o, vI st] [] (fun w => BrPre w (blocks []) r A n c bs e u)
      (fun v H => H = [] ∧ ((bs[o].toNat = 0 ∧ ∃ cs T x, cs.size = 6 ∧ cs.toList.all (·.oneCell') = true ∧ v = .tuple #[.agg cs, .iface T x]) ∨
        (0 < bs[o].toNat ∧ v = .tuple #[.agg (rbc r A n c o st bs[o].toNat (wd bs[o].toNat - 1)).toArray, .nilIface]))) := by
  refine FnS.introD Tryd.func66 rfl (by kernel_rfl) rfl fun w hH hp => ?_
  obtain rfl : bs.length = n := hp.by_.len
  (conv => whnf); repeat ((first | refine RngK.mk (by omega) (by omega) ?_ | refine NzK.mk (by omega) ?_ | refine NnK.mk (by omega) ?_ | refine BdK.mk (by omega) (by omega) (by omega) ?_ | refine InsK.lit (by omega) (by omega) ?_ | refine SpK.lit ?_ | refine GrdK.same ?_ | refine GrdK.tf ?_ | refine GrdK.ft ?_ | refine PickK.t ?_ | refine PickK.f ?_); (conv => whnf))
  refine ⟨_, _, rfl, rfl, ?_⟩
  intro b8
  (conv => whnf); repeat ((first | refine RngK.mk (by omega) (by omega) ?_ | refine NzK.mk (by omega) ?_ | refine NnK.mk (by omega) ?_ | refine BdK.mk (by omega) (by omega) (by omega) ?_ | refine InsK.lit (by omega) (by omega) ?_ | refine SpK.lit ?_ | refine GrdK.same ?_ | refine GrdK.tf ?_ | refine GrdK.ft ?_ | refine PickK.t ?_ | refine PickK.f ?_); (conv => whnf))
  refine InsK.rd hp.by_.rd (by omega) (by omega) ?_
  (conv => whnf); repeat ((first | refine RngK.mk (by omega) (by omega) ?_ | refine NzK.mk (by omega) ?_ | refine NnK.mk (by omega) ?_ | refine BdK.mk (by omega) (by omega) (by omega) ?_ | refine InsK.lit (by omega) (by omega) ?_ | refine SpK.lit ?_ | refine GrdK.same ?_ | refine GrdK.tf ?_ | refine GrdK.ft ?_ | refine PickK.t ?_ | refine PickK.f ?_); (conv => whnf))
  refine LdK.rd (v := vU8 bs[o]) hp.by_.rd o rfl rfl rfl (by simp [ho]) ?_
  (conv => whnf); repeat ((first | refine RngK.mk (by omega) (by omega) ?_ | refine NzK.mk (by omega) ?_ | refine NnK.mk (by omega) ?_ | refine BdK.mk (by omega) (by omega) (by omega) ?_ | refine InsK.lit (by omega) (by omega) ?_ | refine SpK.lit ?_ | refine GrdK.same ?_ | refine GrdK.tf ?_ | refine GrdK.ft ?_ | refine PickK.t ?_ | refine PickK.f ?_); (conv => whnf))
  refine Wp.cond rfl (fun g => ?_) (fun g => ?_)
  · have g := eqT g
    (conv => whnf); repeat ((first | refine RngK.mk (by omega) (by omega) ?_ | refine NzK.mk (by omega) ?_ | refine NnK.mk (by omega) ?_ | refine BdK.mk (by omega) (by omega) (by omega) ?_ | refine InsK.lit (by omega) (by omega) ?_ | refine SpK.lit ?_ | refine GrdK.same ?_ | refine GrdK.tf ?_ | refine GrdK.ft ?_ | refine PickK.t ?_ | refine PickK.f ?_); (conv => whnf))
    refine ValK.build rfl ?_
    (conv => whnf); repeat ((first | refine RngK.mk (by omega) (by omega) ?_ | refine NzK.mk (by omega) ?_ | refine NnK.mk (by omega) ?_ | refine BdK.mk (by omega) (by omega) (by omega) ?_ | refine InsK.lit (by omega) (by omega) ?_ | refine SpK.lit ?_ | refine GrdK.same ?_ | refine GrdK.tf ?_ | refine GrdK.ft ?_ | refine PickK.t ?_ | refine PickK.f ?_); (conv => whnf))
    refine CallK.of [] (err_spec r o _ e u (by omega) (by omega)) rfl (fun w hw => ⟨hp.la.pass hw, hp.rr.pass hw⟩) ?_
    rintro _ _ ⟨⟨T, x, rfl⟩, rfl⟩
    (conv => whnf); repeat ((first | refine RngK.mk (by omega) (by omega) ?_ | refine NzK.mk (by omega) ?_ | refine NnK.mk (by omega) ?_ | refine BdK.mk (by omega) (by omega) (by omega) ?_ | refine InsK.lit (by omega) (by omega) ?_ | refine SpK.lit ?_ | refine GrdK.same ?_ | refine GrdK.tf ?_ | refine GrdK.ft ?_ | refine PickK.t ?_ | refine PickK.f ?_); (conv => whnf))
    refine StK.blkNE 0 _ rfl rfl rfl rfl rfl rfl ?_
    (conv => whnf); repeat ((first | refine RngK.mk (by omega) (by omega) ?_ | refine NzK.mk (by omega) ?_ | refine NnK.mk (by omega) ?_ | refine BdK.mk (by omega) (by omega) (by omega) ?_ | refine InsK.lit (by omega) (by omega) ?_ | refine SpK.lit ?_ | refine GrdK.same ?_ | refine GrdK.tf ?_ | refine GrdK.ft ?_ | refine PickK.t ?_ | refine PickK.f ?_); (conv => whnf))
    refine LdK.blkN 0 rfl rfl rfl rfl rfl ?_
    (conv => whnf); repeat ((first | refine RngK.mk (by omega) (by omega) ?_ | refine NzK.mk (by omega) ?_ | refine NnK.mk (by omega) ?_ | refine BdK.mk (by omega) (by omega) (by omega) ?_ | refine InsK.lit (by omega) (by omega) ?_ | refine SpK.lit ?_ | refine GrdK.same ?_ | refine GrdK.tf ?_ | refine GrdK.ft ?_ | refine PickK.t ?_ | refine PickK.f ?_); (conv => whnf))
    exact ⟨[], HSub.nil _, rfl, .inl ⟨by omega, _, T, x, rfl, rfl, rfl⟩⟩
  · have g := eqF g
    have hb : 0 < bs[o].toNat := by omega
    have hb2 := bs[o].toNat_lt
    have hw : wd bs[o].toNat ≤ 8 := wd_lt (by omega)
    have hw2 := wd_pos hb
    (conv => whnf); repeat ((first | refine RngK.mk (by omega) (by omega) ?_ | refine NzK.mk (by omega) ?_ | refine NnK.mk (by omega) ?_ | refine BdK.mk (by omega) (by omega) (by omega) ?_ | refine InsK.lit (by omega) (by omega) ?_ | refine SpK.lit ?_ | refine GrdK.same ?_ | refine GrdK.tf ?_ | refine GrdK.ft ?_ | refine PickK.t ?_ | refine PickK.f ?_); (conv => whnf))
    refine CallK.of0 (lz8_spec bs[o]) ?_
    rintro _ _ ⟨rfl, rfl⟩
    generalize wd bs[o].toNat = wv at hw hw2 ⊢
    (conv => whnf); repeat ((first | refine RngK.mk (by omega) (by omega) ?_ | refine NzK.mk (by omega) ?_ | refine NnK.mk (by omega) ?_ | refine BdK.mk (by omega) (by omega) (by omega) ?_ | refine InsK.lit (by omega) (by omega) ?_ | refine SpK.lit ?_ | refine GrdK.same ?_ | refine GrdK.tf ?_ | refine GrdK.ft ?_ | refine PickK.t ?_ | refine PickK.f ?_); (conv => whnf))
    refine ValK.buildS 6 rfl rfl rfl rfl rfl rfl rfl ?_
    (conv => whnf); repeat ((first | refine RngK.mk (by omega) (by omega) ?_ | refine NzK.mk (by omega) ?_ | refine NnK.mk (by omega) ?_ | refine BdK.mk (by omega) (by omega) (by omega) ?_ | refine InsK.lit (by omega) (by omega) ?_ | refine SpK.lit ?_ | refine GrdK.same ?_ | refine GrdK.tf ?_ | refine GrdK.ft ?_ | refine PickK.t ?_ | refine PickK.f ?_); (conv => whnf))
    refine ⟨_, _, rfl, rfl, ?_⟩
    intro b11
    (conv => whnf); repeat ((first | refine RngK.mk (by omega) (by omega) ?_ | refine NzK.mk (by omega) ?_ | refine NnK.mk (by omega) ?_ | refine BdK.mk (by omega) (by omega) (by omega) ?_ | refine InsK.lit (by omega) (by omega) ?_ | refine SpK.lit ?_ | refine GrdK.same ?_ | refine GrdK.tf ?_ | refine GrdK.ft ?_ | refine PickK.t ?_ | refine PickK.f ?_); (conv => whnf))
    refine StK.blkNE 0 (rbc r A bs.length c o st bs[o].toNat (wv - 1)) rfl rfl rfl rfl rfl ?_ ?_
    · show [_, _, Value.int .u32 _, Value.int .u32 _, Value.int .u32 _, Value.int .u32 _] = [_, _, Value.int .u32 _, Value.int .u32 _, Value.int .u32 _, Value.int .u32 _]
      have e1 : IntKind.u32.wrap (o : Int) = (o : Int) := IntWalk.u32_in _ (by omega)
      have e2 : IntKind.u32.wrap (st : Int) = (st : Int) := IntWalk.u32_in _ (by omega)
      have e3 : IntKind.u32.wrap (bs[o].toNat : Int) = (bs[o].toNat : Int) := IntWalk.u32_in _ (by omega)
      have e4 : IntKind.u32.wrap (7 - ((8 - wv : Nat) : Int)) = ((wv - 1 : Nat) : Int) := by
        rw [IntWalk.u32_in _ (by omega)]; omega
      rw [e1, e2, e3, e4]
    (conv => whnf); repeat ((first | refine RngK.mk (by omega) (by omega) ?_ | refine NzK.mk (by omega) ?_ | refine NnK.mk (by omega) ?_ | refine BdK.mk (by omega) (by omega) (by omega) ?_ | refine InsK.lit (by omega) (by omega) ?_ | refine SpK.lit ?_ | refine GrdK.same ?_ | refine GrdK.tf ?_ | refine GrdK.ft ?_ | refine PickK.t ?_ | refine PickK.f ?_); (conv => whnf))
    refine LdK.blkN 0 rfl rfl rfl rfl rfl ?_
    (conv => whnf); repeat ((first | refine RngK.mk (by omega) (by omega) ?_ | refine NzK.mk (by omega) ?_ | refine NnK.mk (by omega) ?_ | refine BdK.mk (by omega) (by omega) (by omega) ?_ | refine InsK.lit (by omega) (by omega) ?_ | refine SpK.lit ?_ | refine GrdK.same ?_ | refine GrdK.tf ?_ | refine GrdK.ft ?_ | refine PickK.t ?_ | refine PickK.f ?_); (conv => whnf))
    refine StK.blkNE 1 (rbc r A bs.length c o st bs[o].toNat (wv - 1)) rfl rfl rfl rfl rfl rfl ?_
    (conv => whnf); repeat ((first | refine RngK.mk (by omega) (by omega) ?_ | refine NzK.mk (by omega) ?_ | refine NnK.mk (by omega) ?_ | refine BdK.mk (by omega) (by omega) (by omega) ?_ | refine InsK.lit (by omega) (by omega) ?_ | refine SpK.lit ?_ | refine GrdK.same ?_ | refine GrdK.tf ?_ | refine GrdK.ft ?_ | refine PickK.t ?_ | refine PickK.f ?_); (conv => whnf))
    refine LdK.blkN 1 rfl rfl rfl rfl rfl ?_
    (conv => whnf); repeat ((first | refine RngK.mk (by omega) (by omega) ?_ | refine NzK.mk (by omega) ?_ | refine NnK.mk (by omega) ?_ | refine BdK.mk (by omega) (by omega) (by omega) ?_ | refine InsK.lit (by omega) (by omega) ?_ | refine SpK.lit ?_ | refine GrdK.same ?_ | refine GrdK.tf ?_ | refine GrdK.ft ?_ | refine PickK.t ?_ | refine PickK.f ?_); (conv => whnf))
    exact ⟨[], HSub.nil _, rfl, .inr ⟨hb, rfl⟩⟩
theorem RbI.start {bs : List UInt8} {o st : Nat} (ho : o < bs.length) (hs : st ≤ o) : RbI (num bs) bs.length st o bs[o].toNat (wd bs[o].toNat - 1) := by
  have hb2 := bs[o].toNat_lt
  have hw : wd bs[o].toNat ≤ 8 := wd_lt (by omega)
  refine ⟨hs, by omega, by omega, by omega, ?_⟩
  have h := bitsN_low (num bs) (8 * o) (b := wd bs[o].toNat - 1) (c := 8) (by omega)
  rw [← num_byte ho] at h
  exact h
theorem rbErr_spec (b r : Nat) (A : Option Addr) (n c off st bits cnt : Nat) (s : ByteArray) (e u : Addr) (ho : off < 2 ^ 31) :
    FnS Tryd.prog 69 [.pointer (some ⟨b, 0, none⟩), .string s] (rbB b r A n c off st bits cnt)
      (fun w => Laid w (blocks (rbB b r A n c off st bits cnt)) e u ∧ Rd w (blocks (rbB b r A n c off st bits cnt)) (some ⟨r, 6, none⟩) 1 1 [.int .i64 0])
      (fun v H => (∃ T x, v = .iface T x) ∧ H = rbB b r A n c off st bits cnt) := by
  refine FnS.intro Tryd.func69 rfl (by kernel_rfl) rfl fun w hH ⟨hL, hR⟩ => ?_
  generalize hW : blocks (rbB b r A n c off st bits cnt) = W at *
  (conv => whnf); repeat ((first | refine RngK.mk (by omega) (by omega) ?_ | refine NzK.mk (by omega) ?_ | refine NnK.mk (by omega) ?_ | refine BdK.mk (by omega) (by omega) (by omega) ?_ | refine InsK.lit (by omega) (by omega) ?_ | refine SpK.lit ?_ | refine GrdK.same ?_ | refine GrdK.tf ?_ | refine GrdK.ft ?_ | refine PickK.t ?_ | refine PickK.f ?_); (conv => whnf))
  refine DrwK.ord (by kernel_rfl) [0, 1, 2, 3, 4, 5, 6, 7, 8, 9, 10, 11] (by kernel_rfl) ?_; conv => whnf
  (conv => whnf); repeat ((first | refine RngK.mk (by omega) (by omega) ?_ | refine NzK.mk (by omega) ?_ | refine NnK.mk (by omega) ?_ | refine BdK.mk (by omega) (by omega) (by omega) ?_ | refine InsK.lit (by omega) (by omega) ?_ | refine SpK.lit ?_ | refine GrdK.same ?_ | refine GrdK.tf ?_ | refine GrdK.ft ?_ | refine PickK.t ?_ | refine PickK.f ?_); (conv => whnf))
  refine LdK.blk 0 rfl rfl rfl rfl ?_
  (conv => whnf); repeat ((first | refine RngK.mk (by omega) (by omega) ?_ | refine NzK.mk (by omega) ?_ | refine NnK.mk (by omega) ?_ | refine BdK.mk (by omega) (by omega) (by omega) ?_ | refine InsK.lit (by omega) (by omega) ?_ | refine SpK.lit ?_ | refine GrdK.same ?_ | refine GrdK.tf ?_ | refine GrdK.ft ?_ | refine PickK.t ?_ | refine PickK.f ?_); (conv => whnf))
  refine LdK.blk 0 rfl rfl rfl rfl ?_
  (conv => whnf); repeat ((first | refine RngK.mk (by omega) (by omega) ?_ | refine NzK.mk (by omega) ?_ | refine NnK.mk (by omega) ?_ | refine BdK.mk (by omega) (by omega) (by omega) ?_ | refine InsK.lit (by omega) (by omega) ?_ | refine SpK.lit ?_ | refine GrdK.same ?_ | refine GrdK.tf ?_ | refine GrdK.ft ?_ | refine PickK.t ?_ | refine PickK.f ?_); (conv => whnf))
  refine CallK.of [] (err_spec r off s e u (by omega) (by omega)) rfl (fun w hw => ⟨hL.pass hw, hR.pass hw⟩) ?_
  rintro _ _ ⟨⟨T, x, rfl⟩, rfl⟩
  (conv => whnf); repeat ((first | refine RngK.mk (by omega) (by omega) ?_ | refine NzK.mk (by omega) ?_ | refine NnK.mk (by omega) ?_ | refine BdK.mk (by omega) (by omega) (by omega) ?_ | refine InsK.lit (by omega) (by omega) ?_ | refine SpK.lit ?_ | refine GrdK.same ?_ | refine GrdK.tf ?_ | refine GrdK.ft ?_ | refine PickK.t ?_ | refine PickK.f ?_); (conv => whnf))
  refine KfK.of (LdK.blk 0 rfl rfl rfl rfl rfl) ?_
  (conv => whnf); repeat ((first | refine RngK.mk (by omega) (by omega) ?_ | refine NzK.mk (by omega) ?_ | refine NnK.mk (by omega) ?_ | refine BdK.mk (by omega) (by omega) (by omega) ?_ | refine InsK.lit (by omega) (by omega) ?_ | refine SpK.lit ?_ | refine GrdK.same ?_ | refine GrdK.tf ?_ | refine GrdK.ft ?_ | refine PickK.t ?_ | refine PickK.f ?_); (conv => whnf))
  refine KfK.of (LdK.blk 0 rfl rfl rfl rfl rfl) ?_
  (conv => whnf); repeat ((first | refine RngK.mk (by omega) (by omega) ?_ | refine NzK.mk (by omega) ?_ | refine NnK.mk (by omega) ?_ | refine BdK.mk (by omega) (by omega) (by omega) ?_ | refine InsK.lit (by omega) (by omega) ?_ | refine SpK.lit ?_ | refine GrdK.same ?_ | refine GrdK.tf ?_ | refine GrdK.ft ?_ | refine PickK.t ?_ | refine PickK.f ?_); (conv => whnf))
  exact ⟨⟨T, x, rfl⟩, rfl⟩
end Go.Proofs.YtgdhdkjbilifiaaDoor
