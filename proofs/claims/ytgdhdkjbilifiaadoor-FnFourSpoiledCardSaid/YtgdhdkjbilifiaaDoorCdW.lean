/- Literals of four streams: the package. -/
import Derived.Test.YtgdhdkjbilifiaaDoorCdT
namespace Go.Proofs.YtgdhdkjbilifiaaDoor
open Go Go.Sx
set_option maxRecDepth 100000
/-- what the closure that fetches an entry reads -/
structure FhPre (w : World) (W : Nat → Prop) (r : Nat) (A : Option Addr) (n c : Nat) (bs : List UInt8) (e u : Addr) (T : Option Addr) (m mc b : Nat) (ts : List Nat) (k1 k2 k3 : Nat) : Prop where
  br : BrPre w W r A n c bs e u
  f1 : Rd w W (some ⟨k1, 0, none⟩) 1 1 [.int .u32 (b : Int)]
  f2 : Rd w W (some ⟨k2, 0, none⟩) 1 1 [.int .u32 ((2 ^ b - 1 : Nat) : Int)]
  f3 : Rd w W (some ⟨k3, 0, none⟩) 1 1 [.slice T m mc]
  tb : Rd w W T m 1 (ts.map vU16)
set_option maxHeartbeats 1000000 in
theorem fetchHuff_spec (bk r : Nat) (A : Option Addr) (n c : Nat) (bs : List UInt8) (e u : Addr) (off st bits cnt : Nat) (T : Option Addr) (m mc b : Nat) (ts : List Nat) (Tab : List Cd) (k1 k2 k3 : Nat) (hn : n ≤ 16777216) (hI : RbI (num bs) n st off bits cnt) (hT : Tb b Tab)
    (htm : 2 ^ b ≤ m) (hts : ts.take (2 ^ b) = Tab.map pk) :
    FnS Tryd.prog 73 [.pointer (some ⟨bk, 0, none⟩), .pointer (some ⟨k1, 0, none⟩), .pointer (some ⟨k2, 0, none⟩), .pointer (some ⟨k3, 0, none⟩)] (rbB bk r A n c off st bits cnt)
      (fun w => FhPre w (blocks (rbB bk r A n c off st bits cnt)) r A n c bs e u T m mc b ts k1 k2 k3)
      (fun v H => ∃ off' bits' cnt', RbI (num bs) n st off' bits' cnt' ∧ 8 * off' + cnt' = 8 * off + cnt ∧ H = rbB bk r A n c off' st bits' cnt' ∧
        ((8 * st + b ≤ 8 * off + cnt ∧ b ≤ cnt' ∧ v = .tuple #[vU16 (pk (ent Tab (bitsN (num bs) (8 * off + cnt - b) b))), .nilIface]) ∨ (8 * off + cnt < 8 * st + b ∧ ∃ T' x, v = .tuple #[vU16 0, .iface T' x]))) := by
  refine FnS.introD Tryd.func73 rfl (by kernel_rfl) rfl fun w hH hp => ?_
  obtain rfl : bs.length = n := hp.br.by_.len
  have hb0 := hT.b0
  have hb1 := hT.b1
  have h2b : 2 ^ b ≤ 2 ^ 11 := Nat.pow_le_pow_right (by omega) hb1
  have e6 : IntKind.u8.wrap (b : Int) = (b : Int) := wrap_u_lt (k := .u8) rfl (by show _ < 256; omega)
  generalize hW : blocks (rbB bk r A bs.length c off st bits cnt) = W at hp ⊢
  (conv => whnf); repeat ((first | refine RngK.mk (by omega) (by omega) ?_ | refine NzK.mk (by omega) ?_ | refine NnK.mk (by omega) ?_ | refine BdK.mk (by omega) (by omega) (by omega) ?_ | refine InsK.lit (by omega) (by omega) ?_ | refine SpK.lit ?_ | refine GrdK.same ?_ | refine GrdK.tf ?_ | refine GrdK.ft ?_ | refine PickK.t ?_ | refine PickK.f ?_); (conv => whnf))
  refine LdK.rd hp.f1 0 rfl rfl rfl rfl ?_
  (conv => whnf); repeat ((first | refine RngK.mk (by omega) (by omega) ?_ | refine NzK.mk (by omega) ?_ | refine NnK.mk (by omega) ?_ | refine BdK.mk (by omega) (by omega) (by omega) ?_ | refine InsK.lit (by omega) (by omega) ?_ | refine SpK.lit ?_ | refine GrdK.same ?_ | refine GrdK.tf ?_ | refine GrdK.ft ?_ | refine PickK.t ?_ | refine PickK.f ?_); (conv => whnf))
  rw [e6]
  refine CallK.of [0] (fetch_spec bk r A bs.length c bs off st bits cnt b hn hI (by omega)) rfl (fun w hw => hp.br.by_.pass hw) ?_
  rintro v _ ⟨of2, bi2, cn2, g1, hI2, rfl, hv⟩
  rcases hv with ⟨rfl, g3, g4⟩ | ⟨rfl, g3⟩
  rotate_left
  · have := hI2.on
    (conv => whnf); repeat ((first | refine RngK.mk (by omega) (by omega) ?_ | refine NzK.mk (by omega) ?_ | refine NnK.mk (by omega) ?_ | refine BdK.mk (by omega) (by omega) (by omega) ?_ | refine InsK.lit (by omega) (by omega) ?_ | refine SpK.lit ?_ | refine GrdK.same ?_ | refine GrdK.tf ?_ | refine GrdK.ft ?_ | refine PickK.t ?_ | refine PickK.f ?_); (conv => whnf))
    refine Wp.cond rfl (fun _ => ?_) (fun h => by cases h)
    (conv => whnf); repeat ((first | refine RngK.mk (by omega) (by omega) ?_ | refine NzK.mk (by omega) ?_ | refine NnK.mk (by omega) ?_ | refine BdK.mk (by omega) (by omega) (by omega) ?_ | refine InsK.lit (by omega) (by omega) ?_ | refine SpK.lit ?_ | refine GrdK.same ?_ | refine GrdK.tf ?_ | refine GrdK.ft ?_ | refine PickK.t ?_ | refine PickK.f ?_); (conv => whnf))
    refine CallK.of [0] (rbErr_spec bk r A bs.length c of2 st bi2 cn2 _ e u (by omega)) rfl (fun w hw => ⟨hp.br.la.pass hw, hp.br.rr.pass hw⟩) ?_
    rintro _ _ ⟨⟨T', x, rfl⟩, rfl⟩
    (conv => whnf); repeat ((first | refine RngK.mk (by omega) (by omega) ?_ | refine NzK.mk (by omega) ?_ | refine NnK.mk (by omega) ?_ | refine BdK.mk (by omega) (by omega) (by omega) ?_ | refine InsK.lit (by omega) (by omega) ?_ | refine SpK.lit ?_ | refine GrdK.same ?_ | refine GrdK.tf ?_ | refine GrdK.ft ?_ | refine PickK.t ?_ | refine PickK.f ?_); (conv => whnf))
    exact ⟨_, HSub.refl _, of2, bi2, cn2, hI2, g1, rfl, .inr ⟨g3, T', x, rfl⟩⟩
  have hix := bitsN_lt (num bs) (8 * off + cnt - b) b
  have hpb := pick_bits hb1 g3 hI2.lt hI2.b32 hI2.low
  rw [g1] at hpb
  have hcb : IntKind.u32.wrap ((cn2 : Int) - (b : Int)) = ((cn2 - b : Nat) : Int) := by
    have := hI2.lt
    rw [IntWalk.u32_in _ (by omega)]; omega
  have htsx : (ts.map vU16)[bitsN (num bs) (8 * off + cnt - b) b]? = some (vU16 (pk (ent Tab (bitsN (num bs) (8 * off + cnt - b) b)))) := by
    have h1 : (ts.take (2 ^ b))[bitsN (num bs) (8 * off + cnt - b) b]? = some (pk (ent Tab (bitsN (num bs) (8 * off + cnt - b) b))) := by
      rw [hts, List.getElem?_map, ent_at (by rw [hT.len]; exact hix)]; rfl
    rw [List.getElem?_take, if_pos hix] at h1
    rw [List.getElem?_map, h1]; rfl
  obtain ⟨ix, hixe⟩ : ∃ ix, bitsN (num bs) (8 * off + cnt - b) b = ix := ⟨_, rfl⟩
  rw [hixe] at hix hpb htsx ⊢
  (conv => whnf); repeat ((first | refine RngK.mk (by omega) (by omega) ?_ | refine NzK.mk (by omega) ?_ | refine NnK.mk (by omega) ?_ | refine BdK.mk (by omega) (by omega) (by omega) ?_ | refine InsK.lit (by omega) (by omega) ?_ | refine SpK.lit ?_ | refine GrdK.same ?_ | refine GrdK.tf ?_ | refine GrdK.ft ?_ | refine PickK.t ?_ | refine PickK.f ?_); (conv => whnf))
  refine Wp.cond rfl (fun h => by cases h) (fun _ => ?_)
  (conv => whnf); repeat ((first | refine RngK.mk (by omega) (by omega) ?_ | refine NzK.mk (by omega) ?_ | refine NnK.mk (by omega) ?_ | refine BdK.mk (by omega) (by omega) (by omega) ?_ | refine InsK.lit (by omega) (by omega) ?_ | refine SpK.lit ?_ | refine GrdK.same ?_ | refine GrdK.tf ?_ | refine GrdK.ft ?_ | refine PickK.t ?_ | refine PickK.f ?_); (conv => whnf))
  refine DrwK.ord (by kernel_rfl) [0, 1, 2, 3, 4, 5, 6, 7, 8, 9, 10, 11, 12, 13] (by kernel_rfl) ?_; conv => whnf
  (conv => whnf); repeat ((first | refine RngK.mk (by omega) (by omega) ?_ | refine NzK.mk (by omega) ?_ | refine NnK.mk (by omega) ?_ | refine BdK.mk (by omega) (by omega) (by omega) ?_ | refine InsK.lit (by omega) (by omega) ?_ | refine SpK.lit ?_ | refine GrdK.same ?_ | refine GrdK.tf ?_ | refine GrdK.ft ?_ | refine PickK.t ?_ | refine PickK.f ?_); (conv => whnf))
  refine LdK.blk 0 rfl rfl rfl rfl ?_
  (conv => whnf); repeat ((first | refine RngK.mk (by omega) (by omega) ?_ | refine NzK.mk (by omega) ?_ | refine NnK.mk (by omega) ?_ | refine BdK.mk (by omega) (by omega) (by omega) ?_ | refine InsK.lit (by omega) (by omega) ?_ | refine SpK.lit ?_ | refine GrdK.same ?_ | refine GrdK.tf ?_ | refine GrdK.ft ?_ | refine PickK.t ?_ | refine PickK.f ?_); (conv => whnf))
  refine LdK.blk 0 rfl rfl rfl rfl ?_
  (conv => whnf); repeat ((first | refine RngK.mk (by omega) (by omega) ?_ | refine NzK.mk (by omega) ?_ | refine NnK.mk (by omega) ?_ | refine BdK.mk (by omega) (by omega) (by omega) ?_ | refine InsK.lit (by omega) (by omega) ?_ | refine SpK.lit ?_ | refine GrdK.same ?_ | refine GrdK.tf ?_ | refine GrdK.ft ?_ | refine PickK.t ?_ | refine PickK.f ?_); (conv => whnf))
  refine LdK.rd hp.f1 0 rfl rfl rfl rfl ?_
  (conv => whnf); repeat ((first | refine RngK.mk (by omega) (by omega) ?_ | refine NzK.mk (by omega) ?_ | refine NnK.mk (by omega) ?_ | refine BdK.mk (by omega) (by omega) (by omega) ?_ | refine InsK.lit (by omega) (by omega) ?_ | refine SpK.lit ?_ | refine GrdK.same ?_ | refine GrdK.tf ?_ | refine GrdK.ft ?_ | refine PickK.t ?_ | refine PickK.f ?_); (conv => whnf))
  rw [hcb]
  (conv => whnf); repeat ((first | refine RngK.mk (by omega) (by omega) ?_ | refine NzK.mk (by omega) ?_ | refine NnK.mk (by omega) ?_ | refine BdK.mk (by omega) (by omega) (by omega) ?_ | refine InsK.lit (by omega) (by omega) ?_ | refine SpK.lit ?_ | refine GrdK.same ?_ | refine GrdK.tf ?_ | refine GrdK.ft ?_ | refine PickK.t ?_ | refine PickK.f ?_); (conv => whnf))
  refine LdK.rd hp.f2 0 rfl rfl rfl rfl ?_
  (conv => whnf); repeat ((first | refine RngK.mk (by omega) (by omega) ?_ | refine NzK.mk (by omega) ?_ | refine NnK.mk (by omega) ?_ | refine BdK.mk (by omega) (by omega) (by omega) ?_ | refine InsK.lit (by omega) (by omega) ?_ | refine SpK.lit ?_ | refine GrdK.same ?_ | refine GrdK.tf ?_ | refine GrdK.ft ?_ | refine PickK.t ?_ | refine PickK.f ?_); (conv => whnf))
  rw [hpb]
  refine LdK.rd hp.f3 0 rfl rfl rfl rfl ?_
  (conv => whnf); repeat ((first | refine RngK.mk (by omega) (by omega) ?_ | refine NzK.mk (by omega) ?_ | refine NnK.mk (by omega) ?_ | refine BdK.mk (by omega) (by omega) (by omega) ?_ | refine InsK.lit (by omega) (by omega) ?_ | refine SpK.lit ?_ | refine GrdK.same ?_ | refine GrdK.tf ?_ | refine GrdK.ft ?_ | refine PickK.t ?_ | refine PickK.f ?_); (conv => whnf))
  refine InsK.rd hp.tb (by omega) (by omega) ?_
  (conv => whnf); repeat ((first | refine RngK.mk (by omega) (by omega) ?_ | refine NzK.mk (by omega) ?_ | refine NnK.mk (by omega) ?_ | refine BdK.mk (by omega) (by omega) (by omega) ?_ | refine InsK.lit (by omega) (by omega) ?_ | refine SpK.lit ?_ | refine GrdK.same ?_ | refine GrdK.tf ?_ | refine GrdK.ft ?_ | refine PickK.t ?_ | refine PickK.f ?_); (conv => whnf))
  refine LdK.rd (v := vU16 (pk (ent Tab ix))) hp.tb ix rfl rfl rfl htsx ?_
  (conv => whnf); repeat ((first | refine RngK.mk (by omega) (by omega) ?_ | refine NzK.mk (by omega) ?_ | refine NnK.mk (by omega) ?_ | refine BdK.mk (by omega) (by omega) (by omega) ?_ | refine InsK.lit (by omega) (by omega) ?_ | refine SpK.lit ?_ | refine GrdK.same ?_ | refine GrdK.tf ?_ | refine GrdK.ft ?_ | refine PickK.t ?_ | refine PickK.f ?_); (conv => whnf))
  exact ⟨_, HSub.refl _, of2, bi2, cn2, hI2, g1, rfl, .inl ⟨g4, g3, rfl⟩⟩
def le2 (bs : List UInt8) (j : Nat) : Nat := num ((bs.drop j).take 2)
theorem le16_spec (A : Option Addr) (n c : Nat) (bs : List UInt8) (h2 : 2 ≤ n) : FnS Tryd.prog 72 [.slice A n c] [] (fun w => Bytes w (blocks []) A n c bs) (Is (vU16 (num (bs.take 2)))) := by
  refine FnS.introD Tryd.func72 rfl (by kernel_rfl) rfl fun w hH hp => ?_
  obtain rfl : bs.length = n := hp.len
  have h0 : (0 : Nat) < bs.length := by omega
  have h1 : (1 : Nat) < bs.length := by omega
  have b0 := bs[0].toNat_lt
  have b1 := bs[1].toNat_lt
  have hnum : num (bs.take 2) = bs[0].toNat + 256 * bs[1].toNat := by
    have : bs.take 2 = [bs[0], bs[1]] := by
      match bs, h1 with
      | x :: y :: l, _ => rfl
    rw [this, num_cons, num_cons]
    rfl
  rw [hnum]
  obtain ⟨x0, hx0⟩ : ∃ x, bs[0].toNat = x := ⟨_, rfl⟩
  obtain ⟨x1, hx1⟩ : ∃ x, bs[1].toNat = x := ⟨_, rfl⟩
  have e0 : IntKind.u16.wrap (x0 : Int) = (x0 : Int) := wrap_u_lt rfl (by show _ < 65536; omega)
  have e1 : IntKind.u16.wrap (x1 : Int) = (x1 : Int) := wrap_u_lt rfl (by show _ < 65536; omega)
  have e2 : ishl .u16 (x1 : Int) 8 = ((x1 * 256 : Nat) : Int) := by
    have := ishl_u (k := .u16) rfl x1 (n := 8) (by decide)
    rw [Nat.mod_eq_of_lt (by show x1 * 2 ^ 8 < 65536; omega)] at this
    exact this
  have e3 : ior .u16 (x0 : Int) ((x1 * 256 : Nat) : Int) = ((x0 + 256 * x1 : Nat) : Int) := by
    rw [ior_u rfl (by show _ < 65536; omega) (by show _ < 65536; omega)]
    have := or_add (x := x0) (y := x1) (i := 8) (by omega)
    rw [show x1 * 256 = x1 * 2 ^ 8 by rfl, this]
    congr 1
    omega
  (conv => whnf); repeat ((first | refine RngK.mk (by omega) (by omega) ?_ | refine NzK.mk (by omega) ?_ | refine NnK.mk (by omega) ?_ | refine BdK.mk (by omega) (by omega) (by omega) ?_ | refine InsK.lit (by omega) (by omega) ?_ | refine SpK.lit ?_ | refine GrdK.same ?_ | refine GrdK.tf ?_ | refine GrdK.ft ?_ | refine PickK.t ?_ | refine PickK.f ?_); (conv => whnf))
  refine DrwK.ord (by kernel_rfl) [0, 1, 2, 3, 4, 5, 6, 7, 8, 9, 10] (by kernel_rfl) ?_; conv => whnf
  (conv => whnf); repeat ((first | refine RngK.mk (by omega) (by omega) ?_ | refine NzK.mk (by omega) ?_ | refine NnK.mk (by omega) ?_ | refine BdK.mk (by omega) (by omega) (by omega) ?_ | refine InsK.lit (by omega) (by omega) ?_ | refine SpK.lit ?_ | refine GrdK.same ?_ | refine GrdK.tf ?_ | refine GrdK.ft ?_ | refine PickK.t ?_ | refine PickK.f ?_); (conv => whnf))
  refine InsK.rd hp.rd (by omega) (by omega) ?_
  (conv => whnf); repeat ((first | refine RngK.mk (by omega) (by omega) ?_ | refine NzK.mk (by omega) ?_ | refine NnK.mk (by omega) ?_ | refine BdK.mk (by omega) (by omega) (by omega) ?_ | refine InsK.lit (by omega) (by omega) ?_ | refine SpK.lit ?_ | refine GrdK.same ?_ | refine GrdK.tf ?_ | refine GrdK.ft ?_ | refine PickK.t ?_ | refine PickK.f ?_); (conv => whnf))
  refine LdK.rd (v := vU8 bs[0]) hp.rd 0 rfl rfl rfl (by simp [h0]) ?_
  (conv => whnf); repeat ((first | refine RngK.mk (by omega) (by omega) ?_ | refine NzK.mk (by omega) ?_ | refine NnK.mk (by omega) ?_ | refine BdK.mk (by omega) (by omega) (by omega) ?_ | refine InsK.lit (by omega) (by omega) ?_ | refine SpK.lit ?_ | refine GrdK.same ?_ | refine GrdK.tf ?_ | refine GrdK.ft ?_ | refine PickK.t ?_ | refine PickK.f ?_); (conv => whnf))
  refine InsK.rd hp.rd (by omega) (by omega) ?_
  (conv => whnf); repeat ((first | refine RngK.mk (by omega) (by omega) ?_ | refine NzK.mk (by omega) ?_ | refine NnK.mk (by omega) ?_ | refine BdK.mk (by omega) (by omega) (by omega) ?_ | refine InsK.lit (by omega) (by omega) ?_ | refine SpK.lit ?_ | refine GrdK.same ?_ | refine GrdK.tf ?_ | refine GrdK.ft ?_ | refine PickK.t ?_ | refine PickK.f ?_); (conv => whnf))
  refine LdK.rd (v := vU8 bs[1]) hp.rd 1 rfl rfl rfl (by simp [h1]) ?_
  (conv => whnf); repeat ((first | refine RngK.mk (by omega) (by omega) ?_ | refine NzK.mk (by omega) ?_ | refine NnK.mk (by omega) ?_ | refine BdK.mk (by omega) (by omega) (by omega) ?_ | refine InsK.lit (by omega) (by omega) ?_ | refine SpK.lit ?_ | refine GrdK.same ?_ | refine GrdK.tf ?_ | refine GrdK.ft ?_ | refine PickK.t ?_ | refine PickK.f ?_); (conv => whnf))
  rw [hx0, hx1, e0, e1, e2, e3]
  exact ⟨[], HSub.nil _, rfl, rfl⟩
end Go.Proofs.YtgdhdkjbilifiaaDoor
