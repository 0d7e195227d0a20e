/- The window of a reader: what its functions do. -/
import Derived.Test.YtkdfminibmdkgaaDoorWinM
import Derived.Test.YtkdfminibmdkgaaDoorOpen
import Derived.Test.YtkdfminibmdkgaaDoorOwn2
namespace Go.Proofs.YtkdfminibmdkgaaDoor
open Go Go.Sx
set_option maxRecDepth 100000
/-- a new reader's cells, but for its buffer and its window -/
abbrev rC (B : Value) (s : Nat) (v : Value) (off : Nat) : List Value := [.nilIface, vB false, vB false, vB false, vB false, .int .u64 0, vI 0, B, vI 0, .int .u32 0, .int .u32 0, .int .u32 0, .slice none 0 0, vI 0, vI s, v, vI off,
  .slice none 0 0, .slice none 0 0, .slice none 0 0, .slice none 0 0, .slice none 0 0, .int .u8 0, .int .u8 0, .int .u8 0, .slice none 0 0, .slice none 0 0, .slice none 0 0] ++ List.replicate 16 (.int .u8 0) ++ [.slice none 0 0] ++ List.replicate 5 (.int .u64 0) ++ List.replicate 32 (.int .u8 0) ++ [vI 0]
abbrev wH (B : Value) (b s : Nat) (D : Option Addr) (dc : Nat) (data : List UInt8) (off : Nat) : Hp := [.blk b 55 (rC B s (.slice D data.length dc) off), .own D data.length dc 5 1 (data.map vU8)]
theorem wH_own {B : Value} {b s : Nat} {D : Option Addr} {dc : Nat} {data : List UInt8} {off : Nat} {w : World} (h : HOk (wH B b s D dc data off) w) : OwnA D data.length dc := OwnA.of (h.ok _ (List.mem_cons_of_mem _ List.mem_cons_self))
theorem reset_spec (B : Value) (b s0 s : Nat) (D : Option Addr) (dc : Nat) (data : List UInt8) (off : Nat) (hs : s ≤ 1000000) :
    FnS Tryd.prog 12 [.pointer (some ⟨b, 14, none⟩), vI s] (wH B b s0 D dc data off) (fun _ => True)
      (fun v H => v = .tuple #[] ∧ ∃ D' dc', H = wH B b s D' dc' [] 0) := by
  refine FnS.introD Tryd.func12 rfl (by kernel_rfl) rfl fun w hH _ => ?_
  have hD := wH_own hH
  (conv => whnf); repeat ((first | refine RngK.mk (by omega) (by omega) ?_ | refine NzK.mk (by omega) ?_ | refine NnK.mk (by omega) ?_ | refine BdK.mk (by omega) (by omega) (by omega) ?_ | refine InsK.lit (by omega) (by omega) ?_ | refine SpK.lit ?_ | refine GrdK.same ?_ | refine GrdK.tf ?_ | refine GrdK.ft ?_ | refine PickK.t ?_ | refine PickK.f ?_); (conv => whnf))
  refine LdK.blk 0 rfl rfl rfl rfl ?_
  (conv => whnf); repeat ((first | refine RngK.mk (by omega) (by omega) ?_ | refine NzK.mk (by omega) ?_ | refine NnK.mk (by omega) ?_ | refine BdK.mk (by omega) (by omega) (by omega) ?_ | refine InsK.lit (by omega) (by omega) ?_ | refine SpK.lit ?_ | refine GrdK.same ?_ | refine GrdK.tf ?_ | refine GrdK.ft ?_ | refine PickK.t ?_ | refine PickK.f ?_); (conv => whnf))
  refine SpK.own hD ?_
  rw [Int.toNat_natCast, hD.cut0]
  (conv => whnf); repeat ((first | refine RngK.mk (by omega) (by omega) ?_ | refine NzK.mk (by omega) ?_ | refine NnK.mk (by omega) ?_ | refine BdK.mk (by omega) (by omega) (by omega) ?_ | refine InsK.lit (by omega) (by omega) ?_ | refine SpK.lit ?_ | refine GrdK.same ?_ | refine GrdK.tf ?_ | refine GrdK.ft ?_ | refine PickK.t ?_ | refine PickK.f ?_); (conv => whnf))
  refine Wp.cond rfl (fun h => ?_) (fun h => ?_)
  · (conv => whnf); repeat ((first | refine RngK.mk (by omega) (by omega) ?_ | refine NzK.mk (by omega) ?_ | refine NnK.mk (by omega) ?_ | refine BdK.mk (by omega) (by omega) (by omega) ?_ | refine InsK.lit (by omega) (by omega) ?_ | refine SpK.lit ?_ | refine GrdK.same ?_ | refine GrdK.tf ?_ | refine GrdK.ft ?_ | refine PickK.t ?_ | refine PickK.f ?_); (conv => whnf))
    refine EffK.made0 s rfl rfl rfl rfl rfl (by show 1 * _ ≤ _; omega) (by simp [maxLen]; omega) fun b2 => ?_
    (conv => whnf); repeat ((first | refine RngK.mk (by omega) (by omega) ?_ | refine NzK.mk (by omega) ?_ | refine NnK.mk (by omega) ?_ | refine BdK.mk (by omega) (by omega) (by omega) ?_ | refine InsK.lit (by omega) (by omega) ?_ | refine SpK.lit ?_ | refine GrdK.same ?_ | refine GrdK.tf ?_ | refine GrdK.ft ?_ | refine PickK.t ?_ | refine PickK.f ?_); (conv => whnf))
    refine StK.blkE 1 (rC B s0 (.slice (some ⟨b2, 0, none⟩) 0 s) (off)) rfl rfl rfl rfl (Nat.le_of_ble_eq_true rfl) rfl ?_
    (conv => whnf); repeat ((first | refine RngK.mk (by omega) (by omega) ?_ | refine NzK.mk (by omega) ?_ | refine NnK.mk (by omega) ?_ | refine BdK.mk (by omega) (by omega) (by omega) ?_ | refine InsK.lit (by omega) (by omega) ?_ | refine SpK.lit ?_ | refine GrdK.same ?_ | refine GrdK.tf ?_ | refine GrdK.ft ?_ | refine PickK.t ?_ | refine PickK.f ?_); (conv => whnf))
    refine StK.blkE 1 (rC B s0 (.slice (some ⟨b2, 0, none⟩) 0 s) (0)) rfl rfl rfl rfl (Nat.le_of_ble_eq_true rfl) rfl ?_
    (conv => whnf); repeat ((first | refine RngK.mk (by omega) (by omega) ?_ | refine NzK.mk (by omega) ?_ | refine NnK.mk (by omega) ?_ | refine BdK.mk (by omega) (by omega) (by omega) ?_ | refine InsK.lit (by omega) (by omega) ?_ | refine SpK.lit ?_ | refine GrdK.same ?_ | refine GrdK.tf ?_ | refine GrdK.ft ?_ | refine PickK.t ?_ | refine PickK.f ?_); (conv => whnf))
    refine StK.blkE 1 (rC B s (.slice (some ⟨b2, 0, none⟩) 0 s) (0)) rfl rfl rfl rfl (Nat.le_of_ble_eq_true rfl) rfl ?_
    (conv => whnf); repeat ((first | refine RngK.mk (by omega) (by omega) ?_ | refine NzK.mk (by omega) ?_ | refine NnK.mk (by omega) ?_ | refine BdK.mk (by omega) (by omega) (by omega) ?_ | refine InsK.lit (by omega) (by omega) ?_ | refine SpK.lit ?_ | refine GrdK.same ?_ | refine GrdK.tf ?_ | refine GrdK.ft ?_ | refine PickK.t ?_ | refine PickK.f ?_); (conv => whnf))
    exact ⟨_, HSub.of [1, 0] rfl, rfl, some ⟨b2, 0, none⟩, s, rfl⟩
  · (conv => whnf); repeat ((first | refine RngK.mk (by omega) (by omega) ?_ | refine NzK.mk (by omega) ?_ | refine NnK.mk (by omega) ?_ | refine BdK.mk (by omega) (by omega) (by omega) ?_ | refine InsK.lit (by omega) (by omega) ?_ | refine SpK.lit ?_ | refine GrdK.same ?_ | refine GrdK.tf ?_ | refine GrdK.ft ?_ | refine PickK.t ?_ | refine PickK.f ?_); (conv => whnf))
    refine StK.shrink 1 rfl ?_
    refine StK.blkE 0 (rC B s0 (.slice D 0 dc) (off)) rfl rfl rfl rfl (Nat.le_of_ble_eq_true rfl) rfl ?_
    (conv => whnf); repeat ((first | refine RngK.mk (by omega) (by omega) ?_ | refine NzK.mk (by omega) ?_ | refine NnK.mk (by omega) ?_ | refine BdK.mk (by omega) (by omega) (by omega) ?_ | refine InsK.lit (by omega) (by omega) ?_ | refine SpK.lit ?_ | refine GrdK.same ?_ | refine GrdK.tf ?_ | refine GrdK.ft ?_ | refine PickK.t ?_ | refine PickK.f ?_); (conv => whnf))
    refine StK.blkE 0 (rC B s0 (.slice D 0 dc) (0)) rfl rfl rfl rfl (Nat.le_of_ble_eq_true rfl) rfl ?_
    (conv => whnf); repeat ((first | refine RngK.mk (by omega) (by omega) ?_ | refine NzK.mk (by omega) ?_ | refine NnK.mk (by omega) ?_ | refine BdK.mk (by omega) (by omega) (by omega) ?_ | refine InsK.lit (by omega) (by omega) ?_ | refine SpK.lit ?_ | refine GrdK.same ?_ | refine GrdK.tf ?_ | refine GrdK.ft ?_ | refine PickK.t ?_ | refine PickK.f ?_); (conv => whnf))
    refine StK.blkE 0 (rC B s (.slice D 0 dc) (0)) rfl rfl rfl rfl (Nat.le_of_ble_eq_true rfl) rfl ?_
    (conv => whnf); repeat ((first | refine RngK.mk (by omega) (by omega) ?_ | refine NzK.mk (by omega) ?_ | refine NnK.mk (by omega) ?_ | refine BdK.mk (by omega) (by omega) (by omega) ?_ | refine InsK.lit (by omega) (by omega) ?_ | refine SpK.lit ?_ | refine GrdK.same ?_ | refine GrdK.tf ?_ | refine GrdK.ft ?_ | refine PickK.t ?_ | refine PickK.f ?_); (conv => whnf))
    exact ⟨_, HSub.refl _, rfl, D, dc, rfl⟩
theorem save_spec (B : Value) (b s : Nat) (D : Option Addr) (dc : Nat) (data : List UInt8) (off : Nat) (A : Option Addr) (n c : Nat) (bs : List UInt8) (hw : Win s data off) (hs1 : 1 ≤ s) (hs : s ≤ 1000000) (hn : n ≤ 1000000) :
    FnS Tryd.prog 13 [.pointer (some ⟨b, 14, none⟩), .slice A n c] (wH B b s D dc data off) (fun w => Bytes w (blocks (wH B b s D dc data off)) A n c bs)
      (fun v H => v = .tuple #[] ∧ ∃ D' dc' data' off', Win s data' off' ∧ rot data' off' = lastN s (rot data off ++ bs) ∧ H = wH B b s D' dc' data' off') := by
  refine FnS.introD Tryd.func13 rfl (by kernel_rfl) rfl fun w hH hp => ?_
  have hD := wH_own hH
  obtain rfl : bs.length = n := hp.len
  have hle := hw.le
  have hon := hw.on
  have hdc := hD.1
  have hcb := hp.le
  have hcm := hp.max
  simp only [maxLen] at hcm
  generalize hW : blocks (wH B b s D dc data off) = W at hp ⊢
  (conv => whnf); repeat ((first | refine RngK.mk (by omega) (by omega) ?_ | refine NzK.mk (by omega) ?_ | refine NnK.mk (by omega) ?_ | refine BdK.mk (by omega) (by omega) (by omega) ?_ | refine InsK.lit (by omega) (by omega) ?_ | refine SpK.lit ?_ | refine GrdK.same ?_ | refine GrdK.tf ?_ | refine GrdK.ft ?_ | refine PickK.t ?_ | refine PickK.f ?_); (conv => whnf))
  refine LdK.blk 0 rfl rfl rfl rfl ?_
  (conv => whnf); repeat ((first | refine RngK.mk (by omega) (by omega) ?_ | refine NzK.mk (by omega) ?_ | refine NnK.mk (by omega) ?_ | refine BdK.mk (by omega) (by omega) (by omega) ?_ | refine InsK.lit (by omega) (by omega) ?_ | refine SpK.lit ?_ | refine GrdK.same ?_ | refine GrdK.tf ?_ | refine GrdK.ft ?_ | refine PickK.t ?_ | refine PickK.f ?_); (conv => whnf))
  refine Wp.cond rfl (fun h => ?_) (fun h => ?_)
  · have h := eqT h
    omega
  (conv => whnf); repeat ((first | refine RngK.mk (by omega) (by omega) ?_ | refine NzK.mk (by omega) ?_ | refine NnK.mk (by omega) ?_ | refine BdK.mk (by omega) (by omega) (by omega) ?_ | refine InsK.lit (by omega) (by omega) ?_ | refine SpK.lit ?_ | refine GrdK.same ?_ | refine GrdK.tf ?_ | refine GrdK.ft ?_ | refine PickK.t ?_ | refine PickK.f ?_); (conv => whnf))
  refine Wp.cond rfl (fun h => ?_) (fun h => ?_)
  · have h := eqT h
    have h0 : bs = [] := List.eq_nil_of_length_eq_zero (by omega)
    subst h0
    (conv => whnf); repeat ((first | refine RngK.mk (by omega) (by omega) ?_ | refine NzK.mk (by omega) ?_ | refine NnK.mk (by omega) ?_ | refine BdK.mk (by omega) (by omega) (by omega) ?_ | refine InsK.lit (by omega) (by omega) ?_ | refine SpK.lit ?_ | refine GrdK.same ?_ | refine GrdK.tf ?_ | refine GrdK.ft ?_ | refine PickK.t ?_ | refine PickK.f ?_); (conv => whnf))
    exact ⟨_, HSub.refl _, rfl, D, dc, data, off, hw, by rw [List.append_nil, lastN_same (by rw [hw.len]; omega)], rfl⟩
  have h := eqF h
  have hb0 : 0 < bs.length := by omega
  clear h
  (conv => whnf); repeat ((first | refine RngK.mk (by omega) (by omega) ?_ | refine NzK.mk (by omega) ?_ | refine NnK.mk (by omega) ?_ | refine BdK.mk (by omega) (by omega) (by omega) ?_ | refine InsK.lit (by omega) (by omega) ?_ | refine SpK.lit ?_ | refine GrdK.same ?_ | refine GrdK.tf ?_ | refine GrdK.ft ?_ | refine PickK.t ?_ | refine PickK.f ?_); (conv => whnf))
  refine LdK.blk 0 rfl rfl rfl rfl ?_
  (conv => whnf); repeat ((first | refine RngK.mk (by omega) (by omega) ?_ | refine NzK.mk (by omega) ?_ | refine NnK.mk (by omega) ?_ | refine BdK.mk (by omega) (by omega) (by omega) ?_ | refine InsK.lit (by omega) (by omega) ?_ | refine SpK.lit ?_ | refine GrdK.same ?_ | refine GrdK.tf ?_ | refine GrdK.ft ?_ | refine PickK.t ?_ | refine PickK.f ?_); (conv => whnf))
  refine Wp.cond rfl (fun h => ?_) (fun h => ?_)
  · have h : (bs.length : Int) ≥ (s : Int) := dT h
    (conv => whnf); repeat ((first | refine RngK.mk (by omega) (by omega) ?_ | refine NzK.mk (by omega) ?_ | refine NnK.mk (by omega) ?_ | refine BdK.mk (by omega) (by omega) (by omega) ?_ | refine InsK.lit (by omega) (by omega) ?_ | refine SpK.lit ?_ | refine GrdK.same ?_ | refine GrdK.tf ?_ | refine GrdK.ft ?_ | refine PickK.t ?_ | refine PickK.f ?_); (conv => whnf))
    refine LdK.blk 0 rfl rfl rfl rfl ?_
    (conv => whnf); repeat ((first | refine RngK.mk (by omega) (by omega) ?_ | refine NzK.mk (by omega) ?_ | refine NnK.mk (by omega) ?_ | refine BdK.mk (by omega) (by omega) (by omega) ?_ | refine InsK.lit (by omega) (by omega) ?_ | refine SpK.lit ?_ | refine GrdK.same ?_ | refine GrdK.tf ?_ | refine GrdK.ft ?_ | refine PickK.t ?_ | refine PickK.f ?_); (conv => whnf))
    refine DrwK.ord (by kernel_rfl) [0, 1, 2, 3, 4, 5, 6, 7, 8, 9, 10, 11, 12] (by kernel_rfl) ?_; conv => whnf
    (conv => whnf); repeat ((first | refine RngK.mk (by omega) (by omega) ?_ | refine NzK.mk (by omega) ?_ | refine NnK.mk (by omega) ?_ | refine BdK.mk (by omega) (by omega) (by omega) ?_ | refine InsK.lit (by omega) (by omega) ?_ | refine SpK.lit ?_ | refine GrdK.same ?_ | refine GrdK.tf ?_ | refine GrdK.ft ?_ | refine PickK.t ?_ | refine PickK.f ?_); (conv => whnf))
    refine LdK.blk 0 rfl rfl rfl rfl ?_
    (conv => whnf); repeat ((first | refine RngK.mk (by omega) (by omega) ?_ | refine NzK.mk (by omega) ?_ | refine NnK.mk (by omega) ?_ | refine BdK.mk (by omega) (by omega) (by omega) ?_ | refine InsK.lit (by omega) (by omega) ?_ | refine SpK.lit ?_ | refine GrdK.same ?_ | refine GrdK.tf ?_ | refine GrdK.ft ?_ | refine PickK.t ?_ | refine PickK.f ?_); (conv => whnf))
    refine SpK.own hD ?_
    rw [Int.toNat_natCast, hD.cut0]
    (conv => whnf); repeat ((first | refine RngK.mk (by omega) (by omega) ?_ | refine NzK.mk (by omega) ?_ | refine NnK.mk (by omega) ?_ | refine BdK.mk (by omega) (by omega) (by omega) ?_ | refine InsK.lit (by omega) (by omega) ?_ | refine SpK.lit ?_ | refine GrdK.same ?_ | refine GrdK.tf ?_ | refine GrdK.ft ?_ | refine PickK.t ?_ | refine PickK.f ?_); (conv => whnf))
    refine hp.sp (by omega) ?_
    have el : (bs.length : Int) - (s : Int) = ((bs.length - s : Nat) : Int) := by omega
    rw [el, Int.toNat_natCast, Int.toNat_natCast]
    have e2 : bs.length - (bs.length - s) = s := by omega
    rw [e2]
    (conv => whnf); repeat ((first | refine RngK.mk (by omega) (by omega) ?_ | refine NzK.mk (by omega) ?_ | refine NnK.mk (by omega) ?_ | refine BdK.mk (by omega) (by omega) (by omega) ?_ | refine InsK.lit (by omega) (by omega) ?_ | refine SpK.lit ?_ | refine GrdK.same ?_ | refine GrdK.tf ?_ | refine GrdK.ft ?_ | refine PickK.t ?_ | refine PickK.f ?_); (conv => whnf))
    refine EffK.shrink 1 rfl ?_
    refine EffK.append 1 (news := ((bs.map vU8).drop ((bs.length - s) * 1)).take (s * 1)) rfl rfl rfl rfl rfl rfl rfl rfl (Src.rdCut hp.rd (by omega) hcb) ?_ (by simp [maxLen]; omega) (by show (_ + _) * 1 ≤ _; omega) fun A' cap' => ?_
    · intro u hu
      exact vU8_one u (List.mem_of_mem_drop (List.mem_of_mem_take hu))
    have e3 : [] ++ ((bs.map vU8).drop ((bs.length - s) * 1)).take (s * 1) = (bs.drop (bs.length - s)).map vU8 := by
      rw [List.nil_append, Nat.mul_one, Nat.mul_one, List.map_drop, List.take_of_length_le (by simp; omega)]
    have e4 : Int.toNat 0 - 0 + s = (bs.drop (bs.length - s)).length := by simp; omega
    rw [e3, e4]
    obtain ⟨w1, w2⟩ := save_big (data := data) (off := off) (bs := bs) (s := s) (by omega)
    generalize bs.drop (bs.length - s) = nd at w1 w2 ⊢
    (conv => whnf); repeat ((first | refine RngK.mk (by omega) (by omega) ?_ | refine NzK.mk (by omega) ?_ | refine NnK.mk (by omega) ?_ | refine BdK.mk (by omega) (by omega) (by omega) ?_ | refine InsK.lit (by omega) (by omega) ?_ | refine SpK.lit ?_ | refine GrdK.same ?_ | refine GrdK.tf ?_ | refine GrdK.ft ?_ | refine PickK.t ?_ | refine PickK.f ?_); (conv => whnf))
    refine KfK.of (LdK.blk 0 rfl rfl rfl rfl rfl) ?_
    (conv => whnf); repeat ((first | refine RngK.mk (by omega) (by omega) ?_ | refine NzK.mk (by omega) ?_ | refine NnK.mk (by omega) ?_ | refine BdK.mk (by omega) (by omega) (by omega) ?_ | refine InsK.lit (by omega) (by omega) ?_ | refine SpK.lit ?_ | refine GrdK.same ?_ | refine GrdK.tf ?_ | refine GrdK.ft ?_ | refine PickK.t ?_ | refine PickK.f ?_); (conv => whnf))
    refine StK.blkE 0 (rC B s (.slice A' nd.length cap') (off)) rfl rfl rfl rfl (Nat.le_of_ble_eq_true rfl) rfl ?_
    (conv => whnf); repeat ((first | refine RngK.mk (by omega) (by omega) ?_ | refine NzK.mk (by omega) ?_ | refine NnK.mk (by omega) ?_ | refine BdK.mk (by omega) (by omega) (by omega) ?_ | refine InsK.lit (by omega) (by omega) ?_ | refine SpK.lit ?_ | refine GrdK.same ?_ | refine GrdK.tf ?_ | refine GrdK.ft ?_ | refine PickK.t ?_ | refine PickK.f ?_); (conv => whnf))
    refine StK.blkE 0 (rC B s (.slice A' nd.length cap') (0)) rfl rfl rfl rfl (Nat.le_of_ble_eq_true rfl) rfl ?_
    (conv => whnf); repeat ((first | refine RngK.mk (by omega) (by omega) ?_ | refine NzK.mk (by omega) ?_ | refine NnK.mk (by omega) ?_ | refine BdK.mk (by omega) (by omega) (by omega) ?_ | refine InsK.lit (by omega) (by omega) ?_ | refine SpK.lit ?_ | refine GrdK.same ?_ | refine GrdK.tf ?_ | refine GrdK.ft ?_ | refine PickK.t ?_ | refine PickK.f ?_); (conv => whnf))
    exact ⟨_, HSub.refl _, rfl, A', cap', nd, 0, w1, w2, rfl⟩
  have h : ¬ (bs.length : Int) ≥ (s : Int) := dF h
  have hbs : bs.length < s := by omega
  clear h
  (conv => whnf); repeat ((first | refine RngK.mk (by omega) (by omega) ?_ | refine NzK.mk (by omega) ?_ | refine NnK.mk (by omega) ?_ | refine BdK.mk (by omega) (by omega) (by omega) ?_ | refine InsK.lit (by omega) (by omega) ?_ | refine SpK.lit ?_ | refine GrdK.same ?_ | refine GrdK.tf ?_ | refine GrdK.ft ?_ | refine PickK.t ?_ | refine PickK.f ?_); (conv => whnf))
  refine DrwK.ord (by kernel_rfl) [0, 1, 2, 3, 4, 5, 6, 7, 8, 9, 10] (by kernel_rfl) ?_; conv => whnf
  (conv => whnf); repeat ((first | refine RngK.mk (by omega) (by omega) ?_ | refine NzK.mk (by omega) ?_ | refine NnK.mk (by omega) ?_ | refine BdK.mk (by omega) (by omega) (by omega) ?_ | refine InsK.lit (by omega) (by omega) ?_ | refine SpK.lit ?_ | refine GrdK.same ?_ | refine GrdK.tf ?_ | refine GrdK.ft ?_ | refine PickK.t ?_ | refine PickK.f ?_); (conv => whnf))
  refine LdK.blk 0 rfl rfl rfl rfl ?_
  (conv => whnf); repeat ((first | refine RngK.mk (by omega) (by omega) ?_ | refine NzK.mk (by omega) ?_ | refine NnK.mk (by omega) ?_ | refine BdK.mk (by omega) (by omega) (by omega) ?_ | refine InsK.lit (by omega) (by omega) ?_ | refine SpK.lit ?_ | refine GrdK.same ?_ | refine GrdK.tf ?_ | refine GrdK.ft ?_ | refine PickK.t ?_ | refine PickK.f ?_); (conv => whnf))
  refine LdK.blk 0 rfl rfl rfl rfl ?_
  (conv => whnf); repeat ((first | refine RngK.mk (by omega) (by omega) ?_ | refine NzK.mk (by omega) ?_ | refine NnK.mk (by omega) ?_ | refine BdK.mk (by omega) (by omega) (by omega) ?_ | refine InsK.lit (by omega) (by omega) ?_ | refine SpK.lit ?_ | refine GrdK.same ?_ | refine GrdK.tf ?_ | refine GrdK.ft ?_ | refine PickK.t ?_ | refine PickK.f ?_); (conv => whnf))
  have ef : (s : Int) - (data.length : Int) = ((s - data.length : Nat) : Int) := by omega
  rw [ef]
  refine Wp.cond rfl (fun h => ?_) (fun h => ?_)
  · have h := eqT h
    have hds : data.length = s := by omega
    (conv => whnf); repeat ((first | refine RngK.mk (by omega) (by omega) ?_ | refine NzK.mk (by omega) ?_ | refine NnK.mk (by omega) ?_ | refine BdK.mk (by omega) (by omega) (by omega) ?_ | refine InsK.lit (by omega) (by omega) ?_ | refine SpK.lit ?_ | refine GrdK.same ?_ | refine GrdK.tf ?_ | refine GrdK.ft ?_ | refine PickK.t ?_ | refine PickK.f ?_); (conv => whnf))
    refine DrwK.ord (by kernel_rfl) [0, 1, 2, 3, 4, 5, 6, 7, 8, 9, 10, 11] (by kernel_rfl) ?_; conv => whnf
    (conv => whnf); repeat ((first | refine RngK.mk (by omega) (by omega) ?_ | refine NzK.mk (by omega) ?_ | refine NnK.mk (by omega) ?_ | refine BdK.mk (by omega) (by omega) (by omega) ?_ | refine InsK.lit (by omega) (by omega) ?_ | refine SpK.lit ?_ | refine GrdK.same ?_ | refine GrdK.tf ?_ | refine GrdK.ft ?_ | refine PickK.t ?_ | refine PickK.f ?_); (conv => whnf))
    refine LdK.blk 0 rfl rfl rfl rfl ?_
    (conv => whnf); repeat ((first | refine RngK.mk (by omega) (by omega) ?_ | refine NzK.mk (by omega) ?_ | refine NnK.mk (by omega) ?_ | refine BdK.mk (by omega) (by omega) (by omega) ?_ | refine InsK.lit (by omega) (by omega) ?_ | refine SpK.lit ?_ | refine GrdK.same ?_ | refine GrdK.tf ?_ | refine GrdK.ft ?_ | refine PickK.t ?_ | refine PickK.f ?_); (conv => whnf))
    refine LdK.blk 0 rfl rfl rfl rfl ?_
    (conv => whnf); repeat ((first | refine RngK.mk (by omega) (by omega) ?_ | refine NzK.mk (by omega) ?_ | refine NnK.mk (by omega) ?_ | refine BdK.mk (by omega) (by omega) (by omega) ?_ | refine InsK.lit (by omega) (by omega) ?_ | refine SpK.lit ?_ | refine GrdK.same ?_ | refine GrdK.tf ?_ | refine GrdK.ft ?_ | refine PickK.t ?_ | refine PickK.f ?_); (conv => whnf))
    refine SpK.own hD ?_
    rw [Int.toNat_natCast, Int.toNat_natCast]
    (conv => whnf); repeat ((first | refine RngK.mk (by omega) (by omega) ?_ | refine NzK.mk (by omega) ?_ | refine NnK.mk (by omega) ?_ | refine BdK.mk (by omega) (by omega) (by omega) ?_ | refine InsK.lit (by omega) (by omega) ?_ | refine SpK.lit ?_ | refine GrdK.same ?_ | refine GrdK.tf ?_ | refine GrdK.ft ?_ | refine PickK.t ?_ | refine PickK.f ?_); (conv => whnf))
    by_cases hq : off < data.length
    · rw [OwnA.cut (show off < dc by omega)]
      by_cases hq2 : bs.length ≤ data.length - off
      · refine EffK.copyOwn 1 (o := off) bs.length (news := (bs.map vU8).take (bs.length * 1)) rfl (hD.ad (by omega)) rfl rfl rfl rfl (by omega) (by omega) (Src.rd (hp.rd.take (Nat.le_refl _))) ?_ (by simp; omega) ?_
        · intro u hu
          exact vU8_one u (List.mem_of_mem_take hu)
        have e3 : (data.map vU8).take off ++ (bs.map vU8).take (bs.length * 1) ++ (data.map vU8).drop (off + bs.length) = (data.take off ++ bs ++ data.drop (off + bs.length)).map vU8 := by
          rw [Nat.mul_one, List.take_of_length_le (l := bs.map vU8) (by simp), List.map_append, List.map_append, List.map_take, List.map_drop]
        rw [e3]
        obtain ⟨w1, w2⟩ := save_in hw hds (bs := bs) (by omega)
        have hdl : (data.take off ++ bs ++ data.drop (off + bs.length)).length = data.length := by simp; omega
        generalize data.take off ++ bs ++ data.drop (off + bs.length) = nd at w1 w2 hdl ⊢
        (conv => whnf); repeat ((first | refine RngK.mk (by omega) (by omega) ?_ | refine NzK.mk (by omega) ?_ | refine NnK.mk (by omega) ?_ | refine BdK.mk (by omega) (by omega) (by omega) ?_ | refine InsK.lit (by omega) (by omega) ?_ | refine SpK.lit ?_ | refine GrdK.same ?_ | refine GrdK.tf ?_ | refine GrdK.ft ?_ | refine PickK.t ?_ | refine PickK.f ?_); (conv => whnf))
        refine KfK.of (LdK.blk 0 rfl rfl rfl rfl rfl) ?_
        (conv => whnf); repeat ((first | refine RngK.mk (by omega) (by omega) ?_ | refine NzK.mk (by omega) ?_ | refine NnK.mk (by omega) ?_ | refine BdK.mk (by omega) (by omega) (by omega) ?_ | refine InsK.lit (by omega) (by omega) ?_ | refine SpK.lit ?_ | refine GrdK.same ?_ | refine GrdK.tf ?_ | refine GrdK.ft ?_ | refine PickK.t ?_ | refine PickK.f ?_); (conv => whnf))
        refine KfK.of (LdK.blk 0 rfl rfl rfl rfl rfl) ?_
        (conv => whnf); repeat ((first | refine RngK.mk (by omega) (by omega) ?_ | refine NzK.mk (by omega) ?_ | refine NnK.mk (by omega) ?_ | refine BdK.mk (by omega) (by omega) (by omega) ?_ | refine InsK.lit (by omega) (by omega) ?_ | refine SpK.lit ?_ | refine GrdK.same ?_ | refine GrdK.tf ?_ | refine GrdK.ft ?_ | refine PickK.t ?_ | refine PickK.f ?_); (conv => whnf))
        rw [beq_self_eq_true]
        refine Wp.cond rfl (fun _ => ?_) (fun h => by cases h)
        (conv => whnf); repeat ((first | refine RngK.mk (by omega) (by omega) ?_ | refine NzK.mk (by omega) ?_ | refine NnK.mk (by omega) ?_ | refine BdK.mk (by omega) (by omega) (by omega) ?_ | refine InsK.lit (by omega) (by omega) ?_ | refine SpK.lit ?_ | refine GrdK.same ?_ | refine GrdK.tf ?_ | refine GrdK.ft ?_ | refine PickK.t ?_ | refine PickK.f ?_); (conv => whnf))
        refine LdK.blk 0 rfl rfl rfl rfl ?_
        (conv => whnf); repeat ((first | refine RngK.mk (by omega) (by omega) ?_ | refine NzK.mk (by omega) ?_ | refine NnK.mk (by omega) ?_ | refine BdK.mk (by omega) (by omega) (by omega) ?_ | refine InsK.lit (by omega) (by omega) ?_ | refine SpK.lit ?_ | refine GrdK.same ?_ | refine GrdK.tf ?_ | refine GrdK.ft ?_ | refine PickK.t ?_ | refine PickK.f ?_); (conv => whnf))
        refine StK.blkE 0 (rC B s (.slice D data.length dc) (off + bs.length)) rfl rfl rfl rfl (Nat.le_of_ble_eq_true rfl) rfl ?_
        (conv => whnf); repeat ((first | refine RngK.mk (by omega) (by omega) ?_ | refine NzK.mk (by omega) ?_ | refine NnK.mk (by omega) ?_ | refine BdK.mk (by omega) (by omega) (by omega) ?_ | refine InsK.lit (by omega) (by omega) ?_ | refine SpK.lit ?_ | refine GrdK.same ?_ | refine GrdK.tf ?_ | refine GrdK.ft ?_ | refine PickK.t ?_ | refine PickK.f ?_); (conv => whnf))
        exact ⟨_, HSub.refl _, rfl, D, dc, nd, off + bs.length, w1, w2, by rw [← hdl]⟩
      · have hq3 : data.length - off < bs.length := by omega
        refine EffK.copyOwn 1 (o := off) (data.length - off) (news := (bs.map vU8).take ((data.length - off) * 1)) rfl (hD.ad (by omega)) rfl rfl rfl rfl (by omega) (by omega) (Src.rd (hp.rd.take (by omega))) ?_ (by simp; omega) ?_
        · intro u hu
          exact vU8_one u (List.mem_of_mem_take hu)
        have e3 : (data.map vU8).take off ++ (bs.map vU8).take ((data.length - off) * 1) ++ (data.map vU8).drop (off + (data.length - off)) = (data.take off ++ bs.take (data.length - off)).map vU8 := by
          rw [Nat.mul_one, List.drop_of_length_le (by simp; omega), List.append_nil, List.map_append, List.map_take, List.map_take]
        rw [e3]
        obtain ⟨w1, w2⟩ := save_round hw hds (bs := bs) (by omega) hbs
        obtain ⟨q, hqq⟩ : ∃ q, data.length - off = q := ⟨_, rfl⟩
        have hm : off + bs.length - data.length = bs.length - q := by omega
        rw [hm, hqq] at w1 w2
        rw [hqq]
        obtain ⟨d1, hd1⟩ : ∃ d1, data.take off ++ bs.take q = d1 := ⟨_, rfl⟩
        have hd1l : d1.length = data.length := by rw [← hd1]; simp; omega
        rw [hd1] at w1 w2 ⊢
        (conv => whnf); repeat ((first | refine RngK.mk (by omega) (by omega) ?_ | refine NzK.mk (by omega) ?_ | refine NnK.mk (by omega) ?_ | refine BdK.mk (by omega) (by omega) (by omega) ?_ | refine InsK.lit (by omega) (by omega) ?_ | refine SpK.lit ?_ | refine GrdK.same ?_ | refine GrdK.tf ?_ | refine GrdK.ft ?_ | refine PickK.t ?_ | refine PickK.f ?_); (conv => whnf))
        refine KfK.of (LdK.blk 0 rfl rfl rfl rfl rfl) ?_
        (conv => whnf); repeat ((first | refine RngK.mk (by omega) (by omega) ?_ | refine NzK.mk (by omega) ?_ | refine NnK.mk (by omega) ?_ | refine BdK.mk (by omega) (by omega) (by omega) ?_ | refine InsK.lit (by omega) (by omega) ?_ | refine SpK.lit ?_ | refine GrdK.same ?_ | refine GrdK.tf ?_ | refine GrdK.ft ?_ | refine PickK.t ?_ | refine PickK.f ?_); (conv => whnf))
        refine KfK.of (LdK.blk 0 rfl rfl rfl rfl rfl) ?_
        (conv => whnf); repeat ((first | refine RngK.mk (by omega) (by omega) ?_ | refine NzK.mk (by omega) ?_ | refine NnK.mk (by omega) ?_ | refine BdK.mk (by omega) (by omega) (by omega) ?_ | refine InsK.lit (by omega) (by omega) ?_ | refine SpK.lit ?_ | refine GrdK.same ?_ | refine GrdK.tf ?_ | refine GrdK.ft ?_ | refine PickK.t ?_ | refine PickK.f ?_); (conv => whnf))
        refine Wp.cond rfl (fun h => ?_) (fun h => ?_)
        · have h := eqT h
          omega
        (conv => whnf); repeat ((first | refine RngK.mk (by omega) (by omega) ?_ | refine NzK.mk (by omega) ?_ | refine NnK.mk (by omega) ?_ | refine BdK.mk (by omega) (by omega) (by omega) ?_ | refine InsK.lit (by omega) (by omega) ?_ | refine SpK.lit ?_ | refine GrdK.same ?_ | refine GrdK.tf ?_ | refine GrdK.ft ?_ | refine PickK.t ?_ | refine PickK.f ?_); (conv => whnf))
        refine DrwK.ord (by kernel_rfl) [0, 1, 2, 3, 4, 5, 6, 7, 8, 9, 10, 11] (by kernel_rfl) ?_; conv => whnf
        (conv => whnf); repeat ((first | refine RngK.mk (by omega) (by omega) ?_ | refine NzK.mk (by omega) ?_ | refine NnK.mk (by omega) ?_ | refine BdK.mk (by omega) (by omega) (by omega) ?_ | refine InsK.lit (by omega) (by omega) ?_ | refine SpK.lit ?_ | refine GrdK.same ?_ | refine GrdK.tf ?_ | refine GrdK.ft ?_ | refine PickK.t ?_ | refine PickK.f ?_); (conv => whnf))
        refine LdK.blk 0 rfl rfl rfl rfl ?_
        (conv => whnf); repeat ((first | refine RngK.mk (by omega) (by omega) ?_ | refine NzK.mk (by omega) ?_ | refine NnK.mk (by omega) ?_ | refine BdK.mk (by omega) (by omega) (by omega) ?_ | refine InsK.lit (by omega) (by omega) ?_ | refine SpK.lit ?_ | refine GrdK.same ?_ | refine GrdK.tf ?_ | refine GrdK.ft ?_ | refine PickK.t ?_ | refine PickK.f ?_); (conv => whnf))
        refine hp.sp (by omega) ?_
        rw [Int.toNat_natCast, Int.toNat_natCast]
        (conv => whnf); repeat ((first | refine RngK.mk (by omega) (by omega) ?_ | refine NzK.mk (by omega) ?_ | refine NnK.mk (by omega) ?_ | refine BdK.mk (by omega) (by omega) (by omega) ?_ | refine InsK.lit (by omega) (by omega) ?_ | refine SpK.lit ?_ | refine GrdK.same ?_ | refine GrdK.tf ?_ | refine GrdK.ft ?_ | refine PickK.t ?_ | refine PickK.f ?_); (conv => whnf))
        obtain ⟨g, hg⟩ := hD.ad (show 0 < data.length by omega)
        refine EffK.copyOwn 1 (o := 0) (bs.length - q) (news := ((bs.map vU8).drop (q * 1)).take ((bs.length - q) * 1)) rfl ⟨g, hg⟩ (by rw [hg]; rfl) rfl rfl rfl (by omega) (by omega) (Src.rdCut hp.rd (by omega) hcb) ?_ (by simp; omega) ?_
        · intro u hu
          exact vU8_one u (List.mem_of_mem_drop (List.mem_of_mem_take hu))
        have e5 : (d1.map vU8).take 0 ++ ((bs.map vU8).drop (q * 1)).take ((bs.length - q) * 1) ++ (d1.map vU8).drop (0 + (bs.length - q)) = (bs.drop q ++ d1.drop (bs.length - q)).map vU8 := by
          rw [List.take_zero, List.nil_append, Nat.mul_one, Nat.mul_one, List.take_of_length_le (by simp), Nat.zero_add, List.map_append, List.map_drop, List.map_drop]
        rw [e5]
        have hdl : (bs.drop q ++ d1.drop (bs.length - q)).length = data.length := by simp; omega
        generalize bs.drop q ++ d1.drop (bs.length - q) = nd at w1 w2 hdl ⊢
        (conv => whnf); repeat ((first | refine RngK.mk (by omega) (by omega) ?_ | refine NzK.mk (by omega) ?_ | refine NnK.mk (by omega) ?_ | refine BdK.mk (by omega) (by omega) (by omega) ?_ | refine InsK.lit (by omega) (by omega) ?_ | refine SpK.lit ?_ | refine GrdK.same ?_ | refine GrdK.tf ?_ | refine GrdK.ft ?_ | refine PickK.t ?_ | refine PickK.f ?_); (conv => whnf))
        repeat (refine KfK.of (LdK.blk 0 rfl rfl rfl rfl rfl) ?_; conv => whnf)
        refine StK.blkE 0 (rC B s (.slice D data.length dc) (bs.length - q)) rfl rfl rfl rfl (Nat.le_of_ble_eq_true rfl) rfl ?_
        (conv => whnf); repeat ((first | refine RngK.mk (by omega) (by omega) ?_ | refine NzK.mk (by omega) ?_ | refine NnK.mk (by omega) ?_ | refine BdK.mk (by omega) (by omega) (by omega) ?_ | refine InsK.lit (by omega) (by omega) ?_ | refine SpK.lit ?_ | refine GrdK.same ?_ | refine GrdK.tf ?_ | refine GrdK.ft ?_ | refine PickK.t ?_ | refine PickK.f ?_); (conv => whnf))
        exact ⟨_, HSub.refl _, rfl, D, dc, nd, bs.length - q, w1, w2, by rw [← hdl]⟩
    · have hoff : off = data.length := by omega
      refine EffK.copy0 rfl rfl (by omega) ?_
      obtain ⟨w1, w2⟩ := save_round hw hds (bs := bs) (by omega) hbs
      have hd1' : data.take off ++ bs.take (data.length - off) = data := by rw [hoff, Nat.sub_self]; simp
      obtain ⟨q, hqq⟩ : ∃ q, data.length - off = q := ⟨_, rfl⟩
      have hq0 : q = 0 := by omega
      have hm : off + bs.length - data.length = bs.length - q := by omega
      rw [hd1', hm, hqq] at w1 w2
      (conv => whnf); repeat ((first | refine RngK.mk (by omega) (by omega) ?_ | refine NzK.mk (by omega) ?_ | refine NnK.mk (by omega) ?_ | refine BdK.mk (by omega) (by omega) (by omega) ?_ | refine InsK.lit (by omega) (by omega) ?_ | refine SpK.lit ?_ | refine GrdK.same ?_ | refine GrdK.tf ?_ | refine GrdK.ft ?_ | refine PickK.t ?_ | refine PickK.f ?_); (conv => whnf))
      refine KfK.of (LdK.blk 0 rfl rfl rfl rfl rfl) ?_
      (conv => whnf); repeat ((first | refine RngK.mk (by omega) (by omega) ?_ | refine NzK.mk (by omega) ?_ | refine NnK.mk (by omega) ?_ | refine BdK.mk (by omega) (by omega) (by omega) ?_ | refine InsK.lit (by omega) (by omega) ?_ | refine SpK.lit ?_ | refine GrdK.same ?_ | refine GrdK.tf ?_ | refine GrdK.ft ?_ | refine PickK.t ?_ | refine PickK.f ?_); (conv => whnf))
      refine KfK.of (LdK.blk 0 rfl rfl rfl rfl rfl) ?_
      (conv => whnf); repeat ((first | refine RngK.mk (by omega) (by omega) ?_ | refine NzK.mk (by omega) ?_ | refine NnK.mk (by omega) ?_ | refine BdK.mk (by omega) (by omega) (by omega) ?_ | refine InsK.lit (by omega) (by omega) ?_ | refine SpK.lit ?_ | refine GrdK.same ?_ | refine GrdK.tf ?_ | refine GrdK.ft ?_ | refine PickK.t ?_ | refine PickK.f ?_); (conv => whnf))
      have hzz : (0 : Int) = ((q : Nat) : Int) := by omega
      rw [hzz]
      refine Wp.cond rfl (fun h => ?_) (fun h => ?_)
      · have h := eqT h
        omega
      (conv => whnf); repeat ((first | refine RngK.mk (by omega) (by omega) ?_ | refine NzK.mk (by omega) ?_ | refine NnK.mk (by omega) ?_ | refine BdK.mk (by omega) (by omega) (by omega) ?_ | refine InsK.lit (by omega) (by omega) ?_ | refine SpK.lit ?_ | refine GrdK.same ?_ | refine GrdK.tf ?_ | refine GrdK.ft ?_ | refine PickK.t ?_ | refine PickK.f ?_); (conv => whnf))
      refine DrwK.ord (by kernel_rfl) [0, 1, 2, 3, 4, 5, 6, 7, 8, 9, 10, 11] (by kernel_rfl) ?_; conv => whnf
      (conv => whnf); repeat ((first | refine RngK.mk (by omega) (by omega) ?_ | refine NzK.mk (by omega) ?_ | refine NnK.mk (by omega) ?_ | refine BdK.mk (by omega) (by omega) (by omega) ?_ | refine InsK.lit (by omega) (by omega) ?_ | refine SpK.lit ?_ | refine GrdK.same ?_ | refine GrdK.tf ?_ | refine GrdK.ft ?_ | refine PickK.t ?_ | refine PickK.f ?_); (conv => whnf))
      refine LdK.blk 0 rfl rfl rfl rfl ?_
      (conv => whnf); repeat ((first | refine RngK.mk (by omega) (by omega) ?_ | refine NzK.mk (by omega) ?_ | refine NnK.mk (by omega) ?_ | refine BdK.mk (by omega) (by omega) (by omega) ?_ | refine InsK.lit (by omega) (by omega) ?_ | refine SpK.lit ?_ | refine GrdK.same ?_ | refine GrdK.tf ?_ | refine GrdK.ft ?_ | refine PickK.t ?_ | refine PickK.f ?_); (conv => whnf))
      refine hp.sp (by omega) ?_
      rw [Int.toNat_natCast, Int.toNat_natCast]
      (conv => whnf); repeat ((first | refine RngK.mk (by omega) (by omega) ?_ | refine NzK.mk (by omega) ?_ | refine NnK.mk (by omega) ?_ | refine BdK.mk (by omega) (by omega) (by omega) ?_ | refine InsK.lit (by omega) (by omega) ?_ | refine SpK.lit ?_ | refine GrdK.same ?_ | refine GrdK.tf ?_ | refine GrdK.ft ?_ | refine PickK.t ?_ | refine PickK.f ?_); (conv => whnf))
      obtain ⟨g, hg⟩ := hD.ad (show 0 < data.length by omega)
      refine EffK.copyOwn 1 (o := 0) (bs.length - q) (news := ((bs.map vU8).drop (q * 1)).take ((bs.length - q) * 1)) rfl ⟨g, hg⟩ (by rw [hg]; rfl) rfl rfl rfl (by omega) (by omega) (Src.rdCut hp.rd (by omega) hcb) ?_ (by simp; omega) ?_
      · intro u hu
        exact vU8_one u (List.mem_of_mem_drop (List.mem_of_mem_take hu))
      have e5 : (data.map vU8).take 0 ++ ((bs.map vU8).drop (q * 1)).take ((bs.length - q) * 1) ++ (data.map vU8).drop (0 + (bs.length - q)) = (bs.drop q ++ data.drop (bs.length - q)).map vU8 := by
        rw [List.take_zero, List.nil_append, Nat.mul_one, Nat.mul_one, List.take_of_length_le (by simp), Nat.zero_add, List.map_append, List.map_drop, List.map_drop]
      rw [e5]
      have hdl : (bs.drop q ++ data.drop (bs.length - q)).length = data.length := by simp; omega
      generalize bs.drop q ++ data.drop (bs.length - q) = nd at w1 w2 hdl ⊢
      (conv => whnf); repeat ((first | refine RngK.mk (by omega) (by omega) ?_ | refine NzK.mk (by omega) ?_ | refine NnK.mk (by omega) ?_ | refine BdK.mk (by omega) (by omega) (by omega) ?_ | refine InsK.lit (by omega) (by omega) ?_ | refine SpK.lit ?_ | refine GrdK.same ?_ | refine GrdK.tf ?_ | refine GrdK.ft ?_ | refine PickK.t ?_ | refine PickK.f ?_); (conv => whnf))
      repeat (refine KfK.of (LdK.blk 0 rfl rfl rfl rfl rfl) ?_; conv => whnf)
      refine StK.blkE 0 (rC B s (.slice D data.length dc) (bs.length - q)) rfl rfl rfl rfl (Nat.le_of_ble_eq_true rfl) rfl ?_
      (conv => whnf); repeat ((first | refine RngK.mk (by omega) (by omega) ?_ | refine NzK.mk (by omega) ?_ | refine NnK.mk (by omega) ?_ | refine BdK.mk (by omega) (by omega) (by omega) ?_ | refine InsK.lit (by omega) (by omega) ?_ | refine SpK.lit ?_ | refine GrdK.same ?_ | refine GrdK.tf ?_ | refine GrdK.ft ?_ | refine PickK.t ?_ | refine PickK.f ?_); (conv => whnf))
      exact ⟨_, HSub.refl _, rfl, D, dc, nd, bs.length - q, w1, w2, by rw [← hdl]⟩
  · have h := eqF h
    have hds : data.length < s := by omega
    have ho0 := hw.z hds
    (conv => whnf); repeat ((first | refine RngK.mk (by omega) (by omega) ?_ | refine NzK.mk (by omega) ?_ | refine NnK.mk (by omega) ?_ | refine BdK.mk (by omega) (by omega) (by omega) ?_ | refine InsK.lit (by omega) (by omega) ?_ | refine SpK.lit ?_ | refine GrdK.same ?_ | refine GrdK.tf ?_ | refine GrdK.ft ?_ | refine PickK.t ?_ | refine PickK.f ?_); (conv => whnf))
    refine Wp.cond rfl (fun h2 => ?_) (fun h2 => ?_)
    · have h2 : ((s - data.length : Nat) : Int) ≥ (bs.length : Int) := dT h2
      obtain ⟨w1, -, w2⟩ := save_grow hw (bs := bs) (by omega) hds
      (conv => whnf); repeat ((first | refine RngK.mk (by omega) (by omega) ?_ | refine NzK.mk (by omega) ?_ | refine NnK.mk (by omega) ?_ | refine BdK.mk (by omega) (by omega) (by omega) ?_ | refine InsK.lit (by omega) (by omega) ?_ | refine SpK.lit ?_ | refine GrdK.same ?_ | refine GrdK.tf ?_ | refine GrdK.ft ?_ | refine PickK.t ?_ | refine PickK.f ?_); (conv => whnf))
      refine LdK.blk 0 rfl rfl rfl rfl ?_
      (conv => whnf); repeat ((first | refine RngK.mk (by omega) (by omega) ?_ | refine NzK.mk (by omega) ?_ | refine NnK.mk (by omega) ?_ | refine BdK.mk (by omega) (by omega) (by omega) ?_ | refine InsK.lit (by omega) (by omega) ?_ | refine SpK.lit ?_ | refine GrdK.same ?_ | refine GrdK.tf ?_ | refine GrdK.ft ?_ | refine PickK.t ?_ | refine PickK.f ?_); (conv => whnf))
      refine EffK.append 1 (news := bs.map vU8) rfl rfl rfl rfl rfl rfl rfl rfl (Src.rd hp.rd) vU8_one (by simp [maxLen]; omega) (by show (_ + _) * 1 ≤ _; omega) fun A' cap' => ?_
      have e3 : data.map vU8 ++ bs.map vU8 = (data ++ bs).map vU8 := by rw [List.map_append]
      have e4 : data.length + bs.length = (data ++ bs).length := by simp
      rw [e3, e4]
      generalize data ++ bs = nd at w1 w2 ⊢
      (conv => whnf); repeat ((first | refine RngK.mk (by omega) (by omega) ?_ | refine NzK.mk (by omega) ?_ | refine NnK.mk (by omega) ?_ | refine BdK.mk (by omega) (by omega) (by omega) ?_ | refine InsK.lit (by omega) (by omega) ?_ | refine SpK.lit ?_ | refine GrdK.same ?_ | refine GrdK.tf ?_ | refine GrdK.ft ?_ | refine PickK.t ?_ | refine PickK.f ?_); (conv => whnf))
      refine StK.blkE 0 (rC B s (.slice A' nd.length cap') (off)) rfl rfl rfl rfl (Nat.le_of_ble_eq_true rfl) rfl ?_
      (conv => whnf); repeat ((first | refine RngK.mk (by omega) (by omega) ?_ | refine NzK.mk (by omega) ?_ | refine NnK.mk (by omega) ?_ | refine BdK.mk (by omega) (by omega) (by omega) ?_ | refine InsK.lit (by omega) (by omega) ?_ | refine SpK.lit ?_ | refine GrdK.same ?_ | refine GrdK.tf ?_ | refine GrdK.ft ?_ | refine PickK.t ?_ | refine PickK.f ?_); (conv => whnf))
      subst ho0
      exact ⟨_, HSub.refl _, rfl, A', cap', nd, 0, w1, w2, rfl⟩
    · have h2 : ¬ ((s - data.length : Nat) : Int) ≥ (bs.length : Int) := dF h2
      obtain ⟨w1, w2⟩ := save_over hw (bs := bs) (by omega) hds hbs
      obtain ⟨q, hqq⟩ : ∃ q, s - data.length = q := ⟨_, rfl⟩
      have hm : data.length + bs.length - s = bs.length - q := by omega
      rw [hm, hqq] at w1 w2
      rw [hqq]
      (conv => whnf); repeat ((first | refine RngK.mk (by omega) (by omega) ?_ | refine NzK.mk (by omega) ?_ | refine NnK.mk (by omega) ?_ | refine BdK.mk (by omega) (by omega) (by omega) ?_ | refine InsK.lit (by omega) (by omega) ?_ | refine SpK.lit ?_ | refine GrdK.same ?_ | refine GrdK.tf ?_ | refine GrdK.ft ?_ | refine PickK.t ?_ | refine PickK.f ?_); (conv => whnf))
      refine DrwK.ord (by kernel_rfl) [0, 1, 2, 3, 4, 5, 6, 7, 8, 9, 10, 11] (by kernel_rfl) ?_; conv => whnf
      (conv => whnf); repeat ((first | refine RngK.mk (by omega) (by omega) ?_ | refine NzK.mk (by omega) ?_ | refine NnK.mk (by omega) ?_ | refine BdK.mk (by omega) (by omega) (by omega) ?_ | refine InsK.lit (by omega) (by omega) ?_ | refine SpK.lit ?_ | refine GrdK.same ?_ | refine GrdK.tf ?_ | refine GrdK.ft ?_ | refine PickK.t ?_ | refine PickK.f ?_); (conv => whnf))
      refine LdK.blk 0 rfl rfl rfl rfl ?_
      (conv => whnf); repeat ((first | refine RngK.mk (by omega) (by omega) ?_ | refine NzK.mk (by omega) ?_ | refine NnK.mk (by omega) ?_ | refine BdK.mk (by omega) (by omega) (by omega) ?_ | refine InsK.lit (by omega) (by omega) ?_ | refine SpK.lit ?_ | refine GrdK.same ?_ | refine GrdK.tf ?_ | refine GrdK.ft ?_ | refine PickK.t ?_ | refine PickK.f ?_); (conv => whnf))
      refine hp.sp (by omega) ?_
      rw [Int.toNat_natCast, Int.toNat_natCast, Nat.sub_zero]
      (conv => whnf); repeat ((first | refine RngK.mk (by omega) (by omega) ?_ | refine NzK.mk (by omega) ?_ | refine NnK.mk (by omega) ?_ | refine BdK.mk (by omega) (by omega) (by omega) ?_ | refine InsK.lit (by omega) (by omega) ?_ | refine SpK.lit ?_ | refine GrdK.same ?_ | refine GrdK.tf ?_ | refine GrdK.ft ?_ | refine PickK.t ?_ | refine PickK.f ?_); (conv => whnf))
      refine EffK.append 1 (news := ((bs.map vU8).drop (0 * 1)).take (q * 1)) rfl rfl rfl rfl rfl rfl rfl rfl (Src.rdCut hp.rd (by omega) hcb) ?_ (by simp [maxLen]; omega) (by show (_ + _) * 1 ≤ _; omega) fun A' cap' => ?_
      · intro u hu
        exact vU8_one u (List.mem_of_mem_drop (List.mem_of_mem_take hu))
      have e3 : data.map vU8 ++ ((bs.map vU8).drop (0 * 1)).take (q * 1) = (data ++ bs.take q).map vU8 := by
        rw [Nat.zero_mul, List.drop_zero, Nat.mul_one, List.map_append, List.map_take]
      have e4 : data.length + q = (data ++ bs.take q).length := by simp; omega
      rw [e3, e4]
      obtain ⟨d1, hd1⟩ : ∃ d1, data ++ bs.take q = d1 := ⟨_, rfl⟩
      have hd1l : d1.length = s := by rw [← hd1]; simp; omega
      rw [hd1] at w1 w2 ⊢
      (conv => whnf); repeat ((first | refine RngK.mk (by omega) (by omega) ?_ | refine NzK.mk (by omega) ?_ | refine NnK.mk (by omega) ?_ | refine BdK.mk (by omega) (by omega) (by omega) ?_ | refine InsK.lit (by omega) (by omega) ?_ | refine SpK.lit ?_ | refine GrdK.same ?_ | refine GrdK.tf ?_ | refine GrdK.ft ?_ | refine PickK.t ?_ | refine PickK.f ?_); (conv => whnf))
      refine KfK.of (LdK.blk 0 rfl rfl rfl rfl rfl) ?_
      (conv => whnf); repeat ((first | refine RngK.mk (by omega) (by omega) ?_ | refine NzK.mk (by omega) ?_ | refine NnK.mk (by omega) ?_ | refine BdK.mk (by omega) (by omega) (by omega) ?_ | refine InsK.lit (by omega) (by omega) ?_ | refine SpK.lit ?_ | refine GrdK.same ?_ | refine GrdK.tf ?_ | refine GrdK.ft ?_ | refine PickK.t ?_ | refine PickK.f ?_); (conv => whnf))
      refine StK.blkE 0 (rC B s (.slice A' d1.length cap') (off)) rfl rfl rfl rfl (Nat.le_of_ble_eq_true rfl) rfl ?_
      (conv => whnf); repeat ((first | refine RngK.mk (by omega) (by omega) ?_ | refine NzK.mk (by omega) ?_ | refine NnK.mk (by omega) ?_ | refine BdK.mk (by omega) (by omega) (by omega) ?_ | refine InsK.lit (by omega) (by omega) ?_ | refine SpK.lit ?_ | refine GrdK.same ?_ | refine GrdK.tf ?_ | refine GrdK.ft ?_ | refine PickK.t ?_ | refine PickK.f ?_); (conv => whnf))
      refine DrwK.own 1 rfl fun hA => ?_
      refine DrwK.ord (by kernel_rfl) [0, 1, 2, 3, 4, 5, 6, 7, 8, 9, 10, 11] (by kernel_rfl) ?_; conv => whnf
      (conv => whnf); repeat ((first | refine RngK.mk (by omega) (by omega) ?_ | refine NzK.mk (by omega) ?_ | refine NnK.mk (by omega) ?_ | refine BdK.mk (by omega) (by omega) (by omega) ?_ | refine InsK.lit (by omega) (by omega) ?_ | refine SpK.lit ?_ | refine GrdK.same ?_ | refine GrdK.tf ?_ | refine GrdK.ft ?_ | refine PickK.t ?_ | refine PickK.f ?_); (conv => whnf))
      refine LdK.blk 0 rfl rfl rfl rfl ?_
      (conv => whnf); repeat ((first | refine RngK.mk (by omega) (by omega) ?_ | refine NzK.mk (by omega) ?_ | refine NnK.mk (by omega) ?_ | refine BdK.mk (by omega) (by omega) (by omega) ?_ | refine InsK.lit (by omega) (by omega) ?_ | refine SpK.lit ?_ | refine GrdK.same ?_ | refine GrdK.tf ?_ | refine GrdK.ft ?_ | refine PickK.t ?_ | refine PickK.f ?_); (conv => whnf))
      refine hp.sp (by omega) ?_
      rw [Int.toNat_natCast, Int.toNat_natCast]
      (conv => whnf); repeat ((first | refine RngK.mk (by omega) (by omega) ?_ | refine NzK.mk (by omega) ?_ | refine NnK.mk (by omega) ?_ | refine BdK.mk (by omega) (by omega) (by omega) ?_ | refine InsK.lit (by omega) (by omega) ?_ | refine SpK.lit ?_ | refine GrdK.same ?_ | refine GrdK.tf ?_ | refine GrdK.ft ?_ | refine PickK.t ?_ | refine PickK.f ?_); (conv => whnf))
      obtain ⟨g, hg⟩ := hA.ad (show 0 < d1.length by omega)
      refine EffK.copyOwn 1 (o := 0) (bs.length - q) (news := ((bs.map vU8).drop (q * 1)).take ((bs.length - q) * 1)) rfl ⟨g, hg⟩ (by rw [hg]; rfl) rfl rfl rfl (by omega) (by omega) (Src.rdCut hp.rd (by omega) hcb) ?_ (by simp; omega) ?_
      · intro u hu
        exact vU8_one u (List.mem_of_mem_drop (List.mem_of_mem_take hu))
      have e5 : (d1.map vU8).take 0 ++ ((bs.map vU8).drop (q * 1)).take ((bs.length - q) * 1) ++ (d1.map vU8).drop (0 + (bs.length - q)) = (bs.drop q ++ d1.drop (bs.length - q)).map vU8 := by
        rw [List.take_zero, List.nil_append, Nat.mul_one, Nat.mul_one, List.take_of_length_le (by simp), Nat.zero_add, List.map_append, List.map_drop, List.map_drop]
      rw [e5]
      have hdl : (bs.drop q ++ d1.drop (bs.length - q)).length = d1.length := by simp; omega
      generalize bs.drop q ++ d1.drop (bs.length - q) = nd at w1 w2 hdl ⊢
      (conv => whnf); repeat ((first | refine RngK.mk (by omega) (by omega) ?_ | refine NzK.mk (by omega) ?_ | refine NnK.mk (by omega) ?_ | refine BdK.mk (by omega) (by omega) (by omega) ?_ | refine InsK.lit (by omega) (by omega) ?_ | refine SpK.lit ?_ | refine GrdK.same ?_ | refine GrdK.tf ?_ | refine GrdK.ft ?_ | refine PickK.t ?_ | refine PickK.f ?_); (conv => whnf))
      repeat (refine KfK.of (LdK.blk 0 rfl rfl rfl rfl rfl) ?_; conv => whnf)
      refine StK.blkE 0 (rC B s (.slice A' d1.length cap') (bs.length - q)) rfl rfl rfl rfl (Nat.le_of_ble_eq_true rfl) rfl ?_
      (conv => whnf); repeat ((first | refine RngK.mk (by omega) (by omega) ?_ | refine NzK.mk (by omega) ?_ | refine NnK.mk (by omega) ?_ | refine BdK.mk (by omega) (by omega) (by omega) ?_ | refine InsK.lit (by omega) (by omega) ?_ | refine SpK.lit ?_ | refine GrdK.same ?_ | refine GrdK.tf ?_ | refine GrdK.ft ?_ | refine PickK.t ?_ | refine PickK.f ?_); (conv => whnf))
      exact ⟨_, HSub.refl _, rfl, A', cap', nd, bs.length - q, w1, w2, by rw [← hdl]⟩
end Go.Proofs.YtkdfminibmdkgaaDoor
