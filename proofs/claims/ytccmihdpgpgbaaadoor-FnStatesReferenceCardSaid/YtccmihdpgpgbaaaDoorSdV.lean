/- The reference's writer of bits. -/
import Derived.Test.YtccmihdpgpgbaaaDoorSdU
import Derived.Test.YtccmihdpgpgbaaaDoorBitS
import Derived.Test.YtccmihdpgpgbaaaDoorStW
namespace Go.Proofs.YtccmihdpgpgbaaaDoor
open Go Go.Sx
set_option maxRecDepth 100000
theorem num_append : ∀ (a b : List UInt8), num (a ++ b) = num a + 2 ^ (8 * a.length) * num b
  | [], b => by simp [num]
  | x :: a, b => by
    have := num_append a b
    have e : 2 ^ (8 * (a.length + 1)) = 256 * 2 ^ (8 * a.length) := by
      rw [show 8 * (a.length + 1) = 8 * a.length + 8 by omega, Nat.pow_add, Nat.mul_comm]
    rw [List.cons_append, num_cons, num_cons, this, List.length_cons, e, Nat.mul_add, Nat.mul_assoc]
    omega
theorem byte_low {bs : List UInt8} {j r t : Nat} (hj : j < bs.length) (ht : 8 * j + r = t) (h : num bs < 2 ^ t) : bs[j].toNat < 2 ^ r := by
  have h1 := num_byte hj
  have h2 : num bs / 2 ^ (8 * j) < 2 ^ r := by
    rw [Nat.div_lt_iff_lt_mul (Nat.two_pow_pos _), ← Nat.pow_add]
    have : r + 8 * j = t := by omega
    rw [this]
    exact h
  have h3 : bitsN (num bs) (8 * j) 8 ≤ num bs / 2 ^ (8 * j) := Nat.mod_le _ _
  omega
abbrev wrH (b : Nat) (D : Option Addr) (dc : Nat) (bs : List UInt8) (t : Nat) : Hp := [.blk b 55 [.slice D bs.length dc, vN t], .own D bs.length dc 5 1 (bs.map vU8)]
theorem put_spec (b : Nat) (D : Option Addr) (dc : Nat) (bs : List UInt8) (t m v : Nat) (hm : m ≤ 40) (hv : v < 2 ^ 62) (ht : t ≤ 1000000000) (hl : bs.length = (t + 7) / 8) (hn : num bs < 2 ^ t) :
    FnS Tryd.prog 24 [.pointer (some ⟨b, 0, none⟩), vN m, vN v] (wrH b D dc bs t) (fun _ => True)
      (fun u H => u = .tuple #[] ∧ ∃ D' dc' bs', bs'.length = (t + m + 7) / 8 ∧ num bs' = num bs + (v % 2 ^ m) * 2 ^ t ∧ H = wrH b D' dc' bs' (t + m)) := by
  refine FnS.introD Tryd.func24 rfl (by kernel_rfl) rfl fun w hH _ => ?_
  obtain ⟨V, hV⟩ : ∃ V, num bs = V := ⟨_, rfl⟩
  rw [hV] at hn ⊢
  (conv => whnf); repeat ((first | refine RngK.mk (by omega) (by omega) ?_ | refine NzK.mk (by omega) ?_ | refine NnK.mk (by omega) ?_ | refine BdK.mk (by omega) (by omega) (by omega) ?_ | refine InsK.lit (by omega) (by omega) ?_ | refine SpK.lit ?_ | refine GrdK.same ?_ | refine GrdK.tf ?_ | refine GrdK.ft ?_ | refine PickK.t ?_ | refine PickK.f ?_); (conv => whnf))
  refine Wp.loop (fun s : Nat × Option Addr × Nat × List UInt8 => [(0, .pointer (some ⟨b, 0, none⟩)), (2, vN v), (7, vN m), (8, vN s.1)]) (fun s => wrH b s.2.1 s.2.2.1 s.2.2.2 (t + s.1))
    (fun s => s.1 ≤ m ∧ s.2.2.2.length = (t + s.1 + 7) / 8 ∧ num s.2.2.2 = V + (v % 2 ^ s.1) * 2 ^ t) (fun s => m - s.1) (0, D, dc, bs)
    ⟨rfl, rfl, rfl, rfl, trivial⟩ (HSub.refl _) ⟨Nat.zero_le _, hl, by simp [hV, Nat.mod_one]⟩ fun ⟨k, D, dc, bs⟩ ⟨hk, hl, hnum⟩ => ?_
  dsimp only at hk hl hnum ⊢
  (conv => whnf); repeat ((first | refine RngK.mk (by omega) (by omega) ?_ | refine NzK.mk (by omega) ?_ | refine NnK.mk (by omega) ?_ | refine BdK.mk (by omega) (by omega) (by omega) ?_ | refine InsK.lit (by omega) (by omega) ?_ | refine SpK.lit ?_ | refine GrdK.same ?_ | refine GrdK.tf ?_ | refine GrdK.ft ?_ | refine PickK.t ?_ | refine PickK.f ?_); (conv => whnf))
  refine Wp.cond rfl (fun h => ?_) (fun h => ?_)
  rotate_left
  · have h := dF h
    obtain rfl : k = m := by omega
    (conv => whnf); repeat ((first | refine RngK.mk (by omega) (by omega) ?_ | refine NzK.mk (by omega) ?_ | refine NnK.mk (by omega) ?_ | refine BdK.mk (by omega) (by omega) (by omega) ?_ | refine InsK.lit (by omega) (by omega) ?_ | refine SpK.lit ?_ | refine GrdK.same ?_ | refine GrdK.tf ?_ | refine GrdK.ft ?_ | refine PickK.t ?_ | refine PickK.f ?_); (conv => whnf))
    exact ⟨_, HSub.refl _, rfl, D, dc, bs, hl, hnum, rfl⟩
  have h := dT h
  have em : ((t + k : Nat) : Int).tmod 8 = (((t + k) % 8 : Nat) : Int) := rfl
  have eq : ((t + k : Nat) : Int).tdiv 8 = (((t + k) / 8 : Nat) : Int) := rfl
  have hlt : num bs < 2 ^ (t + k) := by
    rw [hnum, Nat.pow_add]
    have h1 := Nat.mod_lt v (Nat.two_pow_pos k)
    have h2 : (v % 2 ^ k + 1) * 2 ^ t ≤ 2 ^ k * 2 ^ t := Nat.mul_le_mul_right _ h1
    rw [Nat.succ_mul] at h2
    rw [Nat.mul_comm (2 ^ t)]
    omega
  (conv => whnf); repeat ((first | refine RngK.mk (by omega) (by omega) ?_ | refine NzK.mk (by omega) ?_ | refine NnK.mk (by omega) ?_ | refine BdK.mk (by omega) (by omega) (by omega) ?_ | refine InsK.lit (by omega) (by omega) ?_ | refine SpK.lit ?_ | refine GrdK.same ?_ | refine GrdK.tf ?_ | refine GrdK.ft ?_ | refine PickK.t ?_ | refine PickK.f ?_); (conv => whnf))
  refine LdK.blk 0 rfl rfl rfl rfl ?_
  (conv => whnf); repeat ((first | refine RngK.mk (by omega) (by omega) ?_ | refine NzK.mk (by omega) ?_ | refine NnK.mk (by omega) ?_ | refine BdK.mk (by omega) (by omega) (by omega) ?_ | refine InsK.lit (by omega) (by omega) ?_ | refine SpK.lit ?_ | refine GrdK.same ?_ | refine GrdK.tf ?_ | refine GrdK.ft ?_ | refine PickK.t ?_ | refine PickK.f ?_); (conv => whnf))
  rw [em]
  refine Wp.cut (fun s : Option Addr × Nat × List UInt8 => [(0, .pointer (some ⟨b, 0, none⟩)), (2, vN v), (6, vN k), (7, vN m), (8, vN k)]) (fun s => wrH b s.1 s.2.1 s.2.2 (t + k))
    (fun s => s.2.2.length = (t + k) / 8 + 1 ∧ num s.2.2 = V + (v % 2 ^ k) * 2 ^ t) ?_ fun ⟨D, dc, bs⟩ ⟨hl, hnum⟩ => ?_
  · refine Wp.cond rfl (fun g => ?_) (fun g => ?_)
    · have g : (((t + k) % 8 : Nat) : Int) = 0 := eqT g
      (conv => whnf); repeat ((first | refine RngK.mk (by omega) (by omega) ?_ | refine NzK.mk (by omega) ?_ | refine NnK.mk (by omega) ?_ | refine BdK.mk (by omega) (by omega) (by omega) ?_ | refine InsK.lit (by omega) (by omega) ?_ | refine SpK.lit ?_ | refine GrdK.same ?_ | refine GrdK.tf ?_ | refine GrdK.ft ?_ | refine PickK.t ?_ | refine PickK.f ?_); (conv => whnf))
      refine LdK.blk 0 rfl rfl rfl rfl ?_
      (conv => whnf); repeat ((first | refine RngK.mk (by omega) (by omega) ?_ | refine NzK.mk (by omega) ?_ | refine NnK.mk (by omega) ?_ | refine BdK.mk (by omega) (by omega) (by omega) ?_ | refine InsK.lit (by omega) (by omega) ?_ | refine SpK.lit ?_ | refine GrdK.same ?_ | refine GrdK.tf ?_ | refine GrdK.ft ?_ | refine PickK.t ?_ | refine PickK.f ?_); (conv => whnf))
      refine EffK.litV rfl rfl rfl rfl rfl rfl rfl rfl rfl ?_
      (conv => whnf); repeat ((first | refine RngK.mk (by omega) (by omega) ?_ | refine NzK.mk (by omega) ?_ | refine NnK.mk (by omega) ?_ | refine BdK.mk (by omega) (by omega) (by omega) ?_ | refine InsK.lit (by omega) (by omega) ?_ | refine SpK.lit ?_ | refine GrdK.same ?_ | refine GrdK.tf ?_ | refine GrdK.ft ?_ | refine PickK.t ?_ | refine PickK.f ?_); (conv => whnf))
      intro b2
      (conv => whnf); repeat ((first | refine RngK.mk (by omega) (by omega) ?_ | refine NzK.mk (by omega) ?_ | refine NnK.mk (by omega) ?_ | refine BdK.mk (by omega) (by omega) (by omega) ?_ | refine InsK.lit (by omega) (by omega) ?_ | refine SpK.lit ?_ | refine GrdK.same ?_ | refine GrdK.tf ?_ | refine GrdK.ft ?_ | refine PickK.t ?_ | refine PickK.f ?_); (conv => whnf))
      refine EffK.append 2 (news := [vU8 0]) rfl rfl rfl rfl rfl rfl rfl rfl (Src.ownW (k := 0) rfl rfl) (by intro u hu; rcases List.mem_singleton.1 hu with rfl; rfl) (by simp [maxLen]; omega) (by show (_ + _) * 1 ≤ _; omega) fun A5 c5 => ?_
      (conv => whnf); repeat ((first | refine RngK.mk (by omega) (by omega) ?_ | refine NzK.mk (by omega) ?_ | refine NnK.mk (by omega) ?_ | refine BdK.mk (by omega) (by omega) (by omega) ?_ | refine InsK.lit (by omega) (by omega) ?_ | refine SpK.lit ?_ | refine GrdK.same ?_ | refine GrdK.tf ?_ | refine GrdK.ft ?_ | refine PickK.t ?_ | refine PickK.f ?_); (conv => whnf))
      refine StK.blkE 1 [.slice A5 (bs.length + 1) c5, vN (t + k)] rfl rfl rfl rfl (Nat.le_of_ble_eq_true rfl) rfl ?_
      (conv => whnf); repeat ((first | refine RngK.mk (by omega) (by omega) ?_ | refine NzK.mk (by omega) ?_ | refine NnK.mk (by omega) ?_ | refine BdK.mk (by omega) (by omega) (by omega) ?_ | refine InsK.lit (by omega) (by omega) ?_ | refine SpK.lit ?_ | refine GrdK.same ?_ | refine GrdK.tf ?_ | refine GrdK.ft ?_ | refine PickK.t ?_ | refine PickK.f ?_); (conv => whnf))
      refine ⟨(A5, c5, bs ++ [0]), ⟨rfl, rfl, rfl, rfl, rfl, trivial⟩, ?_, ?_, ?_⟩
      · have e1 : (bs ++ [(0 : UInt8)]).length = bs.length + 1 := by simp
        have e2 : (bs ++ [(0 : UInt8)]).map vU8 = bs.map vU8 ++ [vU8 0] := by simp
        unfold wrH
        dsimp only
        rw [e1, e2]
        exact HSub.of [1, 1] rfl
      · simp
        omega
      · dsimp only
        rw [num_append, hnum]
        simp [num]
    · have g : (((t + k) % 8 : Nat) : Int) ≠ 0 := eqF g
      (conv => whnf); repeat ((first | refine RngK.mk (by omega) (by omega) ?_ | refine NzK.mk (by omega) ?_ | refine NnK.mk (by omega) ?_ | refine BdK.mk (by omega) (by omega) (by omega) ?_ | refine InsK.lit (by omega) (by omega) ?_ | refine SpK.lit ?_ | refine GrdK.same ?_ | refine GrdK.tf ?_ | refine GrdK.ft ?_ | refine PickK.t ?_ | refine PickK.f ?_); (conv => whnf))
      exact ⟨(D, dc, bs), ⟨rfl, rfl, rfl, rfl, rfl, trivial⟩, HSub.refl _, by dsimp only; omega, hnum⟩
  dsimp only at hl hnum ⊢
  have hlt : num bs < 2 ^ (t + k) := by
    rw [hnum, Nat.pow_add]
    have h1 := Nat.mod_lt v (Nat.two_pow_pos k)
    have h2 : (v % 2 ^ k + 1) * 2 ^ t ≤ 2 ^ k * 2 ^ t := Nat.mul_le_mul_right _ h1
    rw [Nat.succ_mul] at h2
    rw [Nat.mul_comm (2 ^ t)]
    omega
  obtain ⟨j, hj⟩ : ∃ j, (t + k) / 8 = j := ⟨_, rfl⟩
  obtain ⟨r, hr⟩ : ∃ r, (t + k) % 8 = r := ⟨_, rfl⟩
  have hjl : j < bs.length := by omega
  have hlow := byte_low (r := r) hjl (by omega) hlt
  obtain ⟨bit, hbit⟩ : ∃ bit, v / 2 ^ k % 2 = bit := ⟨_, rfl⟩
  have hb2 : bit ≤ 1 := by omega
  have hr8 : 2 ^ r ≤ 2 ^ 7 := Nat.pow_le_pow_right (by omega) (by omega)
  have hbm : bit * 2 ^ r ≤ 1 * 2 ^ r := Nat.mul_le_mul_right _ hb2
  have hd : v / 2 ^ k ≤ v := Nat.div_le_self _ _
  have e1 : iand .i64 (ishr .i64 ((v : Nat) : Int) ((k : Nat) : Int)) 1 = ((bit : Nat) : Int) := by
    have := iand_i64 (x := v / 2 ^ k) (y := 1) (by omega) (by omega)
    rw [ishr_nat .i64 _ (by show _ ≤ 64; omega), show (1 : Int) = ((1 : Nat) : Int) from rfl, this, Nat.and_one_is_mod, hbit]
  have e2 : IntKind.u8.wrap ((bit : Nat) : Int) = ((bit : Nat) : Int) := wrap_u_lt rfl (by show bit < 256; omega)
  have e3 : ishl .u8 ((bit : Nat) : Int) ((r : Nat) : Int) = ((bit * 2 ^ r : Nat) : Int) := by
    rw [ishl_u (k := .u8) rfl _ (by show _ ≤ 8; omega), Nat.mod_eq_of_lt (by show _ < 256; omega)]
  have e4 : ior .u8 ((bs[j].toNat : Nat) : Int) ((bit * 2 ^ r : Nat) : Int) = ((bs[j].toNat + bit * 2 ^ r : Nat) : Int) := by
    rw [ior_u (k := .u8) rfl (by show _ < 256; omega) (by show _ < 256; omega), or_add hlow]
  have hy : (UInt8.ofNat (bs[j].toNat + bit * 2 ^ r)).toNat = bs[j].toNat + bit * 2 ^ r := UInt8.toNat_ofNat_of_lt' (by simp [UInt8.size]; omega)
  (conv => whnf); repeat ((first | refine RngK.mk (by omega) (by omega) ?_ | refine NzK.mk (by omega) ?_ | refine NnK.mk (by omega) ?_ | refine BdK.mk (by omega) (by omega) (by omega) ?_ | refine InsK.lit (by omega) (by omega) ?_ | refine SpK.lit ?_ | refine GrdK.same ?_ | refine GrdK.tf ?_ | refine GrdK.ft ?_ | refine PickK.t ?_ | refine PickK.f ?_); (conv => whnf))
  refine DrwK.own 1 rfl fun hD => ?_
  obtain ⟨gD, rfl⟩ := hD.ad (by omega)
  refine DrwK.ord (by kernel_rfl) [0, 1, 2, 3, 4, 5, 6, 7, 8, 9, 10, 11, 12, 13, 14, 15, 16, 17, 18, 19, 20, 21, 22, 23, 24] (by kernel_rfl) ?_; conv => whnf
  (conv => whnf); repeat ((first | refine RngK.mk (by omega) (by omega) ?_ | refine NzK.mk (by omega) ?_ | refine NnK.mk (by omega) ?_ | refine BdK.mk (by omega) (by omega) (by omega) ?_ | refine InsK.lit (by omega) (by omega) ?_ | refine SpK.lit ?_ | refine GrdK.same ?_ | refine GrdK.tf ?_ | refine GrdK.ft ?_ | refine PickK.t ?_ | refine PickK.f ?_); (conv => whnf))
  refine LdK.blk 0 rfl rfl rfl rfl ?_
  (conv => whnf); repeat ((first | refine RngK.mk (by omega) (by omega) ?_ | refine NzK.mk (by omega) ?_ | refine NnK.mk (by omega) ?_ | refine BdK.mk (by omega) (by omega) (by omega) ?_ | refine InsK.lit (by omega) (by omega) ?_ | refine SpK.lit ?_ | refine GrdK.same ?_ | refine GrdK.tf ?_ | refine GrdK.ft ?_ | refine PickK.t ?_ | refine PickK.f ?_); (conv => whnf))
  refine LdK.blk 0 rfl rfl rfl rfl ?_
  (conv => whnf); repeat ((first | refine RngK.mk (by omega) (by omega) ?_ | refine NzK.mk (by omega) ?_ | refine NnK.mk (by omega) ?_ | refine BdK.mk (by omega) (by omega) (by omega) ?_ | refine InsK.lit (by omega) (by omega) ?_ | refine SpK.lit ?_ | refine GrdK.same ?_ | refine GrdK.tf ?_ | refine GrdK.ft ?_ | refine PickK.t ?_ | refine PickK.f ?_); (conv => whnf))
  rw [eq, hj]
  (conv => whnf); repeat ((first | refine RngK.mk (by omega) (by omega) ?_ | refine NzK.mk (by omega) ?_ | refine NnK.mk (by omega) ?_ | refine BdK.mk (by omega) (by omega) (by omega) ?_ | refine InsK.lit (by omega) (by omega) ?_ | refine SpK.lit ?_ | refine GrdK.same ?_ | refine GrdK.tf ?_ | refine GrdK.ft ?_ | refine PickK.t ?_ | refine PickK.f ?_); (conv => whnf))
  refine LdK.own (v := vU8 bs[j]) 1 j rfl rfl rfl rfl (by simp [hjl]) ?_
  (conv => whnf); repeat ((first | refine RngK.mk (by omega) (by omega) ?_ | refine NzK.mk (by omega) ?_ | refine NnK.mk (by omega) ?_ | refine BdK.mk (by omega) (by omega) (by omega) ?_ | refine InsK.lit (by omega) (by omega) ?_ | refine SpK.lit ?_ | refine GrdK.same ?_ | refine GrdK.tf ?_ | refine GrdK.ft ?_ | refine PickK.t ?_ | refine PickK.f ?_); (conv => whnf))
  rw [e1, e2]
  refine LdK.blk 0 rfl rfl rfl rfl ?_
  (conv => whnf); repeat ((first | refine RngK.mk (by omega) (by omega) ?_ | refine NzK.mk (by omega) ?_ | refine NnK.mk (by omega) ?_ | refine BdK.mk (by omega) (by omega) (by omega) ?_ | refine InsK.lit (by omega) (by omega) ?_ | refine SpK.lit ?_ | refine GrdK.same ?_ | refine GrdK.tf ?_ | refine GrdK.ft ?_ | refine PickK.t ?_ | refine PickK.f ?_); (conv => whnf))
  rw [em, hr]
  (conv => whnf); repeat ((first | refine RngK.mk (by omega) (by omega) ?_ | refine NzK.mk (by omega) ?_ | refine NnK.mk (by omega) ?_ | refine BdK.mk (by omega) (by omega) (by omega) ?_ | refine InsK.lit (by omega) (by omega) ?_ | refine SpK.lit ?_ | refine GrdK.same ?_ | refine GrdK.tf ?_ | refine GrdK.ft ?_ | refine PickK.t ?_ | refine PickK.f ?_); (conv => whnf))
  rw [e3, e4]
  refine StK.own 1 j rfl ⟨gD, rfl⟩ rfl rfl rfl rfl (by simp; omega) ?_
  have es : (bs.map vU8).set j (Value.int .u8 ((bs[j].toNat + bit * 2 ^ r : Nat) : Int)) = (bs.set j (UInt8.ofNat (bs[j].toNat + bit * 2 ^ r))).map vU8 := by
    rw [List.map_set]
    congr 1
    show Value.int _ _ = Value.int _ _
    rw [hy]
  rw [es]
  (conv => whnf); repeat ((first | refine RngK.mk (by omega) (by omega) ?_ | refine NzK.mk (by omega) ?_ | refine NnK.mk (by omega) ?_ | refine BdK.mk (by omega) (by omega) (by omega) ?_ | refine InsK.lit (by omega) (by omega) ?_ | refine SpK.lit ?_ | refine GrdK.same ?_ | refine GrdK.tf ?_ | refine GrdK.ft ?_ | refine PickK.t ?_ | refine PickK.f ?_); (conv => whnf))
  refine LdK.blk 0 rfl rfl rfl rfl ?_
  (conv => whnf); repeat ((first | refine RngK.mk (by omega) (by omega) ?_ | refine NzK.mk (by omega) ?_ | refine NnK.mk (by omega) ?_ | refine BdK.mk (by omega) (by omega) (by omega) ?_ | refine InsK.lit (by omega) (by omega) ?_ | refine SpK.lit ?_ | refine GrdK.same ?_ | refine GrdK.tf ?_ | refine GrdK.ft ?_ | refine PickK.t ?_ | refine PickK.f ?_); (conv => whnf))
  refine StK.blkE 0 [.slice (some ⟨gD, 0, none⟩) bs.length dc, vN (t + (k + 1))] rfl rfl rfl rfl (Nat.le_of_ble_eq_true rfl) ?_ ?_
  · show [_, Value.int .i64 _] = [_, Value.int .i64 _]
    congr 3
  (conv => whnf); repeat ((first | refine RngK.mk (by omega) (by omega) ?_ | refine NzK.mk (by omega) ?_ | refine NnK.mk (by omega) ?_ | refine BdK.mk (by omega) (by omega) (by omega) ?_ | refine InsK.lit (by omega) (by omega) ?_ | refine SpK.lit ?_ | refine GrdK.same ?_ | refine GrdK.tf ?_ | refine GrdK.ft ?_ | refine PickK.t ?_ | refine PickK.f ?_); (conv => whnf))
  refine ⟨(k + 1, some ⟨gD, 0, none⟩, dc, bs.set j (UInt8.ofNat (bs[j].toNat + bit * 2 ^ r))), ⟨rfl, rfl, rfl, rfl, trivial⟩, ?_, ⟨by simp only; omega, by simp only [List.length_set]; omega, ?_⟩, by simp only; omega⟩
  · unfold wrH
    dsimp only
    rw [List.length_set]
    exact HSub.refl _
  · dsimp only
    have h8 : 8 * j + r = t + k := by omega
    rw [num_set hjl _ (bit * 2 ^ r) hy, hnum, Nat.mod_pow_succ, hbit, Nat.add_mul, Nat.mul_assoc bit, ← Nat.pow_add, Nat.add_comm r, h8, Nat.pow_add, Nat.mul_comm (2 ^ k) bit, Nat.mul_assoc bit, Nat.mul_comm (2 ^ t)]
    omega
end Go.Proofs.YtccmihdpgpgbaaaDoor
