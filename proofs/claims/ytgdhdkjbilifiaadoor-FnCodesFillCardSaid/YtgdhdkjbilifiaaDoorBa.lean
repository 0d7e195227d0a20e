/- Bits at a place, sizes taken into a range, rows of numbers that are the same. -/
import Derived.Test.YtgdhdkjbilifiaaDoorSize
import Derived.Test.YtgdhdkjbilifiaaDoorEq
import Derived.Test.YtgdhdkjbilifiaaDoorBits
namespace Go.Proofs.YtgdhdkjbilifiaaDoor
open Go Go.Sx
set_option maxRecDepth 100000
theorem bitsAt_spec (A : Option Addr) (n c : Nat) (bs : List UInt8) (p q : Nat) (hpq : p + q ≤ 8 * n) (hq : q ≤ 40) :
    FnS Tryd.prog 44 [.slice A n c, vI p, vI q] [] (fun w => Bytes w (blocks []) A n c bs ∧ n ≤ 2147483647) (Is (vI (bitsN (num bs) p q : Nat))) := by
  refine FnS.intro Tryd.func44 rfl (by kernel_rfl) rfl fun w hH ⟨hp, hn⟩ => ?_
  obtain rfl : bs.length = n := hp.len
  (conv => whnf); repeat ((first | refine RngK.mk (by omega) (by omega) ?_ | refine NzK.mk (by omega) ?_ | refine NnK.mk (by omega) ?_ | refine BdK.mk (by omega) (by omega) (by omega) ?_ | refine InsK.lit (by omega) (by omega) ?_ | refine SpK.lit ?_ | refine GrdK.same ?_ | refine GrdK.tf ?_ | refine GrdK.ft ?_ | refine PickK.t ?_ | refine PickK.f ?_); (conv => whnf))
  refine Wp.loop (fun k : Nat => [(0, .slice A bs.length c), (1, vI p), (9, vI q), (10, vI k), (7, vI (bitsN (num bs) p k : Nat))]) (fun _ => []) (fun k => k ≤ q) (fun k => q - k) 0
    ⟨rfl, rfl, rfl, rfl, ?_, trivial⟩ (HSub.refl _) (Nat.zero_le _) fun k hk => ?_
  · rw [bitsN_zero]; rfl
  · (conv => whnf); repeat ((first | refine RngK.mk (by omega) (by omega) ?_ | refine NzK.mk (by omega) ?_ | refine NnK.mk (by omega) ?_ | refine BdK.mk (by omega) (by omega) (by omega) ?_ | refine InsK.lit (by omega) (by omega) ?_ | refine SpK.lit ?_ | refine GrdK.same ?_ | refine GrdK.tf ?_ | refine GrdK.ft ?_ | refine PickK.t ?_ | refine PickK.f ?_); (conv => whnf))
    refine Wp.cond rfl (fun h => ?_) (fun h => ?_)
    · have h := dT h
      (conv => whnf); repeat ((first | refine RngK.mk (by omega) (by omega) ?_ | refine NzK.mk (by omega) ?_ | refine NnK.mk (by omega) ?_ | refine BdK.mk (by omega) (by omega) (by omega) ?_ | refine InsK.lit (by omega) (by omega) ?_ | refine SpK.lit ?_ | refine GrdK.same ?_ | refine GrdK.tf ?_ | refine GrdK.ft ?_ | refine PickK.t ?_ | refine PickK.f ?_); (conv => whnf))
      have e1 : ((p : Int) + (k : Int)).tdiv 8 = (((p + k) / 8 : Nat) : Int) := rfl
      have e2 : ((p : Int) + (k : Int)).tmod 8 = (((p + k) % 8 : Nat) : Int) := rfl
      have hi : (p + k) / 8 < bs.length := by omega
      rw [e1]
      (conv => whnf); repeat ((first | refine RngK.mk (by omega) (by omega) ?_ | refine NzK.mk (by omega) ?_ | refine NnK.mk (by omega) ?_ | refine BdK.mk (by omega) (by omega) (by omega) ?_ | refine InsK.lit (by omega) (by omega) ?_ | refine SpK.lit ?_ | refine GrdK.same ?_ | refine GrdK.tf ?_ | refine GrdK.ft ?_ | refine PickK.t ?_ | refine PickK.f ?_); (conv => whnf))
      refine InsK.rd hp.rd (by omega) (by omega) ?_
      (conv => whnf); repeat ((first | refine RngK.mk (by omega) (by omega) ?_ | refine NzK.mk (by omega) ?_ | refine NnK.mk (by omega) ?_ | refine BdK.mk (by omega) (by omega) (by omega) ?_ | refine InsK.lit (by omega) (by omega) ?_ | refine SpK.lit ?_ | refine GrdK.same ?_ | refine GrdK.tf ?_ | refine GrdK.ft ?_ | refine PickK.t ?_ | refine PickK.f ?_); (conv => whnf))
      refine LdK.rd (v := vU8 bs[(p + k) / 8]) hp.rd ((p + k) / 8) rfl rfl rfl (by simp [hi]) ?_
      (conv => whnf); repeat ((first | refine RngK.mk (by omega) (by omega) ?_ | refine NzK.mk (by omega) ?_ | refine NnK.mk (by omega) ?_ | refine BdK.mk (by omega) (by omega) (by omega) ?_ | refine InsK.lit (by omega) (by omega) ?_ | refine SpK.lit ?_ | refine GrdK.same ?_ | refine GrdK.tf ?_ | refine GrdK.ft ?_ | refine PickK.t ?_ | refine PickK.f ?_); (conv => whnf))
      rw [e2]
      (conv => whnf); repeat ((first | refine RngK.mk (by omega) (by omega) ?_ | refine NzK.mk (by omega) ?_ | refine NnK.mk (by omega) ?_ | refine BdK.mk (by omega) (by omega) (by omega) ?_ | refine InsK.lit (by omega) (by omega) ?_ | refine SpK.lit ?_ | refine GrdK.same ?_ | refine GrdK.tf ?_ | refine GrdK.ft ?_ | refine PickK.t ?_ | refine PickK.f ?_); (conv => whnf))
      have hb := bs[(p + k) / 8].toNat_lt
      have hb1 := bitsN_lt (num bs) (p + k) 1
      have e3 : iand .u8 (ishr .u8 (bs[(p + k) / 8].toNat : Int) (((p + k) % 8 : Nat) : Int)) 1 = ((bitsN (num bs) (p + k) 1 : Nat) : Int) := by
        have hd := Nat.div_le_self bs[(p + k) / 8].toNat (2 ^ ((p + k) % 8))
        have := iand_u (k := .u8) rfl (x := bs[(p + k) / 8].toNat / 2 ^ ((p + k) % 8)) (y := 1) (by show _ < 256; omega) (by show _ < 256; omega)
        rw [ishr_nat .u8 _ (by show _ ≤ 8; omega), show (1 : Int) = ((1 : Nat) : Int) from rfl, this, Nat.and_one_is_mod, byte_bit hi]
      rw [e3]
      (conv => whnf); repeat ((first | refine RngK.mk (by omega) (by omega) ?_ | refine NzK.mk (by omega) ?_ | refine NnK.mk (by omega) ?_ | refine BdK.mk (by omega) (by omega) (by omega) ?_ | refine InsK.lit (by omega) (by omega) ?_ | refine SpK.lit ?_ | refine GrdK.same ?_ | refine GrdK.tf ?_ | refine GrdK.ft ?_ | refine PickK.t ?_ | refine PickK.f ?_); (conv => whnf))
      refine ⟨k + 1, ⟨rfl, rfl, rfl, rfl, ?_, trivial⟩, HSub.refl _, by omega, by omega⟩
      show some (Value.int _ _) = some _
      congr 2
      have hlt := bitsN_lt (num bs) p k
      have h2k : 2 ^ k ≤ 2 ^ 40 := Nat.pow_le_pow_right (by omega) (by omega)
      have hm : bitsN (num bs) (p + k) 1 * 2 ^ k ≤ 1 * 2 ^ k := Nat.mul_le_mul_right _ (by omega)
      rw [ishl_i64 (by omega) (by omega), ior_i64 (by omega) (by omega), or_add hlt, bitsN_split]
    · have h := dF h
      obtain rfl : k = q := by omega
      (conv => whnf); repeat ((first | refine RngK.mk (by omega) (by omega) ?_ | refine NzK.mk (by omega) ?_ | refine NnK.mk (by omega) ?_ | refine BdK.mk (by omega) (by omega) (by omega) ?_ | refine InsK.lit (by omega) (by omega) ?_ | refine SpK.lit ?_ | refine GrdK.same ?_ | refine GrdK.tf ?_ | refine GrdK.ft ?_ | refine PickK.t ?_ | refine PickK.f ?_); (conv => whnf))
      exact ⟨rfl, rfl⟩
theorem mod_spec (n k : Int) (hk : 0 < k) (hk2 : k ≤ 1000000000) : FnS Tryd.prog 30 [vI n, vI k] [] (fun _ => True) (Is (vI (n % k))) := by
  refine FnS.intro Tryd.func30 rfl (by kernel_rfl) rfl fun w hH _ => ?_
  have h1 := Int.tmod_lt_of_pos n hk
  have h2 := Int.lt_tmod_of_pos n hk
  (conv => whnf); repeat ((first | refine RngK.mk (by omega) (by omega) ?_ | refine NzK.mk (by omega) ?_ | refine NnK.mk (by omega) ?_ | refine BdK.mk (by omega) (by omega) (by omega) ?_ | refine InsK.lit (by omega) (by omega) ?_ | refine SpK.lit ?_ | refine GrdK.same ?_ | refine GrdK.tf ?_ | refine GrdK.ft ?_ | refine PickK.t ?_ | refine PickK.f ?_); (conv => whnf))
  exact ⟨by rw [mod17 n k hk], rfl⟩
end Go.Proofs.YtgdhdkjbilifiaaDoor
