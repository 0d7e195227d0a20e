/- Bits at a place, sizes taken into a range, rows of numbers that are the same. -/
import Derived.Test.YtagcmlbpppmbfaaDoorSize
import Derived.Test.YtagcmlbpppmbfaaDoorEq
import Derived.Test.YtagcmlbpppmbfaaDoorBitM
namespace Go.Proofs.YtagcmlbpppmbfaaDoor
open Go Go.Sx
set_option maxRecDepth 100000
theorem bitsAt_spec (A : Option Addr) (n c : Nat) (bs : List UInt8) (p q : Nat) (hpq : p + q ≤ 8 * n) (hq : q ≤ 40) :
    FnS Tryd.prog 12 [.slice A n c, vI p, vI q] [] (fun w => Bytes w (blocks []) A n c bs ∧ n ≤ 2147483647) (Is (vI (bitsN (num bs) p q : Nat))) := by
  refine FnS.intro Tryd.func12 rfl (by kernel_rfl) rfl fun w hH ⟨hp, hn⟩ => ?_
  obtain rfl : bs.length = n := hp.len
  (conv => whnf); repeat ((first | refine RngK.mk (by omega) (by omega) ?_ | refine NzK.mk (by omega) ?_ | refine NnK.mk (by omega) ?_ | refine BdK.mk (by omega) (by omega) (by omega) ?_ | refine InsK.lit (by omega) (by omega) ?_ | refine SpK.lit ?_ | refine GrdK.same ?_ | refine GrdK.tf ?_ | refine GrdK.ft ?_ | refine PickK.t ?_ | refine PickK.f ?_); (conv => whnf))
  refine Wp.loop (fun k : Nat => [(0, .slice A bs.length c), (1, vI p), (9, vI q), (10, vI k), (7, vI (bitsN (num bs) p k : Nat))]) (fun _ => []) (fun k => k ≤ q) (fun k => q - k) 0
    ⟨rfl, rfl, rfl, rfl, ?_, trivial⟩ (HSub.refl _) (Nat.zero_le _) fun k hk => ?_
  · rw [bitsN_zero]; rfl
  · (conv => whnf); repeat ((first | refine RngK.mk (by omega) (by omega) ?_ | refine NzK.mk (by omega) ?_ | refine NnK.mk (by omega) ?_ | refine BdK.mk (by omega) (by omega) (by omega) ?_ | refine InsK.lit (by omega) (by omega) ?_ | refine SpK.lit ?_ | refine GrdK.same ?_ | refine GrdK.tf ?_ | refine GrdK.ft ?_ | refine PickK.t ?_ | refine PickK.f ?_); (conv => whnf))
    refine Wp.cond rfl (fun h => ?_) (fun h => ?_)
    · have h := dT h
      (conv => whnf); repeat ((first | refine RngK.mk (by omega) (by omega) ?_ | refine NzK.mk (by omega) ?_ | refine NnK.mk (by omega) ?_ | refine BdK.mk (by omega) (by omega) (by omega) ?_ | refine InsK.lit (by omega) (by omega) ?_ | refine SpK.lit ?_ | refine GrdK.same ?_ | refine GrdK.tf ?_ | refine GrdK.ft ?_ | refine PickK.t ?_ | refine PickK.f ?_); (conv => whnf))
      have e1 : ((p : Int) + (k : Int)).tdiv 8 = (((p + k) / 8 : Nat) : Int) := rfl
      have e2 : ((p : Int) + (k : Int)).tmod 8 = (((p + k) % 8 : Nat) : Int) := rfl
      have hi : (p + k) / 8 < bs.length := by omega
      rw [e1]
      (conv => whnf); repeat ((first | refine RngK.mk (by omega) (by omega) ?_ | refine NzK.mk (by omega) ?_ | refine NnK.mk (by omega) ?_ | refine BdK.mk (by omega) (by omega) (by omega) ?_ | refine InsK.lit (by omega) (by omega) ?_ | refine SpK.lit ?_ | refine GrdK.same ?_ | refine GrdK.tf ?_ | refine GrdK.ft ?_ | refine PickK.t ?_ | refine PickK.f ?_); (conv => whnf))
      refine InsK.rd hp.rd (by omega) (by omega) ?_
      (conv => whnf); repeat ((first | refine RngK.mk (by omega) (by omega) ?_ | refine NzK.mk (by omega) ?_ | refine NnK.mk (by omega) ?_ | refine BdK.mk (by omega) (by omega) (by omega) ?_ | refine InsK.lit (by omega) (by omega) ?_ | refine SpK.lit ?_ | refine GrdK.same ?_ | refine GrdK.tf ?_ | refine GrdK.ft ?_ | refine PickK.t ?_ | refine PickK.f ?_); (conv => whnf))
      refine LdK.rd (v := vU8 bs[(p + k) / 8]) hp.rd ((p + k) / 8) rfl rfl rfl (by simp [hi]) ?_
      (conv => whnf); repeat ((first | refine RngK.mk (by omega) (by omega) ?_ | refine NzK.mk (by omega) ?_ | refine NnK.mk (by omega) ?_ | refine BdK.mk (by omega) (by omega) (by omega) ?_ | refine InsK.lit (by omega) (by omega) ?_ | refine SpK.lit ?_ | refine GrdK.same ?_ | refine GrdK.tf ?_ | refine GrdK.ft ?_ | refine PickK.t ?_ | refine PickK.f ?_); (conv => whnf))
      rw [e2]
      (conv => whnf); repeat ((first | refine RngK.mk (by omega) (by omega) ?_ | refine NzK.mk (by omega) ?_ | refine NnK.mk (by omega) ?_ | refine BdK.mk (by omega) (by omega) (by omega) ?_ | refine InsK.lit (by omega) (by omega) ?_ | refine SpK.lit ?_ | refine GrdK.same ?_ | refine GrdK.tf ?_ | refine GrdK.ft ?_ | refine PickK.t ?_ | refine PickK.f ?_); (conv => whnf))
      have hb := bs[(p + k) / 8].toNat_lt
      have hb1 := bitsN_lt (num bs) (p + k) 1
      have e3 : iand .u8 (ishr .u8 (bs[(p + k) / 8].toNat : Int) (((p + k) % 8 : Nat) : Int)) 1 = ((bitsN (num bs) (p + k) 1 : Nat) : Int) := by
        have hd := Nat.div_le_self bs[(p + k) / 8].toNat (2 ^ ((p + k) % 8))
        have := iand_u (k := .u8) rfl (x := bs[(p + k) / 8].toNat / 2 ^ ((p + k) % 8)) (y := 1) (by show _ < 256; omega) (by show _ < 256; omega)
        rw [ishr_nat .u8 _ (by show _ ≤ 8; omega), show (1 : Int) = ((1 : Nat) : Int) from rfl, this, Nat.and_one_is_mod, byte_bit hi]
      rw [e3]
      (conv => whnf); repeat ((first | refine RngK.mk (by omega) (by omega) ?_ | refine NzK.mk (by omega) ?_ | refine NnK.mk (by omega) ?_ | refine BdK.mk (by omega) (by omega) (by omega) ?_ | refine InsK.lit (by omega) (by omega) ?_ | refine SpK.lit ?_ | refine GrdK.same ?_ | refine GrdK.tf ?_ | refine GrdK.ft ?_ | refine PickK.t ?_ | refine PickK.f ?_); (conv => whnf))
      refine ⟨k + 1, ⟨rfl, rfl, rfl, rfl, ?_, trivial⟩, HSub.refl _, by omega, by omega⟩
      show some (Value.int _ _) = some _
      congr 2
      have hlt := bitsN_lt (num bs) p k
      have h2k : 2 ^ k ≤ 2 ^ 40 := Nat.pow_le_pow_right (by omega) (by omega)
      have hm : bitsN (num bs) (p + k) 1 * 2 ^ k ≤ 1 * 2 ^ k := Nat.mul_le_mul_right _ (by omega)
      rw [ishl_i64 (by omega) (by omega), ior_i64 (by omega) (by omega), or_add hlt, bitsN_split]
    · have h := dF h
      obtain rfl : k = q := by omega
      (conv => whnf); repeat ((first | refine RngK.mk (by omega) (by omega) ?_ | refine NzK.mk (by omega) ?_ | refine NnK.mk (by omega) ?_ | refine BdK.mk (by omega) (by omega) (by omega) ?_ | refine InsK.lit (by omega) (by omega) ?_ | refine SpK.lit ?_ | refine GrdK.same ?_ | refine GrdK.tf ?_ | refine GrdK.ft ?_ | refine PickK.t ?_ | refine PickK.f ?_); (conv => whnf))
      exact ⟨rfl, rfl⟩
theorem mod_spec (n k : Int) (hk : 0 < k) (hk2 : k ≤ 1000) : FnS Tryd.prog 25 [vI n, vI k] [] (fun _ => True) (Is (vI (n % k))) := by
  refine FnS.intro Tryd.func25 rfl (by kernel_rfl) rfl fun w hH _ => ?_
  have h1 := Int.tmod_lt_of_pos n hk
  have h2 := Int.lt_tmod_of_pos n hk
  (conv => whnf); repeat ((first | refine RngK.mk (by omega) (by omega) ?_ | refine NzK.mk (by omega) ?_ | refine NnK.mk (by omega) ?_ | refine BdK.mk (by omega) (by omega) (by omega) ?_ | refine InsK.lit (by omega) (by omega) ?_ | refine SpK.lit ?_ | refine GrdK.same ?_ | refine GrdK.tf ?_ | refine GrdK.ft ?_ | refine PickK.t ?_ | refine PickK.f ?_); (conv => whnf))
  exact ⟨by rw [mod17 n k hk], rfl⟩
theorem size_spec (n k : Int) (hk : 0 < k) (hk2 : k ≤ 100) : FnS Tryd.prog 22 [vI n, vI k] [] (fun _ => True) (Is (.int .u8 (n % (k + 1)))) := by
  refine FnS.intro Tryd.func22 rfl (by kernel_rfl) rfl fun w hH _ => ?_
  have h1 := Int.tmod_lt_of_pos n (show 0 < k + 1 by omega)
  have h2 := Int.lt_tmod_of_pos n (show 0 < k + 1 by omega)
  (conv => whnf); repeat ((first | refine RngK.mk (by omega) (by omega) ?_ | refine NzK.mk (by omega) ?_ | refine NnK.mk (by omega) ?_ | refine BdK.mk (by omega) (by omega) (by omega) ?_ | refine InsK.lit (by omega) (by omega) ?_ | refine SpK.lit ?_ | refine GrdK.same ?_ | refine GrdK.tf ?_ | refine GrdK.ft ?_ | refine PickK.t ?_ | refine PickK.f ?_); (conv => whnf))
  refine ⟨?_, rfl⟩
  have e : n.tmod (k + 1) + k + 1 = n.tmod (k + 1) + (k + 1) := by omega
  have h3 := Int.emod_nonneg n (show k + 1 ≠ 0 by omega)
  have h4 := Int.emod_lt_of_pos n (show 0 < k + 1 by omega)
  rw [e, mod17 n (k + 1) (by omega)]
  congr 1
  obtain ⟨m, hm⟩ := Int.eq_ofNat_of_zero_le h3
  rw [hm]
  exact wrap_u_lt (k := .u8) rfl (by show m < 256; omega)
theorem sameInts_spec (A B : Option Addr) (n m c c' : Nat) (xs ys : List Int) : FnS Tryd.prog 11 [.slice A n c, .slice B m c'] []
    (fun w => Rd w (blocks []) A n 1 (xs.map vI) ∧ Rd w (blocks []) B m 1 (ys.map vI) ∧ n ≤ maxLen) (Is (vB (decide (xs = ys)))) := by
  refine FnS.intro Tryd.func11 rfl (by kernel_rfl) rfl fun w hH ⟨h1, h2, hmax⟩ => ?_
  have hl : xs.length = n := by simpa using h1.len
  have hm : ys.length = m := by simpa using h2.len
  simp [maxLen] at hmax
  (conv => whnf); repeat ((first | refine RngK.mk (by omega) (by omega) ?_ | refine NzK.mk (by omega) ?_ | refine NnK.mk (by omega) ?_ | refine BdK.mk (by omega) (by omega) (by omega) ?_ | refine InsK.lit (by omega) (by omega) ?_ | refine SpK.lit ?_ | refine GrdK.same ?_ | refine GrdK.tf ?_ | refine GrdK.ft ?_ | refine PickK.t ?_ | refine PickK.f ?_); (conv => whnf))
  refine Wp.cond rfl (fun h => ?_) (fun h => ?_)
  · (conv => whnf); repeat ((first | refine RngK.mk (by omega) (by omega) ?_ | refine NzK.mk (by omega) ?_ | refine NnK.mk (by omega) ?_ | refine BdK.mk (by omega) (by omega) (by omega) ?_ | refine InsK.lit (by omega) (by omega) ?_ | refine SpK.lit ?_ | refine GrdK.same ?_ | refine GrdK.tf ?_ | refine GrdK.ft ?_ | refine PickK.t ?_ | refine PickK.f ?_); (conv => whnf))
    have h := neT h
    have : decide (xs = ys) = false := by simp; rintro rfl; omega
    exact ⟨by rw [this], rfl⟩
  · have h := neF h
    obtain rfl : n = m := by omega
    (conv => whnf); repeat ((first | refine RngK.mk (by omega) (by omega) ?_ | refine NzK.mk (by omega) ?_ | refine NnK.mk (by omega) ?_ | refine BdK.mk (by omega) (by omega) (by omega) ?_ | refine InsK.lit (by omega) (by omega) ?_ | refine SpK.lit ?_ | refine GrdK.same ?_ | refine GrdK.tf ?_ | refine GrdK.ft ?_ | refine PickK.t ?_ | refine PickK.f ?_); (conv => whnf))
    refine Wp.loop (fun k : Nat => [(0, .slice A n c), (1, .slice B n c'), (12, vI n), (13, vI k)]) (fun _ => []) (fun k => k ≤ n ∧ xs.take k = ys.take k) (fun k => n - k) 0
      ⟨rfl, rfl, rfl, rfl, trivial⟩ (HSub.refl _) ⟨Nat.zero_le _, rfl⟩ fun k ⟨hk, he⟩ => ?_
    (conv => whnf); repeat ((first | refine RngK.mk (by omega) (by omega) ?_ | refine NzK.mk (by omega) ?_ | refine NnK.mk (by omega) ?_ | refine BdK.mk (by omega) (by omega) (by omega) ?_ | refine InsK.lit (by omega) (by omega) ?_ | refine SpK.lit ?_ | refine GrdK.same ?_ | refine GrdK.tf ?_ | refine GrdK.ft ?_ | refine PickK.t ?_ | refine PickK.f ?_); (conv => whnf))
    refine Wp.cond rfl (fun h3 => ?_) (fun h3 => ?_)
    · have h3 := dT h3
      have hx : k < xs.length := by omega
      have hy : k < ys.length := by omega
      (conv => whnf); repeat ((first | refine RngK.mk (by omega) (by omega) ?_ | refine NzK.mk (by omega) ?_ | refine NnK.mk (by omega) ?_ | refine BdK.mk (by omega) (by omega) (by omega) ?_ | refine InsK.lit (by omega) (by omega) ?_ | refine SpK.lit ?_ | refine GrdK.same ?_ | refine GrdK.tf ?_ | refine GrdK.ft ?_ | refine PickK.t ?_ | refine PickK.f ?_); (conv => whnf))
      refine DrwK.ord (by kernel_rfl) (List.range 9) (by kernel_rfl) ?_; conv => whnf
      (conv => whnf); repeat ((first | refine RngK.mk (by omega) (by omega) ?_ | refine NzK.mk (by omega) ?_ | refine NnK.mk (by omega) ?_ | refine BdK.mk (by omega) (by omega) (by omega) ?_ | refine InsK.lit (by omega) (by omega) ?_ | refine SpK.lit ?_ | refine GrdK.same ?_ | refine GrdK.tf ?_ | refine GrdK.ft ?_ | refine PickK.t ?_ | refine PickK.f ?_); (conv => whnf))
      refine InsK.rd h1 (by omega) (by omega) ?_
      (conv => whnf); repeat ((first | refine RngK.mk (by omega) (by omega) ?_ | refine NzK.mk (by omega) ?_ | refine NnK.mk (by omega) ?_ | refine BdK.mk (by omega) (by omega) (by omega) ?_ | refine InsK.lit (by omega) (by omega) ?_ | refine SpK.lit ?_ | refine GrdK.same ?_ | refine GrdK.tf ?_ | refine GrdK.ft ?_ | refine PickK.t ?_ | refine PickK.f ?_); (conv => whnf))
      refine LdK.rd (v := vI xs[k]) h1 k rfl rfl rfl (by simp [hx]) ?_
      (conv => whnf); repeat ((first | refine RngK.mk (by omega) (by omega) ?_ | refine NzK.mk (by omega) ?_ | refine NnK.mk (by omega) ?_ | refine BdK.mk (by omega) (by omega) (by omega) ?_ | refine InsK.lit (by omega) (by omega) ?_ | refine SpK.lit ?_ | refine GrdK.same ?_ | refine GrdK.tf ?_ | refine GrdK.ft ?_ | refine PickK.t ?_ | refine PickK.f ?_); (conv => whnf))
      refine InsK.rd h2 (by omega) (by omega) ?_
      (conv => whnf); repeat ((first | refine RngK.mk (by omega) (by omega) ?_ | refine NzK.mk (by omega) ?_ | refine NnK.mk (by omega) ?_ | refine BdK.mk (by omega) (by omega) (by omega) ?_ | refine InsK.lit (by omega) (by omega) ?_ | refine SpK.lit ?_ | refine GrdK.same ?_ | refine GrdK.tf ?_ | refine GrdK.ft ?_ | refine PickK.t ?_ | refine PickK.f ?_); (conv => whnf))
      refine LdK.rd (v := vI ys[k]) h2 k rfl rfl rfl (by simp [hy]) ?_
      (conv => whnf); repeat ((first | refine RngK.mk (by omega) (by omega) ?_ | refine NzK.mk (by omega) ?_ | refine NnK.mk (by omega) ?_ | refine BdK.mk (by omega) (by omega) (by omega) ?_ | refine InsK.lit (by omega) (by omega) ?_ | refine SpK.lit ?_ | refine GrdK.same ?_ | refine GrdK.tf ?_ | refine GrdK.ft ?_ | refine PickK.t ?_ | refine PickK.f ?_); (conv => whnf))
      refine Wp.cond rfl (fun h4 => ?_) (fun h4 => ?_)
      · have h4 := neT h4
        (conv => whnf); repeat ((first | refine RngK.mk (by omega) (by omega) ?_ | refine NzK.mk (by omega) ?_ | refine NnK.mk (by omega) ?_ | refine BdK.mk (by omega) (by omega) (by omega) ?_ | refine InsK.lit (by omega) (by omega) ?_ | refine SpK.lit ?_ | refine GrdK.same ?_ | refine GrdK.tf ?_ | refine GrdK.ft ?_ | refine PickK.t ?_ | refine PickK.f ?_); (conv => whnf))
        have : decide (xs = ys) = false := by
          simp only [decide_eq_false_iff_not]
          rintro rfl
          exact h4 rfl
        exact ⟨by rw [this], rfl⟩
      · have h4 := neF h4
        (conv => whnf); repeat ((first | refine RngK.mk (by omega) (by omega) ?_ | refine NzK.mk (by omega) ?_ | refine NnK.mk (by omega) ?_ | refine BdK.mk (by omega) (by omega) (by omega) ?_ | refine InsK.lit (by omega) (by omega) ?_ | refine SpK.lit ?_ | refine GrdK.same ?_ | refine GrdK.tf ?_ | refine GrdK.ft ?_ | refine PickK.t ?_ | refine PickK.f ?_); (conv => whnf))
        refine ⟨k + 1, ⟨rfl, rfl, rfl, rfl, trivial⟩, HSub.refl _, ⟨by omega, ?_⟩, by omega⟩
        rw [List.take_succ_eq_append_getElem hx, List.take_succ_eq_append_getElem hy, he, h4]
    · have h3 := dF h3
      (conv => whnf); repeat ((first | refine RngK.mk (by omega) (by omega) ?_ | refine NzK.mk (by omega) ?_ | refine NnK.mk (by omega) ?_ | refine BdK.mk (by omega) (by omega) (by omega) ?_ | refine InsK.lit (by omega) (by omega) ?_ | refine SpK.lit ?_ | refine GrdK.same ?_ | refine GrdK.tf ?_ | refine GrdK.ft ?_ | refine PickK.t ?_ | refine PickK.f ?_); (conv => whnf))
      rw [List.take_of_length_le (by omega), List.take_of_length_le (by omega)] at he
      subst he
      exact ⟨by simp, rfl⟩
end Go.Proofs.YtagcmlbpppmbfaaDoor
