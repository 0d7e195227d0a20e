/- The reader that goes backward: its functions. -/
import Derived.Test.YtagcmlbpppmbfaaDoorBb
namespace Go.Proofs.YtagcmlbpppmbfaaDoor
open Go Go.Sx
set_option maxRecDepth 100000
/-- how many bits a number has -/
def wd (n : Nat) : Nat := if n = 0 then 0 else n.log2 + 1
theorem wd_half {n : Nat} (h : 0 < n) : wd n = wd (n / 2) + 1 := by
  unfold wd
  rw [if_neg (by omega)]
  by_cases h1 : n = 1
  · subst h1; rfl
  · rw [if_neg (by omega), Nat.log2_def, if_pos (by omega)]
theorem wd_lt {n k : Nat} (h : n < 2 ^ k) : wd n ≤ k := by
  unfold wd
  split
  · omega
  · rename_i h0
    have := (Nat.log2_lt h0).2 h
    omega
theorem wd_pos {n : Nat} (h : 0 < n) : 0 < wd n := by
  unfold wd
  rw [if_neg (by omega)]
  omega
theorem width_spec (n : Nat) (h : n < 2 ^ 62) : FnS Tryd.prog 37 [vI n] [] (fun _ => True) (Is (vI (wd n))) := by
  refine FnS.intro Tryd.func37 rfl (by kernel_rfl) rfl fun w hH _ => ?_
  (conv => whnf); repeat ((first | refine RngK.mk (by omega) (by omega) ?_ | refine NzK.mk (by omega) ?_ | refine NnK.mk (by omega) ?_ | refine BdK.mk (by omega) (by omega) (by omega) ?_ | refine InsK.lit (by omega) (by omega) ?_ | refine SpK.lit ?_ | refine GrdK.same ?_ | refine GrdK.tf ?_ | refine GrdK.ft ?_ | refine PickK.t ?_ | refine PickK.f ?_); (conv => whnf))
  refine Wp.loop (fun s : Nat × Nat => [(0, vI s.1), (3, vI s.2)]) (fun _ => []) (fun s => s.1 < 2 ^ 62 ∧ s.2 + wd s.1 = wd n) (fun s => s.1) (n, 0) ⟨rfl, rfl, trivial⟩ (HSub.refl _) ⟨h, by simp⟩ fun ⟨m, k⟩ ⟨h1, h2⟩ => ?_
  dsimp only at h1 h2 ⊢
  have hw : wd n ≤ 62 := wd_lt h
  (conv => whnf); repeat ((first | refine RngK.mk (by omega) (by omega) ?_ | refine NzK.mk (by omega) ?_ | refine NnK.mk (by omega) ?_ | refine BdK.mk (by omega) (by omega) (by omega) ?_ | refine InsK.lit (by omega) (by omega) ?_ | refine SpK.lit ?_ | refine GrdK.same ?_ | refine GrdK.tf ?_ | refine GrdK.ft ?_ | refine PickK.t ?_ | refine PickK.f ?_); (conv => whnf))
  refine Wp.cond rfl (fun g => ?_) (fun g => ?_)
  · have g := dT g
    have hm : 0 < m := by omega
    rw [wd_half hm] at h2
    (conv => whnf); repeat ((first | refine RngK.mk (by omega) (by omega) ?_ | refine NzK.mk (by omega) ?_ | refine NnK.mk (by omega) ?_ | refine BdK.mk (by omega) (by omega) (by omega) ?_ | refine InsK.lit (by omega) (by omega) ?_ | refine SpK.lit ?_ | refine GrdK.same ?_ | refine GrdK.tf ?_ | refine GrdK.ft ?_ | refine PickK.t ?_ | refine PickK.f ?_); (conv => whnf))
    refine RngK.mk ?_ ?_ ?_
    · rw [Int.tdiv_eq_ediv_of_nonneg (by omega)]; omega
    · rw [Int.tdiv_eq_ediv_of_nonneg (by omega)]; omega
    (conv => whnf); repeat ((first | refine RngK.mk (by omega) (by omega) ?_ | refine NzK.mk (by omega) ?_ | refine NnK.mk (by omega) ?_ | refine BdK.mk (by omega) (by omega) (by omega) ?_ | refine InsK.lit (by omega) (by omega) ?_ | refine SpK.lit ?_ | refine GrdK.same ?_ | refine GrdK.tf ?_ | refine GrdK.ft ?_ | refine PickK.t ?_ | refine PickK.f ?_); (conv => whnf))
    rw [Int.tdiv_eq_ediv_of_nonneg (show (0 : Int) ≤ (m : Int) by omega)]
    exact ⟨(m / 2, k + 1), ⟨rfl, rfl, trivial⟩, HSub.refl _, ⟨by simp only; omega, by simp only; omega⟩, by simp only; omega⟩
  · have g := dF g
    have hm : m = 0 := by omega
    subst hm
    (conv => whnf); repeat ((first | refine RngK.mk (by omega) (by omega) ?_ | refine NzK.mk (by omega) ?_ | refine NnK.mk (by omega) ?_ | refine BdK.mk (by omega) (by omega) (by omega) ?_ | refine InsK.lit (by omega) (by omega) ?_ | refine SpK.lit ?_ | refine GrdK.same ?_ | refine GrdK.tf ?_ | refine GrdK.ft ?_ | refine PickK.t ?_ | refine PickK.f ?_); (conv => whnf))
    have : k = wd n := by simpa [wd] using h2
    subst this
    exact ⟨rfl, rfl⟩
theorem topOf_spec (A : Option Addr) (n c o : Nat) (bs : List UInt8) (ho : o < bs.length) (hn : n ≤ 16777216) : FnS Tryd.prog 28 [.slice A n c, vI o] [] (fun w => Bytes w (blocks []) A n c bs)
    (Is (if bs[o].toNat = 0 then vI (-1) else vI ((8 * o + wd bs[o].toNat - 1 : Nat) : Int))) := by
  refine FnS.intro Tryd.func28 rfl (by kernel_rfl) rfl fun w hH hp => ?_
  obtain rfl : bs.length = n := hp.len
  (conv => whnf); repeat ((first | refine RngK.mk (by omega) (by omega) ?_ | refine NzK.mk (by omega) ?_ | refine NnK.mk (by omega) ?_ | refine BdK.mk (by omega) (by omega) (by omega) ?_ | refine InsK.lit (by omega) (by omega) ?_ | refine SpK.lit ?_ | refine GrdK.same ?_ | refine GrdK.tf ?_ | refine GrdK.ft ?_ | refine PickK.t ?_ | refine PickK.f ?_); (conv => whnf))
  refine InsK.rd hp.rd (by omega) (by omega) ?_
  (conv => whnf); repeat ((first | refine RngK.mk (by omega) (by omega) ?_ | refine NzK.mk (by omega) ?_ | refine NnK.mk (by omega) ?_ | refine BdK.mk (by omega) (by omega) (by omega) ?_ | refine InsK.lit (by omega) (by omega) ?_ | refine SpK.lit ?_ | refine GrdK.same ?_ | refine GrdK.tf ?_ | refine GrdK.ft ?_ | refine PickK.t ?_ | refine PickK.f ?_); (conv => whnf))
  refine LdK.rd (v := vU8 bs[o]) hp.rd o rfl rfl rfl (by simp [ho]) ?_
  (conv => whnf); repeat ((first | refine RngK.mk (by omega) (by omega) ?_ | refine NzK.mk (by omega) ?_ | refine NnK.mk (by omega) ?_ | refine BdK.mk (by omega) (by omega) (by omega) ?_ | refine InsK.lit (by omega) (by omega) ?_ | refine SpK.lit ?_ | refine GrdK.same ?_ | refine GrdK.tf ?_ | refine GrdK.ft ?_ | refine PickK.t ?_ | refine PickK.f ?_); (conv => whnf))
  refine Wp.cond rfl (fun g => ?_) (fun g => ?_)
  · have g := eqT g
    rw [if_pos (by omega)]
    (conv => whnf); repeat ((first | refine RngK.mk (by omega) (by omega) ?_ | refine NzK.mk (by omega) ?_ | refine NnK.mk (by omega) ?_ | refine BdK.mk (by omega) (by omega) (by omega) ?_ | refine InsK.lit (by omega) (by omega) ?_ | refine SpK.lit ?_ | refine GrdK.same ?_ | refine GrdK.tf ?_ | refine GrdK.ft ?_ | refine PickK.t ?_ | refine PickK.f ?_); (conv => whnf))
    exact ⟨rfl, rfl⟩
  · have g := eqF g
    have hb : 0 < bs[o].toNat := by omega
    have hb2 := bs[o].toNat_lt
    have hw : wd bs[o].toNat ≤ 8 := wd_lt (by omega)
    have hw2 := wd_pos hb
    rw [if_neg (by omega)]
    (conv => whnf); repeat ((first | refine RngK.mk (by omega) (by omega) ?_ | refine NzK.mk (by omega) ?_ | refine NnK.mk (by omega) ?_ | refine BdK.mk (by omega) (by omega) (by omega) ?_ | refine InsK.lit (by omega) (by omega) ?_ | refine SpK.lit ?_ | refine GrdK.same ?_ | refine GrdK.tf ?_ | refine GrdK.ft ?_ | refine PickK.t ?_ | refine PickK.f ?_); (conv => whnf))
    refine InsK.rd hp.rd (by omega) (by omega) ?_
    (conv => whnf); repeat ((first | refine RngK.mk (by omega) (by omega) ?_ | refine NzK.mk (by omega) ?_ | refine NnK.mk (by omega) ?_ | refine BdK.mk (by omega) (by omega) (by omega) ?_ | refine InsK.lit (by omega) (by omega) ?_ | refine SpK.lit ?_ | refine GrdK.same ?_ | refine GrdK.tf ?_ | refine GrdK.ft ?_ | refine PickK.t ?_ | refine PickK.f ?_); (conv => whnf))
    refine LdK.rd (v := vU8 bs[o]) hp.rd o rfl rfl rfl (by simp [ho]) ?_
    (conv => whnf); repeat ((first | refine RngK.mk (by omega) (by omega) ?_ | refine NzK.mk (by omega) ?_ | refine NnK.mk (by omega) ?_ | refine BdK.mk (by omega) (by omega) (by omega) ?_ | refine InsK.lit (by omega) (by omega) ?_ | refine SpK.lit ?_ | refine GrdK.same ?_ | refine GrdK.tf ?_ | refine GrdK.ft ?_ | refine PickK.t ?_ | refine PickK.f ?_); (conv => whnf))
    refine CallK.of0 (width_spec bs[o].toNat (by omega)) ?_
    rintro _ _ ⟨rfl, rfl⟩
    (conv => whnf); repeat ((first | refine RngK.mk (by omega) (by omega) ?_ | refine NzK.mk (by omega) ?_ | refine NnK.mk (by omega) ?_ | refine BdK.mk (by omega) (by omega) (by omega) ?_ | refine InsK.lit (by omega) (by omega) ?_ | refine SpK.lit ?_ | refine GrdK.same ?_ | refine GrdK.tf ?_ | refine GrdK.ft ?_ | refine PickK.t ?_ | refine PickK.f ?_); (conv => whnf))
    refine ⟨?_, rfl⟩
    show Value.int .i64 _ = Value.int .i64 _
    congr 1
    omega
theorem len8_spec (x : UInt8) : FnS Tryd.prog 44 [vU8 x] [] (fun _ => True) (Is (vI (wd x.toNat))) := by
  refine FnS.intro Tryd.func44 rfl (by kernel_rfl) rfl fun w hH _ => ?_
  (conv => whnf); repeat ((first | refine RngK.mk (by omega) (by omega) ?_ | refine NzK.mk (by omega) ?_ | refine NnK.mk (by omega) ?_ | refine BdK.mk (by omega) (by omega) (by omega) ?_ | refine InsK.lit (by omega) (by omega) ?_ | refine SpK.lit ?_ | refine GrdK.same ?_ | refine GrdK.tf ?_ | refine GrdK.ft ?_ | refine PickK.t ?_ | refine PickK.f ?_); (conv => whnf))
  refine ⟨UInt8.ofNat (wd x.toNat), by omega, ?_, ?_⟩
  · have e : ((x.toNat : Int)).toNat = x.toNat := by omega
    rw [e]
    have hx := x.toNat_lt
    generalize x.toNat = y at hx ⊢
    revert y
    decide +kernel
  have hw : wd x.toNat ≤ 8 := wd_lt x.toNat_lt
  have e : (UInt8.ofNat (wd x.toNat)).toNat = wd x.toNat := UInt8.toNat_ofNat_of_lt' (by simp [UInt8.size]; omega)
  rw [e]
  (conv => whnf); repeat ((first | refine RngK.mk (by omega) (by omega) ?_ | refine NzK.mk (by omega) ?_ | refine NnK.mk (by omega) ?_ | refine BdK.mk (by omega) (by omega) (by omega) ?_ | refine InsK.lit (by omega) (by omega) ?_ | refine SpK.lit ?_ | refine GrdK.same ?_ | refine GrdK.tf ?_ | refine GrdK.ft ?_ | refine PickK.t ?_ | refine PickK.f ?_); (conv => whnf))
  exact ⟨rfl, rfl⟩
theorem lz8_spec (x : UInt8) : FnS Tryd.prog 41 [vU8 x] [] (fun _ => True) (Is (vI ((8 - wd x.toNat : Nat) : Int))) := by
  have hw : wd x.toNat ≤ 8 := wd_lt x.toNat_lt
  refine FnS.intro Tryd.func41 rfl (by kernel_rfl) rfl fun w hH _ => ?_
  (conv => whnf); repeat ((first | refine RngK.mk (by omega) (by omega) ?_ | refine NzK.mk (by omega) ?_ | refine NnK.mk (by omega) ?_ | refine BdK.mk (by omega) (by omega) (by omega) ?_ | refine InsK.lit (by omega) (by omega) ?_ | refine SpK.lit ?_ | refine GrdK.same ?_ | refine GrdK.tf ?_ | refine GrdK.ft ?_ | refine PickK.t ?_ | refine PickK.f ?_); (conv => whnf))
  refine CallK.of0 (len8_spec x) ?_
  rintro _ _ ⟨rfl, rfl⟩
  (conv => whnf); repeat ((first | refine RngK.mk (by omega) (by omega) ?_ | refine NzK.mk (by omega) ?_ | refine NnK.mk (by omega) ?_ | refine BdK.mk (by omega) (by omega) (by omega) ?_ | refine InsK.lit (by omega) (by omega) ?_ | refine SpK.lit ?_ | refine GrdK.same ?_ | refine GrdK.tf ?_ | refine GrdK.ft ?_ | refine PickK.t ?_ | refine PickK.f ?_); (conv => whnf))
  refine ⟨?_, rfl⟩
  show Value.int .i64 _ = Value.int .i64 _
  congr 1
  omega
end Go.Proofs.YtagcmlbpppmbfaaDoor
