/- How many bits a number has. -/
import Derived.Test.YtgdhdkjbilifiaaDoorSize
import Derived.Test.YtgdhdkjbilifiaaDoorBits
namespace Go.Proofs.YtgdhdkjbilifiaaDoor
open Go Go.Sx
set_option maxRecDepth 100000
/-- how many bits a number has -/
def wd (n : Nat) : Nat := if n = 0 then 0 else n.log2 + 1
theorem wd_half {n : Nat} (h : 0 < n) : wd n = wd (n / 2) + 1 := by
  unfold wd
  rw [if_neg (by omega)]
  by_cases h1 : n = 1
  · subst h1; rfl
  · rw [if_neg (by omega), Nat.log2_def, if_pos (by omega)]
theorem wd_lt {n k : Nat} (h : n < 2 ^ k) : wd n ≤ k := by
  unfold wd
  split
  · omega
  · rename_i h0
    have := (Nat.log2_lt h0).2 h
    omega
theorem wd_pos {n : Nat} (h : 0 < n) : 0 < wd n := by
  unfold wd
  rw [if_neg (by omega)]
  omega
theorem width_spec (n : Nat) (h : n < 2 ^ 62) : FnS Tryd.prog 38 [vI n] [] (fun _ => True) (Is (vI (wd n))) := by
  refine FnS.intro Tryd.func38 rfl (by kernel_rfl) rfl fun w hH _ => ?_
  (conv => whnf); repeat ((first | refine RngK.mk (by omega) (by omega) ?_ | refine NzK.mk (by omega) ?_ | refine NnK.mk (by omega) ?_ | refine BdK.mk (by omega) (by omega) (by omega) ?_ | refine InsK.lit (by omega) (by omega) ?_ | refine SpK.lit ?_ | refine GrdK.same ?_ | refine GrdK.tf ?_ | refine GrdK.ft ?_ | refine PickK.t ?_ | refine PickK.f ?_); (conv => whnf))
  refine Wp.loop (fun s : Nat × Nat => [(0, vI s.1), (3, vI s.2)]) (fun _ => []) (fun s => s.1 < 2 ^ 62 ∧ s.2 + wd s.1 = wd n) (fun s => s.1) (n, 0) ⟨rfl, rfl, trivial⟩ (HSub.refl _) ⟨h, by simp⟩ fun ⟨m, k⟩ ⟨h1, h2⟩ => ?_
  dsimp only at h1 h2 ⊢
  have hw : wd n ≤ 62 := wd_lt h
  (conv => whnf); repeat ((first | refine RngK.mk (by omega) (by omega) ?_ | refine NzK.mk (by omega) ?_ | refine NnK.mk (by omega) ?_ | refine BdK.mk (by omega) (by omega) (by omega) ?_ | refine InsK.lit (by omega) (by omega) ?_ | refine SpK.lit ?_ | refine GrdK.same ?_ | refine GrdK.tf ?_ | refine GrdK.ft ?_ | refine PickK.t ?_ | refine PickK.f ?_); (conv => whnf))
  refine Wp.cond rfl (fun g => ?_) (fun g => ?_)
  · have g := dT g
    have hm : 0 < m := by omega
    rw [wd_half hm] at h2
    (conv => whnf); repeat ((first | refine RngK.mk (by omega) (by omega) ?_ | refine NzK.mk (by omega) ?_ | refine NnK.mk (by omega) ?_ | refine BdK.mk (by omega) (by omega) (by omega) ?_ | refine InsK.lit (by omega) (by omega) ?_ | refine SpK.lit ?_ | refine GrdK.same ?_ | refine GrdK.tf ?_ | refine GrdK.ft ?_ | refine PickK.t ?_ | refine PickK.f ?_); (conv => whnf))
    refine RngK.mk ?_ ?_ ?_
    · rw [Int.tdiv_eq_ediv_of_nonneg (by omega)]; omega
    · rw [Int.tdiv_eq_ediv_of_nonneg (by omega)]; omega
    (conv => whnf); repeat ((first | refine RngK.mk (by omega) (by omega) ?_ | refine NzK.mk (by omega) ?_ | refine NnK.mk (by omega) ?_ | refine BdK.mk (by omega) (by omega) (by omega) ?_ | refine InsK.lit (by omega) (by omega) ?_ | refine SpK.lit ?_ | refine GrdK.same ?_ | refine GrdK.tf ?_ | refine GrdK.ft ?_ | refine PickK.t ?_ | refine PickK.f ?_); (conv => whnf))
    rw [Int.tdiv_eq_ediv_of_nonneg (show (0 : Int) ≤ (m : Int) by omega)]
    exact ⟨(m / 2, k + 1), ⟨rfl, rfl, trivial⟩, HSub.refl _, ⟨by simp only; omega, by simp only; omega⟩, by simp only; omega⟩
  · have g := dF g
    have hm : m = 0 := by omega
    subst hm
    (conv => whnf); repeat ((first | refine RngK.mk (by omega) (by omega) ?_ | refine NzK.mk (by omega) ?_ | refine NnK.mk (by omega) ?_ | refine BdK.mk (by omega) (by omega) (by omega) ?_ | refine InsK.lit (by omega) (by omega) ?_ | refine SpK.lit ?_ | refine GrdK.same ?_ | refine GrdK.tf ?_ | refine GrdK.ft ?_ | refine PickK.t ?_ | refine PickK.f ?_); (conv => whnf))
    have : k = wd n := by simpa [wd] using h2
    subst this
    exact ⟨rfl, rfl⟩
end Go.Proofs.YtgdhdkjbilifiaaDoor
