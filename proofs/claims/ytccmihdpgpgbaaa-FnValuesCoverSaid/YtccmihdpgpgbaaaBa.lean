/- Bits at a place, sizes taken into a range, rows of numbers that are the same. -/
import Derived.Test.YtccmihdpgpgbaaaSize
import Derived.Test.YtccmihdpgpgbaaaEq
import Derived.Test.YtccmihdpgpgbaaaBitM
namespace Go.Proofs.Ytccmihdpgpgbaaa
open Go Go.Sx
set_option maxRecDepth 100000
theorem mod_spec (n k : Int) (hk : 0 < k) (hk2 : k ≤ 1000000000) : FnS Try.prog 5 [vI n, vI k] [] (fun _ => True) (Is (vI (n % k))) := by
  refine FnS.intro Try.func5 rfl (by kernel_rfl) rfl fun w hH _ => ?_
  have h1 := Int.tmod_lt_of_pos n hk
  have h2 := Int.lt_tmod_of_pos n hk
  (conv => whnf); repeat ((first | refine RngK.mk (by omega) (by omega) ?_ | refine NzK.mk (by omega) ?_ | refine NnK.mk (by omega) ?_ | refine BdK.mk (by omega) (by omega) (by omega) ?_ | refine InsK.lit (by omega) (by omega) ?_ | refine SpK.lit ?_ | refine GrdK.same ?_ | refine GrdK.tf ?_ | refine GrdK.ft ?_ | refine PickK.t ?_ | refine PickK.f ?_); (conv => whnf))
  exact ⟨by rw [mod17 n k hk], rfl⟩
end Go.Proofs.Ytccmihdpgpgbaaa
