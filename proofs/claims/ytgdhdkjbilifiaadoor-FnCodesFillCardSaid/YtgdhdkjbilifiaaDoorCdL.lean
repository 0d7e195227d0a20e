/- How many bits a number of 32 bits has. -/
import Derived.Test.YtgdhdkjbilifiaaDoorStP
namespace Go.Proofs.YtgdhdkjbilifiaaDoor
open Go Go.Sx
set_option maxRecDepth 100000
theorem wd_step {x k : Nat} (h : 2 ^ k ≤ x) : wd x = k + wd (x / 2 ^ k) := by
  have h1 := wd_div k x
  have h2 : k < wd x := by
    apply Decidable.byContradiction
    intro hn
    have h1 := (wd_bounds (n := x) (by have := Nat.two_pow_pos k; omega)).2
    have : 2 ^ wd x ≤ 2 ^ k := Nat.pow_le_pow_right (by omega) (by omega)
    omega
  omega
theorem len32_spec (x : Nat) (hx : x < 4294967296) : FnS Tryd.prog 84 [.int .u32 x] [] (fun _ => True) (Is (vI (wd x))) := by
  refine FnS.intro Tryd.func84 rfl (by kernel_rfl) rfl fun w hH _ => ?_
  have hb : ∀ y, wd y ≤ 8 → (UInt8.ofNat (wd y)).toNat = wd y := fun y hw => UInt8.toNat_ofNat_of_lt' (by simp [UInt8.size]; omega)
  (conv => whnf); repeat ((first | refine RngK.mk (by omega) (by omega) ?_ | refine NzK.mk (by omega) ?_ | refine NnK.mk (by omega) ?_ | refine BdK.mk (by omega) (by omega) (by omega) ?_ | refine InsK.lit (by omega) (by omega) ?_ | refine SpK.lit ?_ | refine GrdK.same ?_ | refine GrdK.tf ?_ | refine GrdK.ft ?_ | refine PickK.t ?_ | refine PickK.f ?_); (conv => whnf))
  refine Wp.cut (fun t : Nat × Nat => [(0, .int .u32 t.1), (2, vN t.2)]) (fun _ => []) (fun t => t.1 < 65536 ∧ t.2 + wd t.1 = wd x ∧ t.2 ≤ 16) ?_ fun ⟨y, k⟩ ⟨h1, h2, h3⟩ => ?_
  · refine Wp.cond rfl (fun h => ?_) (fun h => ?_)
    · have h : (x : Int) ≥ 65536 := dT h
      have e8 : ishr .u32 (x : Int) 16 = ((x / 2 ^ 16 : Nat) : Int) := ishr_nat .u32 x (n := 16) (by decide)
      have ew := wd_step (x := x) (k := 16) (by omega)
      (conv => whnf); repeat ((first | refine RngK.mk (by omega) (by omega) ?_ | refine NzK.mk (by omega) ?_ | refine NnK.mk (by omega) ?_ | refine BdK.mk (by omega) (by omega) (by omega) ?_ | refine InsK.lit (by omega) (by omega) ?_ | refine SpK.lit ?_ | refine GrdK.same ?_ | refine GrdK.tf ?_ | refine GrdK.ft ?_ | refine PickK.t ?_ | refine PickK.f ?_); (conv => whnf))
      rw [e8]
      exact ⟨(x / 2 ^ 16, 16), ⟨rfl, rfl, trivial⟩, HSub.refl _, by simp only; omega, by simp only; omega, by simp only; omega⟩
    · have h : ¬ (x : Int) ≥ 65536 := dF h
      (conv => whnf); repeat ((first | refine RngK.mk (by omega) (by omega) ?_ | refine NzK.mk (by omega) ?_ | refine NnK.mk (by omega) ?_ | refine BdK.mk (by omega) (by omega) (by omega) ?_ | refine InsK.lit (by omega) (by omega) ?_ | refine SpK.lit ?_ | refine GrdK.same ?_ | refine GrdK.tf ?_ | refine GrdK.ft ?_ | refine PickK.t ?_ | refine PickK.f ?_); (conv => whnf))
      exact ⟨(x, 0), ⟨rfl, rfl, trivial⟩, HSub.refl _, by simp only; omega, by simp only; omega, by simp only; omega⟩
  dsimp only at h1 h2 h3 ⊢
  (conv => whnf); repeat ((first | refine RngK.mk (by omega) (by omega) ?_ | refine NzK.mk (by omega) ?_ | refine NnK.mk (by omega) ?_ | refine BdK.mk (by omega) (by omega) (by omega) ?_ | refine InsK.lit (by omega) (by omega) ?_ | refine SpK.lit ?_ | refine GrdK.same ?_ | refine GrdK.tf ?_ | refine GrdK.ft ?_ | refine PickK.t ?_ | refine PickK.f ?_); (conv => whnf))
  refine Wp.cut (fun t : Nat × Nat => [(0, .int .u32 t.1), (2, vN t.2)]) (fun _ => []) (fun t => t.1 < 256 ∧ t.2 + wd t.1 = wd x ∧ t.2 ≤ 24) ?_ fun ⟨z, k2⟩ ⟨g1, g2, g3⟩ => ?_
  · refine Wp.cond rfl (fun h => ?_) (fun h => ?_)
    · have h : (y : Int) ≥ 256 := dT h
      have e8 : ishr .u32 (y : Int) 8 = ((y / 2 ^ 8 : Nat) : Int) := ishr_nat .u32 y (n := 8) (by decide)
      have ew := wd_step (x := y) (k := 8) (by omega)
      (conv => whnf); repeat ((first | refine RngK.mk (by omega) (by omega) ?_ | refine NzK.mk (by omega) ?_ | refine NnK.mk (by omega) ?_ | refine BdK.mk (by omega) (by omega) (by omega) ?_ | refine InsK.lit (by omega) (by omega) ?_ | refine SpK.lit ?_ | refine GrdK.same ?_ | refine GrdK.tf ?_ | refine GrdK.ft ?_ | refine PickK.t ?_ | refine PickK.f ?_); (conv => whnf))
      rw [e8]
      exact ⟨(y / 2 ^ 8, k + 8), ⟨rfl, rfl, trivial⟩, HSub.refl _, by simp only; omega, by simp only; omega, by simp only; omega⟩
    · have h : ¬ (y : Int) ≥ 256 := dF h
      (conv => whnf); repeat ((first | refine RngK.mk (by omega) (by omega) ?_ | refine NzK.mk (by omega) ?_ | refine NnK.mk (by omega) ?_ | refine BdK.mk (by omega) (by omega) (by omega) ?_ | refine InsK.lit (by omega) (by omega) ?_ | refine SpK.lit ?_ | refine GrdK.same ?_ | refine GrdK.tf ?_ | refine GrdK.ft ?_ | refine PickK.t ?_ | refine PickK.f ?_); (conv => whnf))
      exact ⟨(y, k), ⟨rfl, rfl, trivial⟩, HSub.refl _, by simp only; omega, by simp only; omega, by simp only; omega⟩
  dsimp only at g1 g2 g3 ⊢
  have hw : wd z ≤ 8 := wd_lt g1
  have hwr : IntKind.u8.wrap (z : Int) = (z : Int) := wrap_u_lt rfl g1
  (conv => whnf); repeat ((first | refine RngK.mk (by omega) (by omega) ?_ | refine NzK.mk (by omega) ?_ | refine NnK.mk (by omega) ?_ | refine BdK.mk (by omega) (by omega) (by omega) ?_ | refine InsK.lit (by omega) (by omega) ?_ | refine SpK.lit ?_ | refine GrdK.same ?_ | refine GrdK.tf ?_ | refine GrdK.ft ?_ | refine PickK.t ?_ | refine PickK.f ?_); (conv => whnf))
  rw [hwr]
  refine ⟨UInt8.ofNat (wd z), by omega, ?_, ?_⟩
  · have e : ((z : Int)).toNat = z := by omega
    rw [e]
    rename_i q
    clear hw hwr g2 e q
    revert z
    decide +kernel
  rw [hb z hw]
  (conv => whnf); repeat ((first | refine RngK.mk (by omega) (by omega) ?_ | refine NzK.mk (by omega) ?_ | refine NnK.mk (by omega) ?_ | refine BdK.mk (by omega) (by omega) (by omega) ?_ | refine InsK.lit (by omega) (by omega) ?_ | refine SpK.lit ?_ | refine GrdK.same ?_ | refine GrdK.tf ?_ | refine GrdK.ft ?_ | refine PickK.t ?_ | refine PickK.f ?_); (conv => whnf))
  refine ⟨?_, rfl⟩
  show Value.int _ _ = Value.int _ _
  congr 1
  omega
theorem lz32_spec (x : Nat) (hx : x < 4294967296) : FnS Tryd.prog 71 [.int .u32 x] [] (fun _ => True) (Is (vI ((32 - wd x : Nat) : Int))) := by
  have hw : wd x ≤ 32 := wd_lt hx
  refine FnS.intro Tryd.func71 rfl (by kernel_rfl) rfl fun w hH _ => ?_
  (conv => whnf); repeat ((first | refine RngK.mk (by omega) (by omega) ?_ | refine NzK.mk (by omega) ?_ | refine NnK.mk (by omega) ?_ | refine BdK.mk (by omega) (by omega) (by omega) ?_ | refine InsK.lit (by omega) (by omega) ?_ | refine SpK.lit ?_ | refine GrdK.same ?_ | refine GrdK.tf ?_ | refine GrdK.ft ?_ | refine PickK.t ?_ | refine PickK.f ?_); (conv => whnf))
  refine CallK.of0 (len32_spec x hx) ?_
  rintro _ _ ⟨rfl, rfl⟩
  (conv => whnf); repeat ((first | refine RngK.mk (by omega) (by omega) ?_ | refine NzK.mk (by omega) ?_ | refine NnK.mk (by omega) ?_ | refine BdK.mk (by omega) (by omega) (by omega) ?_ | refine InsK.lit (by omega) (by omega) ?_ | refine SpK.lit ?_ | refine GrdK.same ?_ | refine GrdK.tf ?_ | refine GrdK.ft ?_ | refine PickK.t ?_ | refine PickK.f ?_); (conv => whnf))
  refine ⟨?_, rfl⟩
  show Value.int .i64 _ = Value.int .i64 _
  congr 1
  omega
end Go.Proofs.YtgdhdkjbilifiaaDoor
