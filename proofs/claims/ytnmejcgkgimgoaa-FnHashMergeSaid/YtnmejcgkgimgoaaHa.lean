/- The steps of the checksum: what each function returns. -/
import Derived.Test.YtnmejcgkgimgoaaRows
import Derived.Test.YtnmejcgkgimgoaaU64
import Derived.Test.YtnmejcgkgimgoaaSize
import Derived.KernelRfl
namespace Go.Proofs.Ytnmejcgkgimgoaa
open Go Go.Sx
theorem turned_spec (x : UInt64) (n : Nat) (h1 : n ≤ 64) : FnS Try.prog 23 [vU64 x, .int .i64 n] [] (fun _ => True) (Is (vU64 (rotl x n))) := by
  refine FnS.intro Try.func23 rfl (by kernel_rfl) rfl fun w hH _ => ?_
  conv => whnf
  refine DrwK.ord (by kernel_rfl) (List.range 9) (by kernel_rfl) ?_
  conv => whnf
  refine NnK.mk (by omega) ?_
  conv => whnf
  refine RngK.mk (by omega) (by omega) ?_
  conv => whnf
  refine NnK.mk (by omega) ?_
  conv => whnf
  exact ⟨by unfold vU64; rw [w_rotl x n h1], rfl⟩
theorem sround_spec (v n : UInt64) : FnS Try.prog 9 [vU64 v, vU64 n] [] (fun _ => True) (Is (vU64 (roundU v n))) := by
  refine FnS.intro Try.func9 rfl (by kernel_rfl) rfl fun w hH _ => ?_
  conv => whnf
  refine CallK.cast [vU64 (v + n * p2), .int .i64 (31 : Nat)] (by simp only [vU64, w_add, w_mul, p2_int]; rfl) ?_
  refine CallK.of0 (turned_spec (v + n * p2) 31 (by omega)) ?_
  rintro _ _ ⟨rfl, rfl⟩
  conv => whnf
  exact ⟨by simp only [vU64, roundU, w_mul, p1_int], rfl⟩
theorem smerge_spec (h v : UInt64) : FnS Try.prog 11 [vU64 h, vU64 v] [] (fun _ => True) (Is (vU64 (mergeU h v))) := by
  refine FnS.intro Try.func11 rfl (by kernel_rfl) rfl fun w hH _ => ?_
  conv => whnf
  refine CallK.of0 (sround_spec 0 v) ?_
  rintro _ _ ⟨rfl, rfl⟩
  conv => whnf
  exact ⟨by simp only [vU64, mergeU, w_add, w_mul, w_xor, p1_int, p4_int], rfl⟩
theorem rotl_spec (x : UInt64) (n : Nat) (h0 : 0 < n) (h1 : n < 64) : FnS Try.prog 33 [vU64 x, .int .i64 n] [] (fun _ => True) (Is (vU64 (rotl x n))) := by
  refine FnS.intro Try.func33 rfl (by kernel_rfl) rfl fun w hH _ => ?_
  have e : iand .u64 (IntKind.u64.wrap (n : Int)) 63 = (n : Int) := by
    have : ∀ k : Fin 64, iand .u64 (IntKind.u64.wrap ((k.val : Nat) : Int)) 63 = ((k.val : Nat) : Int) := by decide
    exact this ⟨n, h1⟩
  conv => whnf
  rw [e]
  conv => whnf
  refine NnK.mk (by omega) ?_
  conv => whnf
  have e2 : IntKind.u64.wrap (64 - (n : Int)) = 64 - (n : Int) := IntWalk.u64_in _ (by omega)
  rw [e2]
  refine NnK.mk (by omega) ?_
  conv => whnf
  exact ⟨by unfold vU64; rw [w_rotl x n (by omega)], rfl⟩
theorem zround_spec (p : Value) (v n : UInt64) : FnS Try.prog 28 [p, vU64 v, vU64 n] [] (fun _ => True) (Is (vU64 (roundU v n))) := by
  refine FnS.intro Try.func28 rfl (by kernel_rfl) rfl fun w hH _ => ?_
  conv => whnf
  refine CallK.cast [vU64 (v + n * p2), .int .i64 (31 : Nat)] (by simp only [vU64, w_add, w_mul, p2_int]; rfl) ?_
  refine CallK.of0 (rotl_spec (v + n * p2) 31 (by omega) (by omega)) ?_
  rintro _ _ ⟨rfl, rfl⟩
  conv => whnf
  exact ⟨by simp only [vU64, roundU, w_mul, p1_int], rfl⟩
theorem zmerge_spec (p : Value) (v n : UInt64) : FnS Try.prog 29 [p, vU64 v, vU64 n] [] (fun _ => True) (Is (vU64 (mergeU v n))) := by
  refine FnS.intro Try.func29 rfl (by kernel_rfl) rfl fun w hH _ => ?_
  conv => whnf
  refine CallK.of0 (zround_spec p 0 n) ?_
  rintro _ _ ⟨rfl, rfl⟩
  conv => whnf
  exact ⟨by simp only [vU64, mergeU, w_add, w_mul, w_xor, p1_int, p4_int], rfl⟩
theorem zzround_spec (v n : UInt64) : FnS Try.prog 22 [vU64 v, vU64 n] [] (fun _ => True) (Is (vU64 (roundU v n))) := by
  refine FnS.introD Try.func22 rfl (by kernel_rfl) rfl fun w hH _ => ?_
  conv => whnf
  refine ⟨_, _, rfl, rfl, ?_⟩
  intro b
  conv => whnf
  refine CallK.of0 (zround_spec _ v n) ?_
  rintro _ _ ⟨rfl, rfl⟩
  conv => whnf
  exact ⟨[], HSub.nil _, rfl, rfl⟩
theorem zzmerge_spec (v n : UInt64) : FnS Try.prog 24 [vU64 v, vU64 n] [] (fun _ => True) (Is (vU64 (mergeU v n))) := by
  refine FnS.introD Try.func24 rfl (by kernel_rfl) rfl fun w hH _ => ?_
  conv => whnf
  refine ⟨_, _, rfl, rfl, ?_⟩
  intro b
  conv => whnf
  refine CallK.of0 (zmerge_spec _ v n) ?_
  rintro _ _ ⟨rfl, rfl⟩
  conv => whnf
  exact ⟨[], HSub.nil _, rfl, rfl⟩
theorem iround_spec (v n : UInt64) : FnS Try.prog 8 [vU64 v, vU64 n] [] (fun _ => True) (Is (vU64 (roundU v n))) := by
  refine FnS.intro Try.func8 rfl (by kernel_rfl) rfl fun w hH _ => ?_
  conv => whnf
  refine CallK.of0 (zzround_spec v n) ?_
  rintro _ _ ⟨rfl, rfl⟩
  conv => whnf
  exact ⟨rfl, rfl⟩
theorem imerge_spec (v n : UInt64) : FnS Try.prog 10 [vU64 v, vU64 n] [] (fun _ => True) (Is (vU64 (mergeU v n))) := by
  refine FnS.intro Try.func10 rfl (by kernel_rfl) rfl fun w hH _ => ?_
  conv => whnf
  refine CallK.of0 (zzmerge_spec v n) ?_
  rintro _ _ ⟨rfl, rfl⟩
  conv => whnf
  exact ⟨rfl, rfl⟩
theorem lawRound (v n : UInt64) : FnS Try.prog 3 [vU64 v, vU64 n] [] (fun _ => True) (Is (.bool true)) := by
  refine FnS.intro Try.func3 rfl (by kernel_rfl) rfl fun w hH _ => ?_
  conv => whnf
  refine CallK.of0 (iround_spec v n) ?_
  rintro _ _ ⟨rfl, rfl⟩
  conv => whnf
  refine CallK.of0 (sround_spec v n) ?_
  rintro _ _ ⟨rfl, rfl⟩
  conv => whnf
  exact ⟨by simp, rfl⟩
theorem lawMerge (v n : UInt64) : FnS Try.prog 4 [vU64 v, vU64 n] [] (fun _ => True) (Is (.bool true)) := by
  refine FnS.intro Try.func4 rfl (by kernel_rfl) rfl fun w hH _ => ?_
  conv => whnf
  refine CallK.of0 (imerge_spec v n) ?_
  rintro _ _ ⟨rfl, rfl⟩
  conv => whnf
  refine CallK.of0 (smerge_spec v n) ?_
  rintro _ _ ⟨rfl, rfl⟩
  conv => whnf
  exact ⟨by simp, rfl⟩
end Go.Proofs.Ytnmejcgkgimgoaa
