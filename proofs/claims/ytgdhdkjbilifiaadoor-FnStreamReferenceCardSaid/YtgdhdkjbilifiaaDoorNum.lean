/- Numbers of bytes, the lowest one first. -/
import Derived.Test.YtgdhdkjbilifiaaDoorSize
import Derived.Test.YtgdhdkjbilifiaaDoorBits
import Derived.Test.YtgdhdkjbilifiaaDoorU64
namespace Go.Proofs.YtgdhdkjbilifiaaDoor
open Go Go.Sx
set_option maxRecDepth 100000
theorem number_spec (A : Option Addr) (n c : Nat) (bs : List UInt8) (h8 : n ≤ 8) : FnS Tryd.prog 45 [.slice A n c] [] (fun w => Rd w (blocks []) A n 1 (bs.map vU8)) (Is (vU64 (UInt64.ofNat (num bs)))) := by
  refine FnS.intro Tryd.func45 rfl (by kernel_rfl) rfl fun w hH hp => ?_
  have hl : bs.length = n := by simpa using hp.len
  conv => whnf
  refine RngK.mk (by omega) (by omega) ?_
  conv => whnf
  refine Wp.loop (fun k : Nat => [(0, .slice A n c), (3, .int .u64 (num (bs.drop k) : Nat)), (4, vI ((k : Int) - 1))]) (fun _ => []) (fun k => k ≤ n) (fun k => k) n
    ⟨rfl, by rw [List.drop_of_length_le (by omega)]; rfl, rfl, trivial⟩ (HSub.refl _) (Nat.le_refl _) fun k hk => ?_
  dsimp only at hk ⊢
  conv => whnf
  refine Wp.cond rfl (fun h => ?_) (fun h => ?_)
  · have h := dT h
    obtain ⟨j, rfl⟩ : ∃ j, k = j + 1 := ⟨k - 1, by omega⟩
    have hj : j < bs.length := by omega
    have hlt := num_lt (bs.drop (j + 1))
    have hle : 2 ^ (8 * (bs.drop (j + 1)).length) ≤ 2 ^ 56 := Nat.pow_le_pow_right (by omega) (by rw [List.length_drop]; omega)
    have hb := bs[j].toNat_lt
    conv => whnf
    refine NnK.mk (by omega) ?_
    conv => whnf
    refine InsK.rd hp (by omega) (by omega) ?_
    conv => whnf
    refine LdK.rd (v := vU8 bs[j]) hp j (by congr 1; omega) rfl rfl (by simp [hj]) ?_
    conv => whnf
    refine RngK.mk (by omega) (by omega) ?_
    conv => whnf
    refine ⟨j, ⟨rfl, ?_, ?_, trivial⟩, HSub.refl _, by omega, by omega⟩
    · show some _ = some _
      congr 2
      rw [wrap_u_lt (k := .u64) rfl (n := bs[j].toNat) (by show _ < 2 ^ 64; omega)]
      have e : ishl .u64 ((num (bs.drop (j + 1)) : Nat) : Int) 8 = _ := ishl_u (k := .u64) rfl (num (bs.drop (j + 1))) (n := 8) (by show 8 ≤ 64; omega)
      rw [e, Nat.mod_eq_of_lt (by show _ < 2 ^ 64; omega), ior_u (k := .u64) rfl (by show _ < 2 ^ 64; omega) (by show _ < 2 ^ 64; omega), Nat.or_comm, or_add (by omega), drop_at hj, num_cons]
      congr 1
      omega
    · show some _ = some _
      congr 2
      omega
  · have h := dF h
    obtain rfl : k = 0 := by omega
    conv => whnf
    refine ⟨?_, rfl⟩
    have hlt := num_lt bs
    have hle : 2 ^ (8 * bs.length) ≤ 2 ^ 64 := Nat.pow_le_pow_right (by omega) (by omega)
    rw [List.drop_zero]
    unfold vU64
    rw [UInt64.toNat_ofNat_of_lt' (by simp [UInt64.size]; omega)]
end Go.Proofs.YtgdhdkjbilifiaaDoor
