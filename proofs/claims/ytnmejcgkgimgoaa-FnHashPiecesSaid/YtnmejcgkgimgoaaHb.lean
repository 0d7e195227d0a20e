/- The checksum: numbers of bytes, the accumulators, and the reference. -/
import Derived.Test.YtnmejcgkgimgoaaHa
import Derived.Test.YtnmejcgkgimgoaaHashM
import Derived.Test.YtnmejcgkgimgoaaSize
namespace Go.Proofs.Ytnmejcgkgimgoaa
open Go Go.Sx
theorem le32_num (a b c d : UInt8) (r : List UInt8) : ior .u32 (ior .u32 (ior .u32 (IntKind.u32.wrap (a.toNat : Int)) (ishl .u32 (IntKind.u32.wrap (b.toNat : Int)) 8)) (ishl .u32 (IntKind.u32.wrap (c.toNat : Int)) 16))
    (ishl .u32 (IntKind.u32.wrap (d.toNat : Int)) 24) = ((num ((a :: b :: c :: d :: r).take 4) : Nat) : Int) := by
  have ha := a.toNat_lt; have hb := b.toNat_lt; have hc := c.toNat_lt; have hd := d.toNat_lt
  have e : ∀ x : Nat, x < 256 → IntKind.u32.wrap (x : Int) = (x : Int) := fun x hx => wrap_u_lt (k := .u32) rfl (by show x < 2 ^ 32; omega)
  have s : ∀ (x n : Nat), x < 256 → n ≤ 24 → ishl .u32 (x : Int) (n : Int) = ((x * 2 ^ n : Nat) : Int) := fun x n hx hn => by
    rw [ishl_u (k := .u32) rfl x (n := n) (by show n ≤ 32; omega), Nat.mod_eq_of_lt]
    show x * 2 ^ n < 2 ^ 32
    have := Nat.mul_le_mul_left x (Nat.pow_le_pow_right (n := 2) (by omega) hn)
    omega
  rw [e _ ha, e _ hb, e _ hc, e _ hd]
  have s8 : ishl .u32 (b.toNat : Int) 8 = _ := s b.toNat 8 hb (by omega)
  have s16 : ishl .u32 (c.toNat : Int) 16 = _ := s c.toNat 16 hc (by omega)
  have s24 : ishl .u32 (d.toNat : Int) 24 = _ := s d.toNat 24 hd (by omega)
  rw [s8, s16, s24]
  rw [ior_u (k := .u32) rfl (by show _ < 2 ^ 32; omega) (by show _ < 2 ^ 32; omega), or_add (by omega),
    ior_u (k := .u32) rfl (by show _ < 2 ^ 32; omega) (by show _ < 2 ^ 32; omega), or_add (by omega),
    ior_u (k := .u32) rfl (by show _ < 2 ^ 32; omega) (by show _ < 2 ^ 32; omega), or_add (by omega)]
  simp only [List.take_succ_cons, List.take_zero, num_cons, num_nil]
  omega
theorem four {bs : List UInt8} (h : 4 ≤ bs.length) : ∃ a b c d r, bs = a :: b :: c :: d :: r := by
  rcases bs with _ | ⟨a, _ | ⟨b, _ | ⟨c, _ | ⟨d, r⟩⟩⟩⟩
  · simp at h
  · simp at h
  · simp at h
  · simp at h
  · exact ⟨a, b, c, d, r, rfl⟩
theorem le32_spec (A : Option Addr) (n c : Nat) (bs : List UInt8) (h4 : 4 ≤ n) : FnS Try.prog 35 [.slice A n c] [] (fun w => Rd w (blocks []) A n 1 (bs.map vU8)) (Is (.int .u32 (num (bs.take 4) : Nat))) := by
  refine FnS.intro Try.func35 rfl (by kernel_rfl) rfl fun w hH hp => ?_
  have hl : bs.length = n := by simpa using hp.len
  obtain ⟨x0, x1, x2, x3, r, rfl⟩ := four (bs := bs) (by omega)
  conv => whnf
  refine DrwK.ord (by kernel_rfl) [0, 1, 2, 3, 4, 5, 6, 7, 8, 9, 10, 11, 12, 13, 14, 15, 16, 17, 18, 19, 20, 21, 22] (by kernel_rfl) ?_; conv => whnf
  refine InsK.rd hp (by omega) (by omega) ?_
  conv => whnf
  refine LdK.rd (v := vU8 x0) hp 0 rfl rfl rfl rfl ?_
  conv => whnf
  refine InsK.rd hp (by omega) (by omega) ?_
  conv => whnf
  refine LdK.rd (v := vU8 x1) hp 1 rfl rfl rfl rfl ?_
  conv => whnf
  refine NnK.mk (by omega) ?_
  conv => whnf
  refine InsK.rd hp (by omega) (by omega) ?_
  conv => whnf
  refine LdK.rd (v := vU8 x2) hp 2 rfl rfl rfl rfl ?_
  conv => whnf
  refine NnK.mk (by omega) ?_
  conv => whnf
  refine InsK.rd hp (by omega) (by omega) ?_
  conv => whnf
  refine LdK.rd (v := vU8 x3) hp 3 rfl rfl rfl rfl ?_
  conv => whnf
  refine NnK.mk (by omega) ?_
  conv => whnf
  exact ⟨by rw [← le32_num], rfl⟩
theorem le64_num (bs : List UInt8) (h : 8 ≤ bs.length) : ior .u64 (IntKind.u64.wrap ((num (bs.take 4) : Nat) : Int)) (ishl .u64 (IntKind.u64.wrap ((num ((bs.drop 4).take 4) : Nat) : Int)) 32) = ((num8 bs).toNat : Int) := by
  have h1 := num_take_lt bs 4
  have h2 := num_take_lt (bs.drop 4) 4
  simp only [Nat.reduceMul] at h1 h2
  have e3 : num (bs.take 8) = num (bs.take 4) + num ((bs.drop 4).take 4) * 2 ^ 32 := by
    obtain ⟨a, b, c, d, r, rfl⟩ := four (bs := bs) (by omega)
    obtain ⟨a', b', c', d', r, rfl⟩ := four (bs := r) (by simp at h; omega)
    simp only [List.take_succ_cons, List.take_zero, List.drop_succ_cons, List.drop_zero, num_cons, num_nil]
    omega
  rw [wrap_u_lt (k := .u64) rfl (by show _ < 2 ^ 64; omega), wrap_u_lt (k := .u64) rfl (by show _ < 2 ^ 64; omega)]
  have e : ishl .u64 ((num ((bs.drop 4).take 4) : Nat) : Int) 32 = _ := ishl_u (k := .u64) rfl (num ((bs.drop 4).take 4)) (n := 32) (by show 32 ≤ 64; omega)
  rw [e, Nat.mod_eq_of_lt (by show _ < 2 ^ 64; omega), ior_u (k := .u64) rfl (by show _ < 2 ^ 64; omega) (by show _ < 2 ^ 64; omega), or_add (by omega)]
  unfold num8
  rw [ofNat_toNat (by omega), e3]
theorem le64_spec (A : Option Addr) (n c : Nat) (bs : List UInt8) (h8 : 8 ≤ n) : FnS Try.prog 34 [.slice A n c] [] (fun w => Bytes w (blocks []) A n c bs) (Is (vU64 (num8 bs))) := by
  refine FnS.intro Try.func34 rfl (by kernel_rfl) rfl fun w hH hp => ?_
  have hl : bs.length = n := hp.len
  have hc := hp.le
  conv => whnf
  refine DrwK.ord (by kernel_rfl) [0, 3, 4, 1, 2, 5, 6, 7, 8, 9] (by kernel_rfl) ?_; conv => whnf
  refine BdK.mk (by omega) (by omega) (by omega) ?_
  conv => whnf
  refine hp.sp (l := 4) (by omega) ?_
  conv => whnf
  refine CallK.of [] (le32_spec A n c bs (by omega)) rfl (fun w hw => (hp.pass hw).rd) ?_
  rintro _ _ ⟨rfl, rfl⟩
  conv => whnf
  refine CallK.of [] (le32_spec (cutA A 4 c 1) (n - 4) (c - 4) (bs.drop 4) (by omega)) rfl (fun w hw => ((hp.from_ (l := 4) (by omega)).pass hw).rd) ?_
  rintro _ _ ⟨rfl, rfl⟩
  conv => whnf
  refine NnK.mk (by omega) ?_
  conv => whnf
  exact ⟨by unfold vU64; rw [← le64_num bs (by omega)], rfl⟩
theorem number_spec (A : Option Addr) (n c : Nat) (bs : List UInt8) (h8 : n ≤ 8) : FnS Try.prog 26 [.slice A n c] [] (fun w => Rd w (blocks []) A n 1 (bs.map vU8)) (Is (vU64 (UInt64.ofNat (num bs)))) := by
  refine FnS.intro Try.func26 rfl (by kernel_rfl) rfl fun w hH hp => ?_
  have hl : bs.length = n := by simpa using hp.len
  conv => whnf
  refine RngK.mk (by omega) (by omega) ?_
  conv => whnf
  refine Wp.loop (fun k : Nat => [(0, .slice A n c), (3, .int .u64 (num (bs.drop k) : Nat)), (4, vI ((k : Int) - 1))]) (fun _ => []) (fun k => k ≤ n) (fun k => k) n
    ⟨rfl, by rw [List.drop_of_length_le (by omega)]; rfl, rfl, trivial⟩ (HSub.refl _) (Nat.le_refl _) fun k hk => ?_
  dsimp only at hk ⊢
  conv => whnf
  refine Wp.cond rfl (fun h => ?_) (fun h => ?_)
  · have h := dT h
    obtain ⟨j, rfl⟩ : ∃ j, k = j + 1 := ⟨k - 1, by omega⟩
    have hj : j < bs.length := by omega
    have hlt := num_lt (bs.drop (j + 1))
    have hle : 2 ^ (8 * (bs.drop (j + 1)).length) ≤ 2 ^ 56 := Nat.pow_le_pow_right (by omega) (by rw [List.length_drop]; omega)
    have hb := bs[j].toNat_lt
    conv => whnf
    refine NnK.mk (by omega) ?_
    conv => whnf
    refine InsK.rd hp (by omega) (by omega) ?_
    conv => whnf
    refine LdK.rd (v := vU8 bs[j]) hp j (by congr 1; omega) rfl rfl (by simp [hj]) ?_
    conv => whnf
    refine RngK.mk (by omega) (by omega) ?_
    conv => whnf
    refine ⟨j, ⟨rfl, ?_, ?_, trivial⟩, HSub.refl _, by omega, by omega⟩
    · show some _ = some _
      congr 2
      rw [wrap_u_lt (k := .u64) rfl (n := bs[j].toNat) (by show _ < 2 ^ 64; omega)]
      have e : ishl .u64 ((num (bs.drop (j + 1)) : Nat) : Int) 8 = _ := ishl_u (k := .u64) rfl (num (bs.drop (j + 1))) (n := 8) (by show 8 ≤ 64; omega)
      rw [e, Nat.mod_eq_of_lt (by show _ < 2 ^ 64; omega), ior_u (k := .u64) rfl (by show _ < 2 ^ 64; omega) (by show _ < 2 ^ 64; omega), Nat.or_comm, or_add (by omega), drop_at hj, num_cons]
      congr 1
      omega
    · show some _ = some _
      congr 2
      omega
  · have h := dF h
    obtain rfl : k = 0 := by omega
    conv => whnf
    refine ⟨?_, rfl⟩
    have hlt := num_lt bs
    have hle : 2 ^ (8 * bs.length) ≤ 2 ^ 64 := Nat.pow_le_pow_right (by omega) (by omega)
    rw [List.drop_zero]
    unfold vU64
    rw [ofNat_toNat (by omega)]
end Go.Proofs.Ytnmejcgkgimgoaa
