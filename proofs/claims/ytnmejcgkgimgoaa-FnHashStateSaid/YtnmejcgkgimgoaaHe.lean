/- The checksum: digest, and the functions that are called from outside. -/
import Derived.Test.YtnmejcgkgimgoaaHd
namespace Go.Proofs.Ytnmejcgkgimgoaa
open Go Go.Sx
theorem take_pre (bb : List UInt8) {o k q : Nat} (h : o + q ≤ k) : ((bb.take k).drop o).take q = (bb.drop o).take q := by
  rw [List.drop_take, List.take_take, Nat.min_eq_left (by omega)]
theorem xh_at {n : Nat} {s : A4} {bb : List UInt8} {k o : Nat} (h : o < bb.length) : (xh n s (bb.map vU8) k)[5 + o]? = some (vU8 bb[o]) := by
  have e : xh n s (bb.map vU8) k = (vU64 (UInt64.ofNat n) :: vs4 s) ++ (bb.map vU8 ++ [vI k]) := rfl
  have e2 : (vU64 (UInt64.ofNat n) :: vs4 s).length = 5 := rfl
  rw [e, List.getElem?_append_right (by omega), e2, Nat.add_sub_cancel_left, List.getElem?_append_left (by simpa using h)]
  simp [h]
theorem digest_spec (b : Nat) (all : List UInt8) (bb : List UInt8) (hb0 : bb.length = 32) (ht0 : bb.take (all.length % 32) = tl all) (hn : all.length < 2 ^ 31) :
    FnS Try.prog 32 [.pointer (some ⟨b, 0, none⟩)] [.blk b 48 (xh all.length (lanes acc0 all) (bb.map vU8) (all.length % 32))]
      (fun _ => True) (Is (vU64 (hashU all))) := by
  refine FnS.introD Try.func32 rfl (by kernel_rfl) rfl fun w hH _ => ?_
  have hk : all.length % 32 < 32 := Nat.mod_lt _ (by omega)
  have hkt : (tl all).length = all.length % 32 := tl_len all
  have hw64 : ((UInt64.ofNat all.length).toNat : Int) = all.length := ofNat_toNat (by omega)
  (conv => whnf); repeat ((first | refine RngK.mk (by omega) (by omega) ?_ | refine NzK.mk (by omega) ?_ | refine NnK.mk (by omega) ?_ | refine BdK.mk (by omega) (by omega) (by omega) ?_ | refine InsK.lit (by omega) (by omega) ?_ | refine SpK.lit ?_ | refine GrdK.same ?_ | refine GrdK.tf ?_ | refine GrdK.ft ?_ | refine PickK.t ?_ | refine PickK.f ?_); (conv => whnf))
  refine LdK.blk 0 rfl rfl rfl rfl ?_
  (conv => whnf); repeat ((first | refine RngK.mk (by omega) (by omega) ?_ | refine NzK.mk (by omega) ?_ | refine NnK.mk (by omega) ?_ | refine BdK.mk (by omega) (by omega) (by omega) ?_ | refine InsK.lit (by omega) (by omega) ?_ | refine SpK.lit ?_ | refine GrdK.same ?_ | refine GrdK.tf ?_ | refine GrdK.ft ?_ | refine PickK.t ?_ | refine PickK.f ?_); (conv => whnf))
  refine Wp.cut (fun _ : Unit => [(0, .pointer (some ⟨b, 0, none⟩)), (3, vU64 (if 32 ≤ all.length then startU (lanes acc0 all) else p5))]) (fun _ => [.blk b 48 (xh all.length (lanes acc0 all) (bb.map vU8) (all.length % 32))]) (fun _ => True) ?_ fun _ _ => ?_
  · refine Wp.cond rfl (fun h => ?_) (fun h => ?_)
    · have h := dT h
      rw [hw64] at h
      rw [if_neg (by omega)]
      (conv => whnf); repeat ((first | refine RngK.mk (by omega) (by omega) ?_ | refine NzK.mk (by omega) ?_ | refine NnK.mk (by omega) ?_ | refine BdK.mk (by omega) (by omega) (by omega) ?_ | refine InsK.lit (by omega) (by omega) ?_ | refine SpK.lit ?_ | refine GrdK.same ?_ | refine GrdK.tf ?_ | refine GrdK.ft ?_ | refine PickK.t ?_ | refine PickK.f ?_); (conv => whnf))
      refine LdK.blk 0 rfl rfl rfl rfl ?_
      (conv => whnf); repeat ((first | refine RngK.mk (by omega) (by omega) ?_ | refine NzK.mk (by omega) ?_ | refine NnK.mk (by omega) ?_ | refine BdK.mk (by omega) (by omega) (by omega) ?_ | refine InsK.lit (by omega) (by omega) ?_ | refine SpK.lit ?_ | refine GrdK.same ?_ | refine GrdK.tf ?_ | refine GrdK.ft ?_ | refine PickK.t ?_ | refine PickK.f ?_); (conv => whnf))
      refine ⟨(), ⟨rfl, ?_, trivial⟩, HSub.refl _, trivial⟩
      rw [lanes_short _ (by omega)]
      show some _ = some _
      rfl
    · have h := dF h
      rw [hw64] at h
      rw [if_pos (by omega), start_mg]
      (conv => whnf); repeat ((first | refine RngK.mk (by omega) (by omega) ?_ | refine NzK.mk (by omega) ?_ | refine NnK.mk (by omega) ?_ | refine BdK.mk (by omega) (by omega) (by omega) ?_ | refine InsK.lit (by omega) (by omega) ?_ | refine SpK.lit ?_ | refine GrdK.same ?_ | refine GrdK.tf ?_ | refine GrdK.ft ?_ | refine PickK.t ?_ | refine PickK.f ?_); (conv => whnf))
      refine DrwK.ord (by kernel_rfl) [0, 1, 2, 3, 4, 6, 7, 8, 9, 10, 13, 14, 15, 16, 17, 20, 21, 22, 23, 24, 5, 11, 12, 18, 19, 25, 26, 27] (by kernel_rfl) ?_; conv => whnf
      (conv => whnf); repeat ((first | refine RngK.mk (by omega) (by omega) ?_ | refine NzK.mk (by omega) ?_ | refine NnK.mk (by omega) ?_ | refine BdK.mk (by omega) (by omega) (by omega) ?_ | refine InsK.lit (by omega) (by omega) ?_ | refine SpK.lit ?_ | refine GrdK.same ?_ | refine GrdK.tf ?_ | refine GrdK.ft ?_ | refine PickK.t ?_ | refine PickK.f ?_); (conv => whnf))
      refine LdK.blk 0 rfl rfl rfl rfl ?_
      (conv => whnf); repeat ((first | refine RngK.mk (by omega) (by omega) ?_ | refine NzK.mk (by omega) ?_ | refine NnK.mk (by omega) ?_ | refine BdK.mk (by omega) (by omega) (by omega) ?_ | refine InsK.lit (by omega) (by omega) ?_ | refine SpK.lit ?_ | refine GrdK.same ?_ | refine GrdK.tf ?_ | refine GrdK.ft ?_ | refine PickK.t ?_ | refine PickK.f ?_); (conv => whnf))
      refine LdK.blk 0 rfl rfl rfl rfl ?_
      (conv => whnf); repeat ((first | refine RngK.mk (by omega) (by omega) ?_ | refine NzK.mk (by omega) ?_ | refine NnK.mk (by omega) ?_ | refine BdK.mk (by omega) (by omega) (by omega) ?_ | refine InsK.lit (by omega) (by omega) ?_ | refine SpK.lit ?_ | refine GrdK.same ?_ | refine GrdK.tf ?_ | refine GrdK.ft ?_ | refine PickK.t ?_ | refine PickK.f ?_); (conv => whnf))
      refine LdK.blk 0 rfl rfl rfl rfl ?_
      (conv => whnf); repeat ((first | refine RngK.mk (by omega) (by omega) ?_ | refine NzK.mk (by omega) ?_ | refine NnK.mk (by omega) ?_ | refine BdK.mk (by omega) (by omega) (by omega) ?_ | refine InsK.lit (by omega) (by omega) ?_ | refine SpK.lit ?_ | refine GrdK.same ?_ | refine GrdK.tf ?_ | refine GrdK.ft ?_ | refine PickK.t ?_ | refine PickK.f ?_); (conv => whnf))
      refine LdK.blk 0 rfl rfl rfl rfl ?_
      (conv => whnf); repeat ((first | refine RngK.mk (by omega) (by omega) ?_ | refine NzK.mk (by omega) ?_ | refine NnK.mk (by omega) ?_ | refine BdK.mk (by omega) (by omega) (by omega) ?_ | refine InsK.lit (by omega) (by omega) ?_ | refine SpK.lit ?_ | refine GrdK.same ?_ | refine GrdK.tf ?_ | refine GrdK.ft ?_ | refine PickK.t ?_ | refine PickK.f ?_); (conv => whnf))
      refine CallK.of0 (rotl_spec (lanes acc0 all).a 1 (by omega) (by omega)) ?_
      rintro _ _ ⟨rfl, rfl⟩
      (conv => whnf); repeat ((first | refine RngK.mk (by omega) (by omega) ?_ | refine NzK.mk (by omega) ?_ | refine NnK.mk (by omega) ?_ | refine BdK.mk (by omega) (by omega) (by omega) ?_ | refine InsK.lit (by omega) (by omega) ?_ | refine SpK.lit ?_ | refine GrdK.same ?_ | refine GrdK.tf ?_ | refine GrdK.ft ?_ | refine PickK.t ?_ | refine PickK.f ?_); (conv => whnf))
      repeat (refine KfK.of (LdK.blk 0 rfl rfl rfl rfl rfl) ?_; conv => whnf)
      refine CallK.of0 (rotl_spec (lanes acc0 all).b 7 (by omega) (by omega)) ?_
      rintro _ _ ⟨rfl, rfl⟩
      (conv => whnf); repeat ((first | refine RngK.mk (by omega) (by omega) ?_ | refine NzK.mk (by omega) ?_ | refine NnK.mk (by omega) ?_ | refine BdK.mk (by omega) (by omega) (by omega) ?_ | refine InsK.lit (by omega) (by omega) ?_ | refine SpK.lit ?_ | refine GrdK.same ?_ | refine GrdK.tf ?_ | refine GrdK.ft ?_ | refine PickK.t ?_ | refine PickK.f ?_); (conv => whnf))
      repeat (refine KfK.of (LdK.blk 0 rfl rfl rfl rfl rfl) ?_; conv => whnf)
      refine CallK.of0 (rotl_spec (lanes acc0 all).c 12 (by omega) (by omega)) ?_
      rintro _ _ ⟨rfl, rfl⟩
      (conv => whnf); repeat ((first | refine RngK.mk (by omega) (by omega) ?_ | refine NzK.mk (by omega) ?_ | refine NnK.mk (by omega) ?_ | refine BdK.mk (by omega) (by omega) (by omega) ?_ | refine InsK.lit (by omega) (by omega) ?_ | refine SpK.lit ?_ | refine GrdK.same ?_ | refine GrdK.tf ?_ | refine GrdK.ft ?_ | refine PickK.t ?_ | refine PickK.f ?_); (conv => whnf))
      repeat (refine KfK.of (LdK.blk 0 rfl rfl rfl rfl rfl) ?_; conv => whnf)
      refine CallK.of0 (rotl_spec (lanes acc0 all).d 18 (by omega) (by omega)) ?_
      rintro _ _ ⟨rfl, rfl⟩
      (conv => whnf); repeat ((first | refine RngK.mk (by omega) (by omega) ?_ | refine NzK.mk (by omega) ?_ | refine NnK.mk (by omega) ?_ | refine BdK.mk (by omega) (by omega) (by omega) ?_ | refine InsK.lit (by omega) (by omega) ?_ | refine SpK.lit ?_ | refine GrdK.same ?_ | refine GrdK.tf ?_ | refine GrdK.ft ?_ | refine PickK.t ?_ | refine PickK.f ?_); (conv => whnf))
      repeat (refine KfK.of (LdK.blk 0 rfl rfl rfl rfl rfl) ?_; conv => whnf)
      generalize lanes acc0 all = s at *
      (conv => whnf); repeat ((first | refine RngK.mk (by omega) (by omega) ?_ | refine NzK.mk (by omega) ?_ | refine NnK.mk (by omega) ?_ | refine BdK.mk (by omega) (by omega) (by omega) ?_ | refine InsK.lit (by omega) (by omega) ?_ | refine SpK.lit ?_ | refine GrdK.same ?_ | refine GrdK.tf ?_ | refine GrdK.ft ?_ | refine PickK.t ?_ | refine PickK.f ?_); (conv => whnf))
      refine LdK.blk 0 rfl rfl rfl rfl ?_
      (conv => whnf); repeat ((first | refine RngK.mk (by omega) (by omega) ?_ | refine NzK.mk (by omega) ?_ | refine NnK.mk (by omega) ?_ | refine BdK.mk (by omega) (by omega) (by omega) ?_ | refine InsK.lit (by omega) (by omega) ?_ | refine SpK.lit ?_ | refine GrdK.same ?_ | refine GrdK.tf ?_ | refine GrdK.ft ?_ | refine PickK.t ?_ | refine PickK.f ?_); (conv => whnf))
      refine CallK.cast [.pointer (some ⟨b, 0, none⟩), vU64 (mg s (rotl s.a 1 + rotl s.b 7 + rotl s.c 12 + rotl s.d 18) 0), vU64 s.a] (by simp only [mg, vU64, w_add]) ?_
      refine CallK.of0 (zmerge_spec _ (mg s (rotl s.a 1 + rotl s.b 7 + rotl s.c 12 + rotl s.d 18) 0) s.a) ?_
      rintro _ _ ⟨rfl, rfl⟩
      (conv => whnf); repeat ((first | refine RngK.mk (by omega) (by omega) ?_ | refine NzK.mk (by omega) ?_ | refine NnK.mk (by omega) ?_ | refine BdK.mk (by omega) (by omega) (by omega) ?_ | refine InsK.lit (by omega) (by omega) ?_ | refine SpK.lit ?_ | refine GrdK.same ?_ | refine GrdK.tf ?_ | refine GrdK.ft ?_ | refine PickK.t ?_ | refine PickK.f ?_); (conv => whnf))
      refine LdK.blk 0 rfl rfl rfl rfl ?_
      (conv => whnf); repeat ((first | refine RngK.mk (by omega) (by omega) ?_ | refine NzK.mk (by omega) ?_ | refine NnK.mk (by omega) ?_ | refine BdK.mk (by omega) (by omega) (by omega) ?_ | refine InsK.lit (by omega) (by omega) ?_ | refine SpK.lit ?_ | refine GrdK.same ?_ | refine GrdK.tf ?_ | refine GrdK.ft ?_ | refine PickK.t ?_ | refine PickK.f ?_); (conv => whnf))
      refine CallK.cast [.pointer (some ⟨b, 0, none⟩), vU64 (mg s (rotl s.a 1 + rotl s.b 7 + rotl s.c 12 + rotl s.d 18) 1), vU64 s.b] (by simp only [mg, vU64]; rfl) ?_
      refine CallK.of0 (zmerge_spec _ (mg s (rotl s.a 1 + rotl s.b 7 + rotl s.c 12 + rotl s.d 18) 1) s.b) ?_
      rintro _ _ ⟨rfl, rfl⟩
      (conv => whnf); repeat ((first | refine RngK.mk (by omega) (by omega) ?_ | refine NzK.mk (by omega) ?_ | refine NnK.mk (by omega) ?_ | refine BdK.mk (by omega) (by omega) (by omega) ?_ | refine InsK.lit (by omega) (by omega) ?_ | refine SpK.lit ?_ | refine GrdK.same ?_ | refine GrdK.tf ?_ | refine GrdK.ft ?_ | refine PickK.t ?_ | refine PickK.f ?_); (conv => whnf))
      refine LdK.blk 0 rfl rfl rfl rfl ?_
      (conv => whnf); repeat ((first | refine RngK.mk (by omega) (by omega) ?_ | refine NzK.mk (by omega) ?_ | refine NnK.mk (by omega) ?_ | refine BdK.mk (by omega) (by omega) (by omega) ?_ | refine InsK.lit (by omega) (by omega) ?_ | refine SpK.lit ?_ | refine GrdK.same ?_ | refine GrdK.tf ?_ | refine GrdK.ft ?_ | refine PickK.t ?_ | refine PickK.f ?_); (conv => whnf))
      refine CallK.cast [.pointer (some ⟨b, 0, none⟩), vU64 (mg s (rotl s.a 1 + rotl s.b 7 + rotl s.c 12 + rotl s.d 18) 2), vU64 s.c] (by simp only [mg, vU64]; rfl) ?_
      refine CallK.of0 (zmerge_spec _ (mg s (rotl s.a 1 + rotl s.b 7 + rotl s.c 12 + rotl s.d 18) 2) s.c) ?_
      rintro _ _ ⟨rfl, rfl⟩
      (conv => whnf); repeat ((first | refine RngK.mk (by omega) (by omega) ?_ | refine NzK.mk (by omega) ?_ | refine NnK.mk (by omega) ?_ | refine BdK.mk (by omega) (by omega) (by omega) ?_ | refine InsK.lit (by omega) (by omega) ?_ | refine SpK.lit ?_ | refine GrdK.same ?_ | refine GrdK.tf ?_ | refine GrdK.ft ?_ | refine PickK.t ?_ | refine PickK.f ?_); (conv => whnf))
      refine LdK.blk 0 rfl rfl rfl rfl ?_
      (conv => whnf); repeat ((first | refine RngK.mk (by omega) (by omega) ?_ | refine NzK.mk (by omega) ?_ | refine NnK.mk (by omega) ?_ | refine BdK.mk (by omega) (by omega) (by omega) ?_ | refine InsK.lit (by omega) (by omega) ?_ | refine SpK.lit ?_ | refine GrdK.same ?_ | refine GrdK.tf ?_ | refine GrdK.ft ?_ | refine PickK.t ?_ | refine PickK.f ?_); (conv => whnf))
      refine CallK.cast [.pointer (some ⟨b, 0, none⟩), vU64 (mg s (rotl s.a 1 + rotl s.b 7 + rotl s.c 12 + rotl s.d 18) 3), vU64 s.d] (by simp only [mg, vU64]; rfl) ?_
      refine CallK.of0 (zmerge_spec _ (mg s (rotl s.a 1 + rotl s.b 7 + rotl s.c 12 + rotl s.d 18) 3) s.d) ?_
      rintro _ _ ⟨rfl, rfl⟩
      (conv => whnf); repeat ((first | refine RngK.mk (by omega) (by omega) ?_ | refine NzK.mk (by omega) ?_ | refine NnK.mk (by omega) ?_ | refine BdK.mk (by omega) (by omega) (by omega) ?_ | refine InsK.lit (by omega) (by omega) ?_ | refine SpK.lit ?_ | refine GrdK.same ?_ | refine GrdK.tf ?_ | refine GrdK.ft ?_ | refine PickK.t ?_ | refine PickK.f ?_); (conv => whnf))
      exact ⟨(), ⟨rfl, rfl, trivial⟩, HSub.refl _, trivial⟩
  · have hu : hashU all = last3 (last2 (last1 (fin1 (fin4 (fin8 ((if 32 ≤ all.length then startU (lanes acc0 all) else p5) + UInt64.ofNat all.length) (tl all)))))) := rfl
    revert hu
    generalize (if 32 ≤ all.length then startU (lanes acc0 all) else p5) = g
    intro hu
    have hb : (bb.map vU8).length = 32 := by simpa using hb0
    generalize lanes acc0 all = s at *
    (conv => whnf); repeat ((first | refine RngK.mk (by omega) (by omega) ?_ | refine NzK.mk (by omega) ?_ | refine NnK.mk (by omega) ?_ | refine BdK.mk (by omega) (by omega) (by omega) ?_ | refine InsK.lit (by omega) (by omega) ?_ | refine SpK.lit ?_ | refine GrdK.same ?_ | refine GrdK.tf ?_ | refine GrdK.ft ?_ | refine PickK.t ?_ | refine PickK.f ?_); (conv => whnf))
    refine LdK.blk 0 rfl rfl rfl rfl ?_
    (conv => whnf); repeat ((first | refine RngK.mk (by omega) (by omega) ?_ | refine NzK.mk (by omega) ?_ | refine NnK.mk (by omega) ?_ | refine BdK.mk (by omega) (by omega) (by omega) ?_ | refine InsK.lit (by omega) (by omega) ?_ | refine SpK.lit ?_ | refine GrdK.same ?_ | refine GrdK.tf ?_ | refine GrdK.ft ?_ | refine PickK.t ?_ | refine PickK.f ?_); (conv => whnf))
    refine LdK.blk 0 rfl rfl rfl rfl ?_
    (conv => whnf); repeat ((first | refine RngK.mk (by omega) (by omega) ?_ | refine NzK.mk (by omega) ?_ | refine NnK.mk (by omega) ?_ | refine BdK.mk (by omega) (by omega) (by omega) ?_ | refine InsK.lit (by omega) (by omega) ?_ | refine SpK.lit ?_ | refine GrdK.same ?_ | refine GrdK.tf ?_ | refine GrdK.ft ?_ | refine PickK.t ?_ | refine PickK.f ?_); (conv => whnf))
    have ha : iand .u64 ((UInt64.ofNat all.length).toNat : Int) 31 = ((all.length % 32 : Nat) : Int) := by
      rw [hw64]
      have := iand_u (k := .u64) rfl (x := all.length) (y := 31) (by show _ < 2 ^ 64; omega) (by show _ < 2 ^ 64; omega)
      rw [show (31 : Int) = ((31 : Nat) : Int) from rfl, this]
      congr 1
      exact Nat.and_two_pow_sub_one_eq_mod _ 5
    rw [ha]
    generalize hc : all.length % 32 = k at *
    refine Wp.loop (fun x : Nat × UInt64 => [(0, .pointer (some ⟨b, 0, none⟩)), (3, vU64 x.2), (4, .int .u64 ((k - x.1 : Nat) : Int)), (5, .slice (some ⟨b, 5 + x.1, none⟩) (32 - x.1) (32 - x.1))])
      (fun _ => [.blk b 48 (xh all.length s (bb.map vU8) k)]) (fun x => x.1 ≤ k ∧ fin8 x.2 ((tl all).drop x.1) = fin8 (g + UInt64.ofNat all.length) (tl all)) (fun x => k - x.1) (0, g + UInt64.ofNat all.length)
      ⟨rfl, ?_, rfl, rfl, trivial⟩ (HSub.refl _) ⟨Nat.zero_le _, rfl⟩ fun ⟨o, h0⟩ ⟨ho, he⟩ => ?_
    · show some _ = some _
      simp only [vU64, w_add]
    · dsimp only at ho he ⊢
      (conv => whnf); repeat ((first | refine RngK.mk (by omega) (by omega) ?_ | refine NzK.mk (by omega) ?_ | refine NnK.mk (by omega) ?_ | refine BdK.mk (by omega) (by omega) (by omega) ?_ | refine InsK.lit (by omega) (by omega) ?_ | refine SpK.lit ?_ | refine GrdK.same ?_ | refine GrdK.tf ?_ | refine GrdK.ft ?_ | refine PickK.t ?_ | refine PickK.f ?_); (conv => whnf))
      refine Wp.cond rfl (fun h => ?_) (fun h => ?_)
      · have h := dT h
        (conv => whnf); repeat ((first | refine RngK.mk (by omega) (by omega) ?_ | refine NzK.mk (by omega) ?_ | refine NnK.mk (by omega) ?_ | refine BdK.mk (by omega) (by omega) (by omega) ?_ | refine InsK.lit (by omega) (by omega) ?_ | refine SpK.lit ?_ | refine GrdK.same ?_ | refine GrdK.tf ?_ | refine GrdK.ft ?_ | refine PickK.t ?_ | refine PickK.f ?_); (conv => whnf))
        refine CallK.of [] (le64_spec (some ⟨b, 5 + o, none⟩) (32 - o) (32 - o) (bb.drop o) (by omega)) rfl
          (fun w hw => bufBytes (s := s) (k := k) hw hb (o := o) (m := 32 - o) (by omega) (by rw [← List.map_drop, List.take_of_length_le (by simp; omega)]) (by omega) (by omega)) ?_
        rintro _ _ ⟨rfl, rfl⟩
        (conv => whnf); repeat ((first | refine RngK.mk (by omega) (by omega) ?_ | refine NzK.mk (by omega) ?_ | refine NnK.mk (by omega) ?_ | refine BdK.mk (by omega) (by omega) (by omega) ?_ | refine InsK.lit (by omega) (by omega) ?_ | refine SpK.lit ?_ | refine GrdK.same ?_ | refine GrdK.tf ?_ | refine GrdK.ft ?_ | refine PickK.t ?_ | refine PickK.f ?_); (conv => whnf))
        refine CallK.of0 (zround_spec _ 0 (num8 (bb.drop o))) ?_
        rintro _ _ ⟨rfl, rfl⟩
        (conv => whnf); repeat ((first | refine RngK.mk (by omega) (by omega) ?_ | refine NzK.mk (by omega) ?_ | refine NnK.mk (by omega) ?_ | refine BdK.mk (by omega) (by omega) (by omega) ?_ | refine InsK.lit (by omega) (by omega) ?_ | refine SpK.lit ?_ | refine GrdK.same ?_ | refine GrdK.tf ?_ | refine GrdK.ft ?_ | refine PickK.t ?_ | refine PickK.f ?_); (conv => whnf))
        refine CallK.cast [vU64 (h0 ^^^ roundU 0 (num8 (bb.drop o))), .int .i64 (27 : Nat)] (by simp only [vU64, w_xor]; rfl) ?_
        refine CallK.of0 (rotl_spec (h0 ^^^ roundU 0 (num8 (bb.drop o))) 27 (by omega) (by omega)) ?_
        rintro _ _ ⟨rfl, rfl⟩
        (conv => whnf); repeat ((first | refine RngK.mk (by omega) (by omega) ?_ | refine NzK.mk (by omega) ?_ | refine NnK.mk (by omega) ?_ | refine BdK.mk (by omega) (by omega) (by omega) ?_ | refine InsK.lit (by omega) (by omega) ?_ | refine SpK.lit ?_ | refine GrdK.same ?_ | refine GrdK.tf ?_ | refine GrdK.ft ?_ | refine PickK.t ?_ | refine PickK.f ?_); (conv => whnf))
        have e8 : num8 ((tl all).drop o) = num8 (bb.drop o) := by
          rw [← ht0]; unfold num8; rw [take_pre bb (by omega)]
        refine ⟨(o + 8, h8 h0 ((tl all).drop o)), ⟨rfl, ?_, ?_, ?_, trivial⟩, HSub.refl _, ⟨?_, ?_⟩, ?_⟩
        · show some _ = some _
          simp only [vU64, h8, e8, w_add, w_mul, p1_int, p4_int]
        · show some _ = some _
          congr 2
          rw [IntWalk.u64_in _ (by omega)]
          omega
        · show some (Value.slice (cutA (some ⟨b, 5 + o, none⟩) 8 (32 - o) 1) _ _) = some _
          rw [cutA_lt (by omega)]
          rfl
        · simp only; omega
        · rw [← he, fin8_cons h0 (by rw [List.length_drop]; omega), List.drop_drop]
        · simp only; omega
      · have h := dF h
        rw [fin8_short h0 (by rw [List.length_drop]; omega)] at he
        rw [← he] at hu
        (conv => whnf); repeat ((first | refine RngK.mk (by omega) (by omega) ?_ | refine NzK.mk (by omega) ?_ | refine NnK.mk (by omega) ?_ | refine BdK.mk (by omega) (by omega) (by omega) ?_ | refine InsK.lit (by omega) (by omega) ?_ | refine SpK.lit ?_ | refine GrdK.same ?_ | refine GrdK.tf ?_ | refine GrdK.ft ?_ | refine PickK.t ?_ | refine PickK.f ?_); (conv => whnf))
        refine Wp.cut (fun x : Nat × UInt64 => [(0, .pointer (some ⟨b, 0, none⟩)), (3, vU64 x.2), (4, .int .u64 ((k - x.1 : Nat) : Int)), (5, .slice (some ⟨b, 5 + x.1, none⟩) (32 - x.1) (32 - x.1))])
          (fun _ => [.blk b 48 (xh all.length s (bb.map vU8) k)]) (fun x => x.1 ≤ k ∧ hashU all = last3 (last2 (last1 (fin1 (x.2, (tl all).drop x.1))))) ?_ fun ⟨o, h0⟩ ⟨ho, hu⟩ => ?_
        · refine Wp.cond rfl (fun h1 => ?_) (fun h1 => ?_)
          · have h1 := dT h1
            (conv => whnf); repeat ((first | refine RngK.mk (by omega) (by omega) ?_ | refine NzK.mk (by omega) ?_ | refine NnK.mk (by omega) ?_ | refine BdK.mk (by omega) (by omega) (by omega) ?_ | refine InsK.lit (by omega) (by omega) ?_ | refine SpK.lit ?_ | refine GrdK.same ?_ | refine GrdK.tf ?_ | refine GrdK.ft ?_ | refine PickK.t ?_ | refine PickK.f ?_); (conv => whnf))
            refine CallK.of [] (le32_spec (some ⟨b, 5 + o, none⟩) (32 - o) (32 - o) (bb.drop o) (by omega)) rfl
              (fun w hw => (bufBytes (s := s) (k := k) hw hb (o := o) (m := 32 - o) (c := 32 - o) (by omega) (by rw [← List.map_drop, List.take_of_length_le (by simp; omega)]) (by omega) (by omega)).rd) ?_
            rintro _ _ ⟨rfl, rfl⟩
            (conv => whnf); repeat ((first | refine RngK.mk (by omega) (by omega) ?_ | refine NzK.mk (by omega) ?_ | refine NnK.mk (by omega) ?_ | refine BdK.mk (by omega) (by omega) (by omega) ?_ | refine InsK.lit (by omega) (by omega) ?_ | refine SpK.lit ?_ | refine GrdK.same ?_ | refine GrdK.tf ?_ | refine GrdK.ft ?_ | refine PickK.t ?_ | refine PickK.f ?_); (conv => whnf))
            have hn4 := num_take_lt (bb.drop o) 4
            have e4 : IntKind.u64.wrap ((num ((bb.drop o).take 4) : Nat) : Int) = (((UInt64.ofNat (num ((bb.drop o).take 4))).toNat : Nat) : Int) := by
              rw [IntWalk.u64_in _ (by omega), ofNat_toNat (by omega)]
            rw [e4]
            refine CallK.cast [vU64 (h0 ^^^ UInt64.ofNat (num ((bb.drop o).take 4)) * p1), .int .i64 (23 : Nat)] (by simp only [vU64, w_xor, w_mul, p1_int]; rfl) ?_
            refine CallK.of0 (rotl_spec (h0 ^^^ UInt64.ofNat (num ((bb.drop o).take 4)) * p1) 23 (by omega) (by omega)) ?_
            rintro _ _ ⟨rfl, rfl⟩
            (conv => whnf); repeat ((first | refine RngK.mk (by omega) (by omega) ?_ | refine NzK.mk (by omega) ?_ | refine NnK.mk (by omega) ?_ | refine BdK.mk (by omega) (by omega) (by omega) ?_ | refine InsK.lit (by omega) (by omega) ?_ | refine SpK.lit ?_ | refine GrdK.same ?_ | refine GrdK.tf ?_ | refine GrdK.ft ?_ | refine PickK.t ?_ | refine PickK.f ?_); (conv => whnf))
            have e4' : num (((tl all).drop o).take 4) = num ((bb.drop o).take 4) := by rw [← ht0, take_pre bb (by omega)]
            refine ⟨(o + 4, h4 h0 ((tl all).drop o)), ⟨rfl, ?_, ?_, ?_, trivial⟩, HSub.refl _, ?_, ?_⟩
            · show some _ = some _
              simp only [vU64, h4, e4', w_add, w_mul, p2_int, p3_int]
            · show some _ = some _
              congr 2
              rw [IntWalk.u64_in _ (by omega)]
              omega
            · show some (Value.slice (cutA (some ⟨b, 5 + o, none⟩) 4 (32 - o) 1) _ _) = some _
              rw [cutA_lt (by omega)]
              rfl
            · simp only; omega
            · simp only [fin4] at hu
              rw [if_pos (by rw [List.length_drop]; omega), List.drop_drop] at hu
              exact hu
          · have h1 := dF h1
            (conv => whnf); repeat ((first | refine RngK.mk (by omega) (by omega) ?_ | refine NzK.mk (by omega) ?_ | refine NnK.mk (by omega) ?_ | refine BdK.mk (by omega) (by omega) (by omega) ?_ | refine InsK.lit (by omega) (by omega) ?_ | refine SpK.lit ?_ | refine GrdK.same ?_ | refine GrdK.tf ?_ | refine GrdK.ft ?_ | refine PickK.t ?_ | refine PickK.f ?_); (conv => whnf))
            refine ⟨(o, h0), ⟨rfl, rfl, rfl, rfl, trivial⟩, HSub.refl _, ho, ?_⟩
            simp only [fin4] at hu
            rw [if_neg (by rw [List.length_drop]; omega)] at hu
            exact hu
        · dsimp only at ho hu ⊢
          (conv => whnf); repeat ((first | refine RngK.mk (by omega) (by omega) ?_ | refine NzK.mk (by omega) ?_ | refine NnK.mk (by omega) ?_ | refine BdK.mk (by omega) (by omega) (by omega) ?_ | refine InsK.lit (by omega) (by omega) ?_ | refine SpK.lit ?_ | refine GrdK.same ?_ | refine GrdK.tf ?_ | refine GrdK.ft ?_ | refine PickK.t ?_ | refine PickK.f ?_); (conv => whnf))
          refine Wp.loop (fun x : Nat × UInt64 => [(0, .pointer (some ⟨b, 0, none⟩)), (3, vU64 x.2), (4, .int .u64 ((k - x.1 : Nat) : Int)), (5, .slice (some ⟨b, 5 + x.1, none⟩) (32 - x.1) (32 - x.1))])
            (fun _ => [.blk b 48 (xh all.length s (bb.map vU8) k)]) (fun x => x.1 ≤ k ∧ hashU all = last3 (last2 (last1 (fin1 (x.2, (tl all).drop x.1))))) (fun x => k - x.1) (o, h0)
            ⟨rfl, rfl, rfl, rfl, trivial⟩ (HSub.refl _) ⟨ho, hu⟩ fun ⟨o, h0⟩ ⟨ho, hu⟩ => ?_
          dsimp only at ho hu ⊢
          (conv => whnf); repeat ((first | refine RngK.mk (by omega) (by omega) ?_ | refine NzK.mk (by omega) ?_ | refine NnK.mk (by omega) ?_ | refine BdK.mk (by omega) (by omega) (by omega) ?_ | refine InsK.lit (by omega) (by omega) ?_ | refine SpK.lit ?_ | refine GrdK.same ?_ | refine GrdK.tf ?_ | refine GrdK.ft ?_ | refine PickK.t ?_ | refine PickK.f ?_); (conv => whnf))
          refine Wp.cond rfl (fun h1 => ?_) (fun h1 => ?_)
          · have h1 := dT h1
            have ho' : o < bb.length := by omega
            have hto : o < (tl all).length := by omega
            have hx : (tl all)[o] = bb[o] := by simp only [← ht0, List.getElem_take]
            have hby := bb[o].toNat_lt
            (conv => whnf); repeat ((first | refine RngK.mk (by omega) (by omega) ?_ | refine NzK.mk (by omega) ?_ | refine NnK.mk (by omega) ?_ | refine BdK.mk (by omega) (by omega) (by omega) ?_ | refine InsK.lit (by omega) (by omega) ?_ | refine SpK.lit ?_ | refine GrdK.same ?_ | refine GrdK.tf ?_ | refine GrdK.ft ?_ | refine PickK.t ?_ | refine PickK.f ?_); (conv => whnf))
            refine LdK.blk 0 rfl rfl rfl (xh_at ho') ?_
            (conv => whnf); repeat ((first | refine RngK.mk (by omega) (by omega) ?_ | refine NzK.mk (by omega) ?_ | refine NnK.mk (by omega) ?_ | refine BdK.mk (by omega) (by omega) (by omega) ?_ | refine InsK.lit (by omega) (by omega) ?_ | refine SpK.lit ?_ | refine GrdK.same ?_ | refine GrdK.tf ?_ | refine GrdK.ft ?_ | refine PickK.t ?_ | refine PickK.f ?_); (conv => whnf))
            have eb : IntKind.u64.wrap ((bb[o].toNat : Nat) : Int) = (((UInt64.ofNat bb[o].toNat).toNat : Nat) : Int) := by rw [w_len]
            refine CallK.cast [vU64 (h0 ^^^ UInt64.ofNat bb[o].toNat * p5), .int .i64 (11 : Nat)] (by simp only [vU64, w_xor, w_mul, p5_int, ← eb]; rfl) ?_
            refine CallK.of0 (rotl_spec (h0 ^^^ UInt64.ofNat bb[o].toNat * p5) 11 (by omega) (by omega)) ?_
            rintro _ _ ⟨rfl, rfl⟩
            (conv => whnf); repeat ((first | refine RngK.mk (by omega) (by omega) ?_ | refine NzK.mk (by omega) ?_ | refine NnK.mk (by omega) ?_ | refine BdK.mk (by omega) (by omega) (by omega) ?_ | refine InsK.lit (by omega) (by omega) ?_ | refine SpK.lit ?_ | refine GrdK.same ?_ | refine GrdK.tf ?_ | refine GrdK.ft ?_ | refine PickK.t ?_ | refine PickK.f ?_); (conv => whnf))
            refine ⟨(o + 1, h1U h0 bb[o]), ⟨rfl, ?_, ?_, ?_, trivial⟩, HSub.refl _, ⟨?_, ?_⟩, ?_⟩
            · show some _ = some _
              simp only [vU64, h1U, w_mul, p1_int]
            · show some _ = some _
              congr 2
              rw [IntWalk.u64_in _ (by omega)]
              omega
            · show some (Value.slice (cutA (some ⟨b, 5 + o, none⟩) 1 (32 - o) 1) _ _) = some _
              rw [cutA_lt (by omega)]
              rfl
            · simp only; omega
            · rw [hu, drop_at hto, hx]
              simp only [fin1, List.foldl_cons]
            · simp only; omega
          · have h1 := dF h1
            obtain rfl : o = k := by omega
            rw [List.drop_of_length_le (by omega)] at hu
            (conv => whnf); repeat ((first | refine RngK.mk (by omega) (by omega) ?_ | refine NzK.mk (by omega) ?_ | refine NnK.mk (by omega) ?_ | refine BdK.mk (by omega) (by omega) (by omega) ?_ | refine InsK.lit (by omega) (by omega) ?_ | refine SpK.lit ?_ | refine GrdK.same ?_ | refine GrdK.tf ?_ | refine GrdK.ft ?_ | refine PickK.t ?_ | refine PickK.f ?_); (conv => whnf))
            refine ⟨[], HSub.nil _, ?_, rfl⟩
            rw [hu]
            have e0 : fin1 (h0, []) = h0 := rfl
            rw [e0]
            simp only [vU64, last1, last2, last3, w_xor, w_mul, p2_int, p3_int, w_shr' _ 33 (by omega), w_shr' _ 29 (by omega), w_shr' _ 32 (by omega)]
            rfl
end Go.Proofs.Ytnmejcgkgimgoaa
