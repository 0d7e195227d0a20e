/- The checksum: the accumulators of the reference, what is behind whole pieces, and the reference itself. -/
import Derived.Test.YtnmejcgkgimgoaaHb
import Derived.Test.YtnmejcgkgimgoaaSy
namespace Go.Proofs.Ytnmejcgkgimgoaa
open Go Go.Sx
def vs4 (s : A4) : List Value := [vU64 s.a, vU64 s.b, vU64 s.c, vU64 s.d]
def at4 (s : A4) : Nat → UInt64
  | 0 => s.a
  | 1 => s.b
  | 2 => s.c
  | _ => s.d
theorem four_cases {k : Nat} (h : k < 4) : k = 0 ∨ k = 1 ∨ k = 2 ∨ k = 3 := by omega
theorem mid_get (s t : A4) {k : Nat} (hk : k < 4) : ((vs4 t).take k ++ (vs4 s).drop k)[k]? = some (vU64 (at4 s k)) := by
  rcases four_cases hk with rfl | rfl | rfl | rfl <;> rfl
theorem mid_set (s t : A4) {k : Nat} (hk : k < 4) : ((vs4 t).take k ++ (vs4 s).drop k).set k (vU64 (at4 t k)) = (vs4 t).take (k + 1) ++ (vs4 s).drop (k + 1) := by
  rcases four_cases hk with rfl | rfl | rfl | rfl <;> rfl
theorem vs4_get (s : A4) {k : Nat} (hk : k < 4) : (vs4 s)[k]? = some (vU64 (at4 s k)) := by
  rcases four_cases hk with rfl | rfl | rfl | rfl <;> rfl
theorem step_at (s : A4) (bs : List UInt8) {k : Nat} (hk : k < 4) : at4 (stepA s bs) k = roundU (at4 s k) (num8 (bs.drop (8 * k))) := by
  rcases four_cases hk with rfl | rfl | rfl | rfl <;> rfl
abbrev OwnA4 (E : TypeId) (s : A4) : Value → Hp → Prop := fun v H => ∃ b, v = .slice (some ⟨b, 0, none⟩) 4 4 ∧ H = [.own (some ⟨b, 0, none⟩) 4 4 E 1 (vs4 s)]
theorem lanes_spec (A : Option Addr) (n c : Nat) (bs : List UInt8) : FnS Try.prog 17 [.slice A n c] [] (fun w => Bytes w (blocks []) A n c bs) (OwnA4 22 (lanes acc0 bs)) := by
  refine FnS.intro Try.func17 rfl (by kernel_rfl) rfl fun w hH hp => ?_
  obtain rfl : bs.length = n := hp.len
  conv => whnf
  refine EffK.litV rfl rfl rfl rfl rfl rfl rfl rfl rfl ?_
  conv => whnf
  intro b
  conv => whnf
  refine Wp.loop (fun s : Option Addr × Nat × List UInt8 × A4 => [(0, .slice s.1 s.2.2.1.length s.2.1), (5, .slice (some ⟨b, 0, none⟩) 4 4)])
    (fun s => [.own (some ⟨b, 0, none⟩) 4 4 22 1 (vs4 s.2.2.2)]) (fun s => Bytes w (blocks []) s.1 s.2.2.1.length s.2.1 s.2.2.1 ∧ lanes s.2.2.2 s.2.2.1 = lanes acc0 bs) (fun s => s.2.2.1.length) (A, c, bs, acc0)
    ⟨rfl, rfl, trivial⟩ (HSub.refl _) ⟨hp, rfl⟩ fun ⟨A, c, r, s⟩ ⟨hp, he⟩ => ?_
  dsimp only at hp he ⊢
  have hcm := hp.max
  have hcl := hp.le
  simp [maxLen] at hcm
  conv => whnf
  refine Wp.cond rfl (fun h => ?_) (fun h => ?_)
  · have h := dT h
    conv => whnf
    refine Wp.loop (fun k : Nat => [(0, .slice A r.length c), (5, .slice (some ⟨b, 0, none⟩) 4 4), (17, .slice (some ⟨b, 0, none⟩) 4 4), (18, vI 4), (19, vI k)])
      (fun k => [.own (some ⟨b, 0, none⟩) 4 4 22 1 ((vs4 (stepA s r)).take k ++ (vs4 s).drop k)]) (fun k => k ≤ 4) (fun k => 4 - k) 0
      ⟨rfl, rfl, rfl, rfl, rfl, trivial⟩ (HSub.refl _) (Nat.zero_le _) fun k hk => ?_
    conv => whnf
    refine Wp.cond rfl (fun h1 => ?_) (fun h1 => ?_)
    · have h1 := dT h1
      have hk4 : k < 4 := by omega
      conv => whnf
      refine DrwK.ord (by kernel_rfl) [0, 1, 2, 3, 4, 5, 6, 7, 8, 9, 10, 11, 12, 13, 14, 15, 16] (by kernel_rfl) ?_; conv => whnf
      refine InsK.lit (by omega) (by omega) ?_
      conv => whnf
      refine LdK.own 0 k rfl rfl rfl rfl (mid_get s _ hk4) ?_
      conv => whnf
      refine RngK.mk (by omega) (by omega) ?_
      conv => whnf
      refine RngK.mk (by omega) (by omega) ?_
      conv => whnf
      refine RngK.mk (by omega) (by omega) ?_
      conv => whnf
      refine BdK.mk (by omega) (by omega) (by omega) ?_
      conv => whnf
      refine hp.sp (by omega) ?_
      conv => whnf
      have e1 : (8 * (k : Int)).toNat = 8 * k := by omega
      have e2 : (8 * (k : Int) + 8).toNat - 8 * k = 8 := by omega
      rw [e1, e2]
      refine CallK.of [] (number_spec (cutA A (8 * k) c 1) 8 (c - 8 * k) ((r.drop (8 * k)).take 8) (by omega)) rfl (fun w hw => ((hp.cut (l := 8 * k) (q := 8) (by omega)).pass hw).rd) ?_
      rintro _ _ ⟨rfl, rfl⟩
      conv => whnf
      refine KfK.of (LdK.own 0 k rfl rfl rfl rfl (mid_get s _ hk4) rfl) ?_
      conv => whnf
      refine CallK.of0 (sround_spec (at4 s k) (num8 (r.drop (8 * k)))) ?_
      rintro _ _ ⟨rfl, rfl⟩
      conv => whnf
      refine KfK.of (LdK.own 0 k rfl rfl rfl rfl (mid_get s _ hk4) rfl) ?_
      conv => whnf
      refine InsK.lit (by omega) (by omega) ?_
      conv => whnf
      refine StK.own 0 k rfl ⟨b, rfl⟩ rfl rfl rfl rfl (by simp [vs4]; omega) ?_
      conv => whnf
      refine RngK.mk (by omega) (by omega) ?_
      conv => whnf
      rw [← step_at s r hk4, mid_set s _ hk4]
      exact ⟨k + 1, ⟨rfl, rfl, rfl, rfl, rfl, trivial⟩, HSub.refl _, by omega, by omega⟩
    · have h1 := dF h1
      obtain rfl : k = 4 := by omega
      conv => whnf
      refine BdK.mk (by omega) (by omega) (by omega) ?_
      conv => whnf
      refine hp.sp (l := 32) (by omega) ?_
      conv => whnf
      refine ⟨(cutA A 32 c 1, c - 32, r.drop 32, stepA s r), ⟨?_, rfl, trivial⟩, HSub.refl _, ⟨?_, ?_⟩, ?_⟩
      · show some _ = some _
        congr 2
        simp
      · have := hp.from_ (l := 32) (by omega)
        rw [← List.length_drop] at this
        exact this
      · rw [← he, lanes_cons s (by omega)]
      · simp only [List.length_drop]
        omega
  · have h := dF h
    conv => whnf
    refine ⟨b, rfl, ?_⟩
    rw [lanes_short s (by omega)] at he
    rw [he]
theorem tail_spec (A : Option Addr) (n c : Nat) (bs : List UInt8) : FnS Try.prog 19 [.slice A n c] [] (fun w => Bytes w (blocks []) A n c bs)
    (Is (.slice (cutA A (n / 32 * 32) c 1) (n - n / 32 * 32) (c - n / 32 * 32))) := by
  refine FnS.intro Try.func19 rfl (by kernel_rfl) rfl fun w hH hp => ?_
  have hcm := hp.max
  have hcl := hp.le
  simp [maxLen] at hcm
  have e : (n : Int).tdiv 32 = ((n / 32 : Nat) : Int) := rfl
  (conv => whnf); repeat ((first | refine RngK.mk (by omega) (by omega) ?_ | refine NzK.mk (by omega) ?_ | refine NnK.mk (by omega) ?_ | refine BdK.mk (by omega) (by omega) (by omega) ?_ | refine InsK.lit (by omega) (by omega) ?_ | refine SpK.lit ?_ | refine GrdK.same ?_ | refine GrdK.tf ?_ | refine GrdK.ft ?_ | refine PickK.t ?_ | refine PickK.f ?_); (conv => whnf))
  rw [e]
  (conv => whnf); repeat ((first | refine RngK.mk (by omega) (by omega) ?_ | refine NzK.mk (by omega) ?_ | refine NnK.mk (by omega) ?_ | refine BdK.mk (by omega) (by omega) (by omega) ?_ | refine InsK.lit (by omega) (by omega) ?_ | refine SpK.lit ?_ | refine GrdK.same ?_ | refine GrdK.tf ?_ | refine GrdK.ft ?_ | refine PickK.t ?_ | refine PickK.f ?_); (conv => whnf))
  have e : (((n / 32 : Nat) : Int) * 32).toNat = n / 32 * 32 := by omega
  rw [e]
  refine hp.sp (by omega) ?_
  conv => whnf
  exact ⟨rfl, rfl⟩
def mg (s : A4) (h : UInt64) : Nat → UInt64
  | 0 => h
  | k + 1 => mergeU (mg s h k) (at4 s k)
theorem start_mg (s : A4) : startU s = mg s (rotl s.a 1 + rotl s.b 7 + rotl s.c 12 + rotl s.d 18) 4 := rfl
theorem hash_spec (A : Option Addr) (n c : Nat) (bs : List UInt8) : FnS Try.prog 21 [.slice A n c] [] (fun w => Bytes w (blocks []) A n c bs) (Is (vU64 (hashU bs))) := by
  refine FnS.introD Try.func21 rfl (by kernel_rfl) rfl fun w hH hp => ?_
  obtain rfl : bs.length = n := hp.len
  have hcm := hp.max
  have hcl := hp.le
  simp [maxLen] at hcm
  (conv => whnf); repeat ((first | refine RngK.mk (by omega) (by omega) ?_ | refine NzK.mk (by omega) ?_ | refine NnK.mk (by omega) ?_ | refine BdK.mk (by omega) (by omega) (by omega) ?_ | refine InsK.lit (by omega) (by omega) ?_ | refine SpK.lit ?_ | refine GrdK.same ?_ | refine GrdK.tf ?_ | refine GrdK.ft ?_ | refine PickK.t ?_ | refine PickK.f ?_); (conv => whnf))
  refine Wp.cut (fun _ : Unit => [(0, .slice A bs.length c), (3, vU64 (if 32 ≤ bs.length then startU (lanes acc0 bs) else p5))]) (fun _ => []) (fun _ => True) ?_ fun _ _ => ?_
  · refine Wp.cond rfl (fun h => ?_) (fun h => ?_)
    · have h := dT h
      rw [if_pos (by omega), start_mg]
      (conv => whnf); repeat ((first | refine RngK.mk (by omega) (by omega) ?_ | refine NzK.mk (by omega) ?_ | refine NnK.mk (by omega) ?_ | refine BdK.mk (by omega) (by omega) (by omega) ?_ | refine InsK.lit (by omega) (by omega) ?_ | refine SpK.lit ?_ | refine GrdK.same ?_ | refine GrdK.tf ?_ | refine GrdK.ft ?_ | refine PickK.t ?_ | refine PickK.f ?_); (conv => whnf))
      refine CallK.of [] (lanes_spec A bs.length c bs) rfl (fun w hw => hp.pass hw) ?_
      rintro _ _ ⟨b, rfl, rfl⟩
      generalize lanes acc0 bs = s
      (conv => whnf); repeat ((first | refine RngK.mk (by omega) (by omega) ?_ | refine NzK.mk (by omega) ?_ | refine NnK.mk (by omega) ?_ | refine BdK.mk (by omega) (by omega) (by omega) ?_ | refine InsK.lit (by omega) (by omega) ?_ | refine SpK.lit ?_ | refine GrdK.same ?_ | refine GrdK.tf ?_ | refine GrdK.ft ?_ | refine PickK.t ?_ | refine PickK.f ?_); (conv => whnf))
      refine DrwK.ord (by kernel_rfl) [0, 1, 2, 4, 5, 6, 9, 10, 11, 14, 15, 16, 3, 7, 8, 12, 13, 17, 18, 19] (by kernel_rfl) ?_; conv => whnf
      (conv => whnf); repeat ((first | refine RngK.mk (by omega) (by omega) ?_ | refine NzK.mk (by omega) ?_ | refine NnK.mk (by omega) ?_ | refine BdK.mk (by omega) (by omega) (by omega) ?_ | refine InsK.lit (by omega) (by omega) ?_ | refine SpK.lit ?_ | refine GrdK.same ?_ | refine GrdK.tf ?_ | refine GrdK.ft ?_ | refine PickK.t ?_ | refine PickK.f ?_); (conv => whnf))
      refine LdK.own 0 0 rfl rfl rfl rfl rfl ?_
      (conv => whnf); repeat ((first | refine RngK.mk (by omega) (by omega) ?_ | refine NzK.mk (by omega) ?_ | refine NnK.mk (by omega) ?_ | refine BdK.mk (by omega) (by omega) (by omega) ?_ | refine InsK.lit (by omega) (by omega) ?_ | refine SpK.lit ?_ | refine GrdK.same ?_ | refine GrdK.tf ?_ | refine GrdK.ft ?_ | refine PickK.t ?_ | refine PickK.f ?_); (conv => whnf))
      refine LdK.own 0 1 rfl rfl rfl rfl rfl ?_
      (conv => whnf); repeat ((first | refine RngK.mk (by omega) (by omega) ?_ | refine NzK.mk (by omega) ?_ | refine NnK.mk (by omega) ?_ | refine BdK.mk (by omega) (by omega) (by omega) ?_ | refine InsK.lit (by omega) (by omega) ?_ | refine SpK.lit ?_ | refine GrdK.same ?_ | refine GrdK.tf ?_ | refine GrdK.ft ?_ | refine PickK.t ?_ | refine PickK.f ?_); (conv => whnf))
      refine LdK.own 0 2 rfl rfl rfl rfl rfl ?_
      (conv => whnf); repeat ((first | refine RngK.mk (by omega) (by omega) ?_ | refine NzK.mk (by omega) ?_ | refine NnK.mk (by omega) ?_ | refine BdK.mk (by omega) (by omega) (by omega) ?_ | refine InsK.lit (by omega) (by omega) ?_ | refine SpK.lit ?_ | refine GrdK.same ?_ | refine GrdK.tf ?_ | refine GrdK.ft ?_ | refine PickK.t ?_ | refine PickK.f ?_); (conv => whnf))
      refine LdK.own 0 3 rfl rfl rfl rfl rfl ?_
      (conv => whnf); repeat ((first | refine RngK.mk (by omega) (by omega) ?_ | refine NzK.mk (by omega) ?_ | refine NnK.mk (by omega) ?_ | refine BdK.mk (by omega) (by omega) (by omega) ?_ | refine InsK.lit (by omega) (by omega) ?_ | refine SpK.lit ?_ | refine GrdK.same ?_ | refine GrdK.tf ?_ | refine GrdK.ft ?_ | refine PickK.t ?_ | refine PickK.f ?_); (conv => whnf))
      refine CallK.of0 (turned_spec s.a 1 (by omega)) ?_
      rintro _ _ ⟨rfl, rfl⟩
      (conv => whnf); repeat ((first | refine RngK.mk (by omega) (by omega) ?_ | refine NzK.mk (by omega) ?_ | refine NnK.mk (by omega) ?_ | refine BdK.mk (by omega) (by omega) (by omega) ?_ | refine InsK.lit (by omega) (by omega) ?_ | refine SpK.lit ?_ | refine GrdK.same ?_ | refine GrdK.tf ?_ | refine GrdK.ft ?_ | refine PickK.t ?_ | refine PickK.f ?_); (conv => whnf))
      repeat (refine KfK.of (LdK.own 0 _ rfl rfl rfl rfl rfl rfl) ?_; conv => whnf)
      refine CallK.of0 (turned_spec s.b 7 (by omega)) ?_
      rintro _ _ ⟨rfl, rfl⟩
      (conv => whnf); repeat ((first | refine RngK.mk (by omega) (by omega) ?_ | refine NzK.mk (by omega) ?_ | refine NnK.mk (by omega) ?_ | refine BdK.mk (by omega) (by omega) (by omega) ?_ | refine InsK.lit (by omega) (by omega) ?_ | refine SpK.lit ?_ | refine GrdK.same ?_ | refine GrdK.tf ?_ | refine GrdK.ft ?_ | refine PickK.t ?_ | refine PickK.f ?_); (conv => whnf))
      repeat (refine KfK.of (LdK.own 0 _ rfl rfl rfl rfl rfl rfl) ?_; conv => whnf)
      refine CallK.of0 (turned_spec s.c 12 (by omega)) ?_
      rintro _ _ ⟨rfl, rfl⟩
      (conv => whnf); repeat ((first | refine RngK.mk (by omega) (by omega) ?_ | refine NzK.mk (by omega) ?_ | refine NnK.mk (by omega) ?_ | refine BdK.mk (by omega) (by omega) (by omega) ?_ | refine InsK.lit (by omega) (by omega) ?_ | refine SpK.lit ?_ | refine GrdK.same ?_ | refine GrdK.tf ?_ | refine GrdK.ft ?_ | refine PickK.t ?_ | refine PickK.f ?_); (conv => whnf))
      repeat (refine KfK.of (LdK.own 0 _ rfl rfl rfl rfl rfl rfl) ?_; conv => whnf)
      refine CallK.of0 (turned_spec s.d 18 (by omega)) ?_
      rintro _ _ ⟨rfl, rfl⟩
      (conv => whnf); repeat ((first | refine RngK.mk (by omega) (by omega) ?_ | refine NzK.mk (by omega) ?_ | refine NnK.mk (by omega) ?_ | refine BdK.mk (by omega) (by omega) (by omega) ?_ | refine InsK.lit (by omega) (by omega) ?_ | refine SpK.lit ?_ | refine GrdK.same ?_ | refine GrdK.tf ?_ | refine GrdK.ft ?_ | refine PickK.t ?_ | refine PickK.f ?_); (conv => whnf))
      repeat (refine KfK.of (LdK.own 0 _ rfl rfl rfl rfl rfl rfl) ?_; conv => whnf)
      refine Wp.loop (fun k : Nat => [(0, .slice A bs.length c), (34, .slice (some ⟨b, 0, none⟩) 4 4), (35, vI 4), (36, vI k), (3, vU64 (mg s (rotl s.a 1 + rotl s.b 7 + rotl s.c 12 + rotl s.d 18) k))])
        (fun _ => [.own (some ⟨b, 0, none⟩) 4 4 22 1 (vs4 s)]) (fun k => k ≤ 4) (fun k => 4 - k) 0
        ⟨rfl, rfl, rfl, rfl, ?_, trivial⟩ (HSub.refl _) (Nat.zero_le _) fun k hk => ?_
      · show some _ = some _
        simp only [mg, vU64, w_add]
      · generalize rotl s.a 1 + rotl s.b 7 + rotl s.c 12 + rotl s.d 18 = g
        (conv => whnf); repeat ((first | refine RngK.mk (by omega) (by omega) ?_ | refine NzK.mk (by omega) ?_ | refine NnK.mk (by omega) ?_ | refine BdK.mk (by omega) (by omega) (by omega) ?_ | refine InsK.lit (by omega) (by omega) ?_ | refine SpK.lit ?_ | refine GrdK.same ?_ | refine GrdK.tf ?_ | refine GrdK.ft ?_ | refine PickK.t ?_ | refine PickK.f ?_); (conv => whnf))
        refine Wp.cond rfl (fun h1 => ?_) (fun h1 => ?_)
        · have h1 := dT h1
          have hk4 : k < 4 := by omega
          (conv => whnf); repeat ((first | refine RngK.mk (by omega) (by omega) ?_ | refine NzK.mk (by omega) ?_ | refine NnK.mk (by omega) ?_ | refine BdK.mk (by omega) (by omega) (by omega) ?_ | refine InsK.lit (by omega) (by omega) ?_ | refine SpK.lit ?_ | refine GrdK.same ?_ | refine GrdK.tf ?_ | refine GrdK.ft ?_ | refine PickK.t ?_ | refine PickK.f ?_); (conv => whnf))
          refine LdK.own 0 k rfl rfl rfl rfl (vs4_get s hk4) ?_
          (conv => whnf); repeat ((first | refine RngK.mk (by omega) (by omega) ?_ | refine NzK.mk (by omega) ?_ | refine NnK.mk (by omega) ?_ | refine BdK.mk (by omega) (by omega) (by omega) ?_ | refine InsK.lit (by omega) (by omega) ?_ | refine SpK.lit ?_ | refine GrdK.same ?_ | refine GrdK.tf ?_ | refine GrdK.ft ?_ | refine PickK.t ?_ | refine PickK.f ?_); (conv => whnf))
          refine CallK.of0 (smerge_spec (mg s g k) (at4 s k)) ?_
          rintro _ _ ⟨rfl, rfl⟩
          (conv => whnf); repeat ((first | refine RngK.mk (by omega) (by omega) ?_ | refine NzK.mk (by omega) ?_ | refine NnK.mk (by omega) ?_ | refine BdK.mk (by omega) (by omega) (by omega) ?_ | refine InsK.lit (by omega) (by omega) ?_ | refine SpK.lit ?_ | refine GrdK.same ?_ | refine GrdK.tf ?_ | refine GrdK.ft ?_ | refine PickK.t ?_ | refine PickK.f ?_); (conv => whnf))
          exact ⟨k + 1, ⟨rfl, rfl, rfl, rfl, rfl, trivial⟩, HSub.refl _, by omega, by omega⟩
        · have h1 := dF h1
          obtain rfl : k = 4 := by omega
          (conv => whnf); repeat ((first | refine RngK.mk (by omega) (by omega) ?_ | refine NzK.mk (by omega) ?_ | refine NnK.mk (by omega) ?_ | refine BdK.mk (by omega) (by omega) (by omega) ?_ | refine InsK.lit (by omega) (by omega) ?_ | refine SpK.lit ?_ | refine GrdK.same ?_ | refine GrdK.tf ?_ | refine GrdK.ft ?_ | refine PickK.t ?_ | refine PickK.f ?_); (conv => whnf))
          exact ⟨(), ⟨rfl, rfl, trivial⟩, HSub.nil _, trivial⟩
    · have h := dF h
      rw [if_neg (by omega)]
      (conv => whnf); repeat ((first | refine RngK.mk (by omega) (by omega) ?_ | refine NzK.mk (by omega) ?_ | refine NnK.mk (by omega) ?_ | refine BdK.mk (by omega) (by omega) (by omega) ?_ | refine InsK.lit (by omega) (by omega) ?_ | refine SpK.lit ?_ | refine GrdK.same ?_ | refine GrdK.tf ?_ | refine GrdK.ft ?_ | refine PickK.t ?_ | refine PickK.f ?_); (conv => whnf))
      exact ⟨(), ⟨rfl, rfl, trivial⟩, HSub.refl _, trivial⟩
  · have hu : hashU bs = last3 (last2 (last1 (fin1 (fin4 (fin8 ((if 32 ≤ bs.length then startU (lanes acc0 bs) else p5) + UInt64.ofNat bs.length) (tl bs)))))) := rfl
    revert hu
    generalize (if 32 ≤ bs.length then startU (lanes acc0 bs) else p5) = g
    intro hu
    (conv => whnf); repeat ((first | refine RngK.mk (by omega) (by omega) ?_ | refine NzK.mk (by omega) ?_ | refine NnK.mk (by omega) ?_ | refine BdK.mk (by omega) (by omega) (by omega) ?_ | refine InsK.lit (by omega) (by omega) ?_ | refine SpK.lit ?_ | refine GrdK.same ?_ | refine GrdK.tf ?_ | refine GrdK.ft ?_ | refine PickK.t ?_ | refine PickK.f ?_); (conv => whnf))
    refine CallK.of [] (tail_spec A bs.length c bs) rfl (fun w hw => hp.pass hw) ?_
    rintro _ _ ⟨rfl, rfl⟩
    (conv => whnf); repeat ((first | refine RngK.mk (by omega) (by omega) ?_ | refine NzK.mk (by omega) ?_ | refine NnK.mk (by omega) ?_ | refine BdK.mk (by omega) (by omega) (by omega) ?_ | refine InsK.lit (by omega) (by omega) ?_ | refine SpK.lit ?_ | refine GrdK.same ?_ | refine GrdK.tf ?_ | refine GrdK.ft ?_ | refine PickK.t ?_ | refine PickK.f ?_); (conv => whnf))
    have hpt : Bytes w (blocks []) (cutA A (bs.length / 32 * 32) c 1) (tl bs).length (c - bs.length / 32 * 32) (tl bs) := by
      have := hp.from_ (l := bs.length / 32 * 32) (by omega)
      rw [← List.length_drop] at this
      exact this
    have hlt : bs.length - bs.length / 32 * 32 = (tl bs).length := by unfold tl; rw [List.length_drop]
    rw [hlt]
    refine Wp.loop (fun s : Option Addr × Nat × List UInt8 × UInt64 => [(7, .slice s.1 s.2.2.1.length s.2.1), (3, vU64 s.2.2.2)])
      (fun s => []) (fun s => Bytes w (blocks []) s.1 s.2.2.1.length s.2.1 s.2.2.1 ∧ fin8 s.2.2.2 s.2.2.1 = fin8 (g + UInt64.ofNat bs.length) (tl bs)) (fun s => s.2.2.1.length) (_, _, tl bs, g + UInt64.ofNat bs.length)
      ⟨rfl, ?_, trivial⟩ (HSub.refl _) ⟨hpt, rfl⟩ fun ⟨A, c, r, s⟩ ⟨hp, he⟩ => ?_
    · show some _ = some _
      simp only [vU64, w_add, w_len]
    · dsimp only at hp he ⊢
      have hcm := hp.max
      have hcl := hp.le
      simp [maxLen] at hcm
      (conv => whnf); repeat ((first | refine RngK.mk (by omega) (by omega) ?_ | refine NzK.mk (by omega) ?_ | refine NnK.mk (by omega) ?_ | refine BdK.mk (by omega) (by omega) (by omega) ?_ | refine InsK.lit (by omega) (by omega) ?_ | refine SpK.lit ?_ | refine GrdK.same ?_ | refine GrdK.tf ?_ | refine GrdK.ft ?_ | refine PickK.t ?_ | refine PickK.f ?_); (conv => whnf))
      refine Wp.cond rfl (fun h => ?_) (fun h => ?_)
      · have h := dT h
        (conv => whnf); repeat ((first | refine RngK.mk (by omega) (by omega) ?_ | refine NzK.mk (by omega) ?_ | refine NnK.mk (by omega) ?_ | refine BdK.mk (by omega) (by omega) (by omega) ?_ | refine InsK.lit (by omega) (by omega) ?_ | refine SpK.lit ?_ | refine GrdK.same ?_ | refine GrdK.tf ?_ | refine GrdK.ft ?_ | refine PickK.t ?_ | refine PickK.f ?_); (conv => whnf))
        refine hp.sp (by omega) ?_
        (conv => whnf); repeat ((first | refine RngK.mk (by omega) (by omega) ?_ | refine NzK.mk (by omega) ?_ | refine NnK.mk (by omega) ?_ | refine BdK.mk (by omega) (by omega) (by omega) ?_ | refine InsK.lit (by omega) (by omega) ?_ | refine SpK.lit ?_ | refine GrdK.same ?_ | refine GrdK.tf ?_ | refine GrdK.ft ?_ | refine PickK.t ?_ | refine PickK.f ?_); (conv => whnf))
        refine CallK.of [] (number_spec (cutA A 0 c 1) 8 (c - 0) ((r.drop 0).take 8) (by omega)) rfl (fun w hw => ((hp.cut (l := 0) (q := 8) (by omega)).pass hw).rd) ?_
        rintro _ _ ⟨rfl, rfl⟩
        (conv => whnf); repeat ((first | refine RngK.mk (by omega) (by omega) ?_ | refine NzK.mk (by omega) ?_ | refine NnK.mk (by omega) ?_ | refine BdK.mk (by omega) (by omega) (by omega) ?_ | refine InsK.lit (by omega) (by omega) ?_ | refine SpK.lit ?_ | refine GrdK.same ?_ | refine GrdK.tf ?_ | refine GrdK.ft ?_ | refine PickK.t ?_ | refine PickK.f ?_); (conv => whnf))
        refine CallK.of0 (sround_spec 0 (num8 r)) ?_
        rintro _ _ ⟨rfl, rfl⟩
        (conv => whnf); repeat ((first | refine RngK.mk (by omega) (by omega) ?_ | refine NzK.mk (by omega) ?_ | refine NnK.mk (by omega) ?_ | refine BdK.mk (by omega) (by omega) (by omega) ?_ | refine InsK.lit (by omega) (by omega) ?_ | refine SpK.lit ?_ | refine GrdK.same ?_ | refine GrdK.tf ?_ | refine GrdK.ft ?_ | refine PickK.t ?_ | refine PickK.f ?_); (conv => whnf))
        refine CallK.cast [vU64 (s ^^^ roundU 0 (num8 r)), .int .i64 (27 : Nat)] (by simp only [vU64, w_xor]; rfl) ?_
        refine CallK.of0 (turned_spec (s ^^^ roundU 0 (num8 r)) 27 (by omega)) ?_
        rintro _ _ ⟨rfl, rfl⟩
        (conv => whnf); repeat ((first | refine RngK.mk (by omega) (by omega) ?_ | refine NzK.mk (by omega) ?_ | refine NnK.mk (by omega) ?_ | refine BdK.mk (by omega) (by omega) (by omega) ?_ | refine InsK.lit (by omega) (by omega) ?_ | refine SpK.lit ?_ | refine GrdK.same ?_ | refine GrdK.tf ?_ | refine GrdK.ft ?_ | refine PickK.t ?_ | refine PickK.f ?_); (conv => whnf))
        refine hp.sp (by omega) ?_
        (conv => whnf); repeat ((first | refine RngK.mk (by omega) (by omega) ?_ | refine NzK.mk (by omega) ?_ | refine NnK.mk (by omega) ?_ | refine BdK.mk (by omega) (by omega) (by omega) ?_ | refine InsK.lit (by omega) (by omega) ?_ | refine SpK.lit ?_ | refine GrdK.same ?_ | refine GrdK.tf ?_ | refine GrdK.ft ?_ | refine PickK.t ?_ | refine PickK.f ?_); (conv => whnf))
        refine ⟨(cutA A 8 c 1, c - 8, r.drop 8, h8 s r), ⟨?_, ?_, trivial⟩, HSub.refl _, ⟨?_, ?_⟩, ?_⟩
        · show some _ = some _
          congr 2
          simp
        · show some _ = some _
          simp only [vU64, h8, w_add, w_mul, p1_int, p4_int]
        · have := hp.from_ (l := 8) (by omega)
          rw [← List.length_drop] at this
          exact this
        · rw [← he, fin8_cons s (by omega)]
        · simp only [List.length_drop]
          omega
      · have h := dF h
        rw [fin8_short s (by omega)] at he
        rw [← he] at hu
        (conv => whnf); repeat ((first | refine RngK.mk (by omega) (by omega) ?_ | refine NzK.mk (by omega) ?_ | refine NnK.mk (by omega) ?_ | refine BdK.mk (by omega) (by omega) (by omega) ?_ | refine InsK.lit (by omega) (by omega) ?_ | refine SpK.lit ?_ | refine GrdK.same ?_ | refine GrdK.tf ?_ | refine GrdK.ft ?_ | refine PickK.t ?_ | refine PickK.f ?_); (conv => whnf))
        refine Wp.cut (fun s : Option Addr × Nat × List UInt8 × UInt64 => [(7, .slice s.1 s.2.2.1.length s.2.1), (3, vU64 s.2.2.2)]) (fun _ => [])
          (fun s => Bytes w (blocks []) s.1 s.2.2.1.length s.2.1 s.2.2.1 ∧ hashU bs = last3 (last2 (last1 (fin1 (s.2.2.2, s.2.2.1))))) ?_ fun ⟨A, c, r, s⟩ ⟨hp, hu⟩ => ?_
        · refine Wp.cond rfl (fun h => ?_) (fun h => ?_)
          · have h := dT h
            (conv => whnf); repeat ((first | refine RngK.mk (by omega) (by omega) ?_ | refine NzK.mk (by omega) ?_ | refine NnK.mk (by omega) ?_ | refine BdK.mk (by omega) (by omega) (by omega) ?_ | refine InsK.lit (by omega) (by omega) ?_ | refine SpK.lit ?_ | refine GrdK.same ?_ | refine GrdK.tf ?_ | refine GrdK.ft ?_ | refine PickK.t ?_ | refine PickK.f ?_); (conv => whnf))
            refine hp.sp (by omega) ?_
            (conv => whnf); repeat ((first | refine RngK.mk (by omega) (by omega) ?_ | refine NzK.mk (by omega) ?_ | refine NnK.mk (by omega) ?_ | refine BdK.mk (by omega) (by omega) (by omega) ?_ | refine InsK.lit (by omega) (by omega) ?_ | refine SpK.lit ?_ | refine GrdK.same ?_ | refine GrdK.tf ?_ | refine GrdK.ft ?_ | refine PickK.t ?_ | refine PickK.f ?_); (conv => whnf))
            refine CallK.of [] (number_spec (cutA A 0 c 1) 4 (c - 0) ((r.drop 0).take 4) (by omega)) rfl (fun w hw => ((hp.cut (l := 0) (q := 4) (by omega)).pass hw).rd) ?_
            rintro _ _ ⟨rfl, rfl⟩
            (conv => whnf); repeat ((first | refine RngK.mk (by omega) (by omega) ?_ | refine NzK.mk (by omega) ?_ | refine NnK.mk (by omega) ?_ | refine BdK.mk (by omega) (by omega) (by omega) ?_ | refine InsK.lit (by omega) (by omega) ?_ | refine SpK.lit ?_ | refine GrdK.same ?_ | refine GrdK.tf ?_ | refine GrdK.ft ?_ | refine PickK.t ?_ | refine PickK.f ?_); (conv => whnf))
            refine CallK.cast [vU64 (s ^^^ UInt64.ofNat (num (r.take 4)) * p1), .int .i64 (23 : Nat)] (by simp only [vU64, w_xor, w_mul, p1_int]; rfl) ?_
            refine CallK.of0 (turned_spec (s ^^^ UInt64.ofNat (num (r.take 4)) * p1) 23 (by omega)) ?_
            rintro _ _ ⟨rfl, rfl⟩
            (conv => whnf); repeat ((first | refine RngK.mk (by omega) (by omega) ?_ | refine NzK.mk (by omega) ?_ | refine NnK.mk (by omega) ?_ | refine BdK.mk (by omega) (by omega) (by omega) ?_ | refine InsK.lit (by omega) (by omega) ?_ | refine SpK.lit ?_ | refine GrdK.same ?_ | refine GrdK.tf ?_ | refine GrdK.ft ?_ | refine PickK.t ?_ | refine PickK.f ?_); (conv => whnf))
            refine hp.sp (by omega) ?_
            (conv => whnf); repeat ((first | refine RngK.mk (by omega) (by omega) ?_ | refine NzK.mk (by omega) ?_ | refine NnK.mk (by omega) ?_ | refine BdK.mk (by omega) (by omega) (by omega) ?_ | refine InsK.lit (by omega) (by omega) ?_ | refine SpK.lit ?_ | refine GrdK.same ?_ | refine GrdK.tf ?_ | refine GrdK.ft ?_ | refine PickK.t ?_ | refine PickK.f ?_); (conv => whnf))
            refine ⟨(cutA A 4 c 1, c - 4, r.drop 4, h4 s r), ⟨?_, ?_, trivial⟩, HSub.refl _, ⟨?_, ?_⟩⟩
            · show some _ = some _
              congr 2
              simp
            · show some _ = some _
              simp only [vU64, h4, w_add, w_mul, p2_int, p3_int]
            · have := hp.from_ (l := 4) (by omega)
              rw [← List.length_drop] at this
              exact this
            · simp only [fin4] at hu
              rw [if_pos (by omega)] at hu
              exact hu
          · have h := dF h
            (conv => whnf); repeat ((first | refine RngK.mk (by omega) (by omega) ?_ | refine NzK.mk (by omega) ?_ | refine NnK.mk (by omega) ?_ | refine BdK.mk (by omega) (by omega) (by omega) ?_ | refine InsK.lit (by omega) (by omega) ?_ | refine SpK.lit ?_ | refine GrdK.same ?_ | refine GrdK.tf ?_ | refine GrdK.ft ?_ | refine PickK.t ?_ | refine PickK.f ?_); (conv => whnf))
            refine ⟨(A, c, r, s), ⟨rfl, rfl, trivial⟩, HSub.refl _, ⟨hp, ?_⟩⟩
            simp only [fin4] at hu
            rw [if_neg (by omega)] at hu
            exact hu
        · dsimp only at hp hu ⊢
          have hcm := hp.max
          have hcl := hp.le
          simp [maxLen] at hcm
          (conv => whnf); repeat ((first | refine RngK.mk (by omega) (by omega) ?_ | refine NzK.mk (by omega) ?_ | refine NnK.mk (by omega) ?_ | refine BdK.mk (by omega) (by omega) (by omega) ?_ | refine InsK.lit (by omega) (by omega) ?_ | refine SpK.lit ?_ | refine GrdK.same ?_ | refine GrdK.tf ?_ | refine GrdK.ft ?_ | refine PickK.t ?_ | refine PickK.f ?_); (conv => whnf))
          refine Wp.loop (fun x : Nat × UInt64 => [(79, .slice A r.length c), (80, vI r.length), (81, vI x.1), (3, vU64 x.2)])
            (fun _ => []) (fun x => x.1 ≤ r.length ∧ fin1 (x.2, r.drop x.1) = fin1 (s, r)) (fun x => r.length - x.1) (0, s)
            ⟨rfl, rfl, rfl, rfl, trivial⟩ (HSub.refl _) ⟨Nat.zero_le _, rfl⟩ fun ⟨k, h0⟩ ⟨hk, hf⟩ => ?_
          dsimp only at hk hf ⊢
          (conv => whnf); repeat ((first | refine RngK.mk (by omega) (by omega) ?_ | refine NzK.mk (by omega) ?_ | refine NnK.mk (by omega) ?_ | refine BdK.mk (by omega) (by omega) (by omega) ?_ | refine InsK.lit (by omega) (by omega) ?_ | refine SpK.lit ?_ | refine GrdK.same ?_ | refine GrdK.tf ?_ | refine GrdK.ft ?_ | refine PickK.t ?_ | refine PickK.f ?_); (conv => whnf))
          refine Wp.cond rfl (fun h1 => ?_) (fun h1 => ?_)
          · have h1 := dT h1
            have hk' : k < r.length := by omega
            have hb := r[k].toNat_lt
            (conv => whnf); repeat ((first | refine RngK.mk (by omega) (by omega) ?_ | refine NzK.mk (by omega) ?_ | refine NnK.mk (by omega) ?_ | refine BdK.mk (by omega) (by omega) (by omega) ?_ | refine InsK.lit (by omega) (by omega) ?_ | refine SpK.lit ?_ | refine GrdK.same ?_ | refine GrdK.tf ?_ | refine GrdK.ft ?_ | refine PickK.t ?_ | refine PickK.f ?_); (conv => whnf))
            refine InsK.rd hp.rd (by omega) (by omega) ?_
            (conv => whnf); repeat ((first | refine RngK.mk (by omega) (by omega) ?_ | refine NzK.mk (by omega) ?_ | refine NnK.mk (by omega) ?_ | refine BdK.mk (by omega) (by omega) (by omega) ?_ | refine InsK.lit (by omega) (by omega) ?_ | refine SpK.lit ?_ | refine GrdK.same ?_ | refine GrdK.tf ?_ | refine GrdK.ft ?_ | refine PickK.t ?_ | refine PickK.f ?_); (conv => whnf))
            refine LdK.rd (v := vU8 r[k]) hp.rd k rfl rfl rfl (by simp [hk']) ?_
            (conv => whnf); repeat ((first | refine RngK.mk (by omega) (by omega) ?_ | refine NzK.mk (by omega) ?_ | refine NnK.mk (by omega) ?_ | refine BdK.mk (by omega) (by omega) (by omega) ?_ | refine InsK.lit (by omega) (by omega) ?_ | refine SpK.lit ?_ | refine GrdK.same ?_ | refine GrdK.tf ?_ | refine GrdK.ft ?_ | refine PickK.t ?_ | refine PickK.f ?_); (conv => whnf))
            have eb : IntKind.u64.wrap ((r[k].toNat : Nat) : Int) = (((UInt64.ofNat r[k].toNat).toNat : Nat) : Int) := by rw [w_len]
            refine CallK.cast [vU64 (h0 ^^^ UInt64.ofNat r[k].toNat * p5), .int .i64 (11 : Nat)] (by simp only [vU64, w_xor, w_mul, p5_int, ← eb]; rfl) ?_
            refine CallK.of0 (turned_spec (h0 ^^^ UInt64.ofNat r[k].toNat * p5) 11 (by omega)) ?_
            rintro _ _ ⟨rfl, rfl⟩
            (conv => whnf); repeat ((first | refine RngK.mk (by omega) (by omega) ?_ | refine NzK.mk (by omega) ?_ | refine NnK.mk (by omega) ?_ | refine BdK.mk (by omega) (by omega) (by omega) ?_ | refine InsK.lit (by omega) (by omega) ?_ | refine SpK.lit ?_ | refine GrdK.same ?_ | refine GrdK.tf ?_ | refine GrdK.ft ?_ | refine PickK.t ?_ | refine PickK.f ?_); (conv => whnf))
            refine ⟨(k + 1, h1U h0 r[k]), ⟨rfl, rfl, rfl, ?_, trivial⟩, HSub.refl _, ⟨by simp only; omega, ?_⟩, by simp only; omega⟩
            · show some _ = some _
              simp only [vU64, h1U, w_mul, p1_int]
            · rw [← hf, drop_at hk']
              simp only [fin1, List.foldl_cons]
          · have h1 := dF h1
            obtain rfl : k = r.length := by omega
            rw [List.drop_length] at hf
            have hf : h0 = fin1 (s, r) := hf
            subst hf
            (conv => whnf); repeat ((first | refine RngK.mk (by omega) (by omega) ?_ | refine NzK.mk (by omega) ?_ | refine NnK.mk (by omega) ?_ | refine BdK.mk (by omega) (by omega) (by omega) ?_ | refine InsK.lit (by omega) (by omega) ?_ | refine SpK.lit ?_ | refine GrdK.same ?_ | refine GrdK.tf ?_ | refine GrdK.ft ?_ | refine PickK.t ?_ | refine PickK.f ?_); (conv => whnf))
            refine ⟨[], HSub.nil _, ?_, rfl⟩
            rw [hu]
            simp only [vU64, last1, last2, last3, w_xor, w_mul, p2_int, p3_int, w_shr' _ 33 (by omega), w_shr' _ 29 (by omega), w_shr' _ 32 (by omega)]
            rfl
end Go.Proofs.Ytnmejcgkgimgoaa
