/- The reference's weights and tables of codes. -/
import Derived.Test.YtgdhdkjbilifiaaDoorCdG
namespace Go.Proofs.YtgdhdkjbilifiaaDoor
open Go Go.Sx
set_option maxRecDepth 100000
def toN (zs : List Int) : List Nat := zs.map Int.toNat
theorem toN_len (zs : List Int) : (toN zs).length = zs.length := by simp [toN]
theorem toN_v {zs : List Int} (h : ∀ z ∈ zs, 0 ≤ z) : (toN zs).map vN = zs.map vI := by
  unfold toN
  rw [List.map_map]
  refine List.map_congr_left fun z hz => ?_
  have := h z hz
  show vI ((z.toNat : Nat) : Int) = vI z
  congr 1
  omega
def wholeZ (zs : List Int) : Option (List Nat × Nat) := if ∀ z ∈ zs, 0 ≤ z ∧ z ≤ 11 then wholeN (toN zs) else none
set_option maxHeartbeats 1000000 in
theorem whole_spec (A : Option Addr) (n c : Nat) (zs : List Int) (hn : n ≤ 1000000) (hl : zs.length = n) : FnS Tryd.prog 17 [.slice A n c] [] (fun w => Rd w (blocks []) A n 1 (zs.map vI))
    (fun v H => match wholeZ zs with
      | none => v = .tuple #[.slice none 0 0, vI 0, vB false] ∧ H = []
      | some (all, b) => ∃ A1 c1, v = .tuple #[.slice A1 all.length c1, vN b, vB true] ∧ H = [.own A1 all.length c1 3 1 (all.map vN)]) := by
  refine FnS.introD Tryd.func17 rfl (by kernel_rfl) rfl fun w hH hp => ?_
  obtain ⟨R, hR⟩ : ∃ R, wholeZ zs = R := ⟨_, rfl⟩
  rw [hR]
  (conv => whnf); repeat ((first | refine RngK.mk (by omega) (by omega) ?_ | refine NzK.mk (by omega) ?_ | refine NnK.mk (by omega) ?_ | refine BdK.mk (by omega) (by omega) (by omega) ?_ | refine InsK.lit (by omega) (by omega) ?_ | refine SpK.lit ?_ | refine GrdK.same ?_ | refine GrdK.tf ?_ | refine GrdK.ft ?_ | refine PickK.t ?_ | refine PickK.f ?_); (conv => whnf))
  refine Wp.cutEx 0 (fun _ : Unit => [(0, .slice A n c), (5, vN (wsum (toN zs)))]) (fun _ => []) (fun _ => (∀ z ∈ zs, 0 ≤ z ∧ z ≤ 11) ∧ wsum (toN zs) ≤ 1024 * n) ?_ fun _ ⟨hall, hsb⟩ => ?_
  · refine Wp.loop (fun k : Nat => [(0, .slice A n c), (5, vN (wsum (toN (zs.take k)))), (11, .slice A n c), (12, vN n), (13, vN k)]) (fun _ => [])
      (fun k => k ≤ n ∧ (∀ z ∈ zs.take k, 0 ≤ z ∧ z ≤ 11) ∧ wsum (toN (zs.take k)) ≤ 1024 * k) (fun k => n - k) 0 ⟨rfl, rfl, rfl, rfl, rfl, trivial⟩ (HSub.refl _) ⟨Nat.zero_le _, by simp, by simp [toN, wsum]⟩ fun k ⟨hk, hka, hks⟩ => ?_
    (conv => whnf); repeat ((first | refine RngK.mk (by omega) (by omega) ?_ | refine NzK.mk (by omega) ?_ | refine NnK.mk (by omega) ?_ | refine BdK.mk (by omega) (by omega) (by omega) ?_ | refine InsK.lit (by omega) (by omega) ?_ | refine SpK.lit ?_ | refine GrdK.same ?_ | refine GrdK.tf ?_ | refine GrdK.ft ?_ | refine PickK.t ?_ | refine PickK.f ?_); (conv => whnf))
    refine Wp.cond rfl (fun h => ?_) (fun h => ?_)
    rotate_left
    · have h := dF h
      have hkl : k = zs.length := by omega
      subst hkl
      rw [List.take_length] at *
      (conv => whnf); repeat ((first | refine RngK.mk (by omega) (by omega) ?_ | refine NzK.mk (by omega) ?_ | refine NnK.mk (by omega) ?_ | refine BdK.mk (by omega) (by omega) (by omega) ?_ | refine InsK.lit (by omega) (by omega) ?_ | refine SpK.lit ?_ | refine GrdK.same ?_ | refine GrdK.tf ?_ | refine GrdK.ft ?_ | refine PickK.t ?_ | refine PickK.f ?_); (conv => whnf))
      exact ⟨(), ⟨rfl, rfl, trivial⟩, HSub.refl _, hka, by omega⟩
    have h := dT h
    have hk' : k < zs.length := by omega
    have htk := List.take_succ_eq_append_getElem hk'
    have hcell : (zs.map vI)[k]? = some (vI zs[k]) := by simp [hk']
    have hmem := List.getElem_mem hk'
    obtain ⟨z, hz⟩ : ∃ z, zs[k] = z := ⟨_, rfl⟩
    rw [hz] at htk hcell hmem
    (conv => whnf); repeat ((first | refine RngK.mk (by omega) (by omega) ?_ | refine NzK.mk (by omega) ?_ | refine NnK.mk (by omega) ?_ | refine BdK.mk (by omega) (by omega) (by omega) ?_ | refine InsK.lit (by omega) (by omega) ?_ | refine SpK.lit ?_ | refine GrdK.same ?_ | refine GrdK.tf ?_ | refine GrdK.ft ?_ | refine PickK.t ?_ | refine PickK.f ?_); (conv => whnf))
    refine InsK.rd hp (by omega) (by omega) ?_
    (conv => whnf); repeat ((first | refine RngK.mk (by omega) (by omega) ?_ | refine NzK.mk (by omega) ?_ | refine NnK.mk (by omega) ?_ | refine BdK.mk (by omega) (by omega) (by omega) ?_ | refine InsK.lit (by omega) (by omega) ?_ | refine SpK.lit ?_ | refine GrdK.same ?_ | refine GrdK.tf ?_ | refine GrdK.ft ?_ | refine PickK.t ?_ | refine PickK.f ?_); (conv => whnf))
    refine LdK.rd (v := vI z) hp k rfl rfl rfl hcell ?_
    (conv => whnf); repeat ((first | refine RngK.mk (by omega) (by omega) ?_ | refine NzK.mk (by omega) ?_ | refine NnK.mk (by omega) ?_ | refine BdK.mk (by omega) (by omega) (by omega) ?_ | refine InsK.lit (by omega) (by omega) ?_ | refine SpK.lit ?_ | refine GrdK.same ?_ | refine GrdK.tf ?_ | refine GrdK.ft ?_ | refine PickK.t ?_ | refine PickK.f ?_); (conv => whnf))
    have bad : ¬ (0 ≤ z ∧ z ≤ 11) → R = none := fun hb => by
      rw [← hR]
      unfold wholeZ
      rw [if_neg fun h => hb (h z hmem)]
    by_cases h1 : z < 0
    · rw [decide_eq_true h1, bad (by omega)]
      (conv => whnf); repeat ((first | refine RngK.mk (by omega) (by omega) ?_ | refine NzK.mk (by omega) ?_ | refine NnK.mk (by omega) ?_ | refine BdK.mk (by omega) (by omega) (by omega) ?_ | refine InsK.lit (by omega) (by omega) ?_ | refine SpK.lit ?_ | refine GrdK.same ?_ | refine GrdK.tf ?_ | refine GrdK.ft ?_ | refine PickK.t ?_ | refine PickK.f ?_); (conv => whnf))
      refine Wp.cond rfl (fun _ => ?_) (fun h => by cases h)
      (conv => whnf); repeat ((first | refine RngK.mk (by omega) (by omega) ?_ | refine NzK.mk (by omega) ?_ | refine NnK.mk (by omega) ?_ | refine BdK.mk (by omega) (by omega) (by omega) ?_ | refine InsK.lit (by omega) (by omega) ?_ | refine SpK.lit ?_ | refine GrdK.same ?_ | refine GrdK.tf ?_ | refine GrdK.ft ?_ | refine PickK.t ?_ | refine PickK.f ?_); (conv => whnf))
      exact ⟨[], HSub.nil _, rfl, rfl⟩
    rw [decide_eq_false h1]
    (conv => whnf); repeat ((first | refine RngK.mk (by omega) (by omega) ?_ | refine NzK.mk (by omega) ?_ | refine NnK.mk (by omega) ?_ | refine BdK.mk (by omega) (by omega) (by omega) ?_ | refine InsK.lit (by omega) (by omega) ?_ | refine SpK.lit ?_ | refine GrdK.same ?_ | refine GrdK.tf ?_ | refine GrdK.ft ?_ | refine PickK.t ?_ | refine PickK.f ?_); (conv => whnf))
    refine Wp.cond rfl (fun h2 => ?_) (fun h2 => ?_)
    · have h2 := dT h2
      rw [bad (by omega)]
      (conv => whnf); repeat ((first | refine RngK.mk (by omega) (by omega) ?_ | refine NzK.mk (by omega) ?_ | refine NnK.mk (by omega) ?_ | refine BdK.mk (by omega) (by omega) (by omega) ?_ | refine InsK.lit (by omega) (by omega) ?_ | refine SpK.lit ?_ | refine GrdK.same ?_ | refine GrdK.tf ?_ | refine GrdK.ft ?_ | refine PickK.t ?_ | refine PickK.f ?_); (conv => whnf))
      exact ⟨[], HSub.nil _, rfl, rfl⟩
    have h2 := dF h2
    have hws := wsum_snoc (toN (zs.take k)) z.toNat
    rw [show toN (zs.take k) ++ [z.toNat] = toN (zs.take (k + 1)) by rw [htk]; simp [toN]] at hws
    have hall' : ∀ y ∈ zs.take (k + 1), 0 ≤ y ∧ y ≤ 11 := by
      intro y hy
      rw [htk] at hy
      simp only [List.mem_append, List.mem_singleton] at hy
      rcases hy with hy | rfl
      · exact hka y hy
      · omega
    (conv => whnf); repeat ((first | refine RngK.mk (by omega) (by omega) ?_ | refine NzK.mk (by omega) ?_ | refine NnK.mk (by omega) ?_ | refine BdK.mk (by omega) (by omega) (by omega) ?_ | refine InsK.lit (by omega) (by omega) ?_ | refine SpK.lit ?_ | refine GrdK.same ?_ | refine GrdK.tf ?_ | refine GrdK.ft ?_ | refine PickK.t ?_ | refine PickK.f ?_); (conv => whnf))
    refine Wp.cond rfl (fun h3 => ?_) (fun h3 => ?_)
    · have h3 := dT h3
      have h2p : 2 ^ (z.toNat - 1) ≤ 2 ^ 10 := Nat.pow_le_pow_right (by omega) (by omega)
      have hwt : wt z.toNat = 2 ^ (z.toNat - 1) := if_neg (by omega)
      rw [hwt] at hws
      have e1 : z - 1 = ((z.toNat - 1 : Nat) : Int) := by omega
      have e2 : ishl .i64 1 ((z.toNat - 1 : Nat) : Int) = ((2 ^ (z.toNat - 1) : Nat) : Int) := by
        have := ishl_i64 (x := 1) (n := z.toNat - 1) (by omega) (by omega)
        rw [Nat.one_mul] at this
        exact this
      (conv => whnf); repeat ((first | refine RngK.mk (by omega) (by omega) ?_ | refine NzK.mk (by omega) ?_ | refine NnK.mk (by omega) ?_ | refine BdK.mk (by omega) (by omega) (by omega) ?_ | refine InsK.lit (by omega) (by omega) ?_ | refine SpK.lit ?_ | refine GrdK.same ?_ | refine GrdK.tf ?_ | refine GrdK.ft ?_ | refine PickK.t ?_ | refine PickK.f ?_); (conv => whnf))
      rw [e1, e2]
      (conv => whnf); repeat ((first | refine RngK.mk (by omega) (by omega) ?_ | refine NzK.mk (by omega) ?_ | refine NnK.mk (by omega) ?_ | refine BdK.mk (by omega) (by omega) (by omega) ?_ | refine InsK.lit (by omega) (by omega) ?_ | refine SpK.lit ?_ | refine GrdK.same ?_ | refine GrdK.tf ?_ | refine GrdK.ft ?_ | refine PickK.t ?_ | refine PickK.f ?_); (conv => whnf))
      refine ⟨k + 1, ⟨rfl, ?_, rfl, rfl, rfl, trivial⟩, HSub.refl _, ⟨by omega, hall', by omega⟩, by omega⟩
      show some (vI _) = some (vN _)
      rw [hws]
      congr 2
    · have h3 := dF h3
      have hwt : wt z.toNat = 0 := if_pos (by omega)
      rw [hwt] at hws
      (conv => whnf); repeat ((first | refine RngK.mk (by omega) (by omega) ?_ | refine NzK.mk (by omega) ?_ | refine NnK.mk (by omega) ?_ | refine BdK.mk (by omega) (by omega) (by omega) ?_ | refine InsK.lit (by omega) (by omega) ?_ | refine SpK.lit ?_ | refine GrdK.same ?_ | refine GrdK.tf ?_ | refine GrdK.ft ?_ | refine PickK.t ?_ | refine PickK.f ?_); (conv => whnf))
      refine ⟨k + 1, ⟨rfl, ?_, rfl, rfl, rfl, trivial⟩, HSub.refl _, ⟨by omega, hall', by omega⟩, by omega⟩
      show some (vN _) = some (vN _)
      rw [hws]
      rfl
  have hR' : wholeN (toN zs) = R := by
    rw [← hR]
    unfold wholeZ
    rw [if_pos hall]
  unfold wholeN at hR'
  have h11 : ∀ w ∈ toN zs, w ≤ 11 := by
    intro w hw
    obtain ⟨z, hz, rfl⟩ := List.mem_map.1 hw
    have := hall z hz
    omega
  obtain ⟨sm, hsm⟩ : ∃ sm, wsum (toN zs) = sm := ⟨_, rfl⟩
  rw [hsm] at hR' hsb ⊢
  (conv => whnf); repeat ((first | refine RngK.mk (by omega) (by omega) ?_ | refine NzK.mk (by omega) ?_ | refine NnK.mk (by omega) ?_ | refine BdK.mk (by omega) (by omega) (by omega) ?_ | refine InsK.lit (by omega) (by omega) ?_ | refine SpK.lit ?_ | refine GrdK.same ?_ | refine GrdK.tf ?_ | refine GrdK.ft ?_ | refine PickK.t ?_ | refine PickK.f ?_); (conv => whnf))
  refine CallK.of0 (width_spec sm (by omega)) ?_
  rintro _ _ ⟨rfl, rfl⟩
  (conv => whnf); repeat ((first | refine RngK.mk (by omega) (by omega) ?_ | refine NzK.mk (by omega) ?_ | refine NnK.mk (by omega) ?_ | refine BdK.mk (by omega) (by omega) (by omega) ?_ | refine InsK.lit (by omega) (by omega) ?_ | refine SpK.lit ?_ | refine GrdK.same ?_ | refine GrdK.tf ?_ | refine GrdK.ft ?_ | refine PickK.t ?_ | refine PickK.f ?_); (conv => whnf))
  by_cases h0 : sm = 0
  · rw [show (((sm : Nat) : Int) == 0) = true by simp [h0]]
    rw [if_neg (by omega)] at hR'
    subst hR'
    (conv => whnf); repeat ((first | refine RngK.mk (by omega) (by omega) ?_ | refine NzK.mk (by omega) ?_ | refine NnK.mk (by omega) ?_ | refine BdK.mk (by omega) (by omega) (by omega) ?_ | refine InsK.lit (by omega) (by omega) ?_ | refine SpK.lit ?_ | refine GrdK.same ?_ | refine GrdK.tf ?_ | refine GrdK.ft ?_ | refine PickK.t ?_ | refine PickK.f ?_); (conv => whnf))
    refine Wp.cond rfl (fun _ => ?_) (fun h => by cases h)
    (conv => whnf); repeat ((first | refine RngK.mk (by omega) (by omega) ?_ | refine NzK.mk (by omega) ?_ | refine NnK.mk (by omega) ?_ | refine BdK.mk (by omega) (by omega) (by omega) ?_ | refine InsK.lit (by omega) (by omega) ?_ | refine SpK.lit ?_ | refine GrdK.same ?_ | refine GrdK.tf ?_ | refine GrdK.ft ?_ | refine PickK.t ?_ | refine PickK.f ?_); (conv => whnf))
    exact ⟨[], HSub.nil _, rfl, rfl⟩
  rw [show (((sm : Nat) : Int) == 0) = false by simp [h0]]
  have hlt := lt_wd sm
  obtain ⟨b, hb⟩ : ∃ b, wd sm = b := ⟨_, rfl⟩
  rw [hb] at hR' hlt ⊢
  (conv => whnf); repeat ((first | refine RngK.mk (by omega) (by omega) ?_ | refine NzK.mk (by omega) ?_ | refine NnK.mk (by omega) ?_ | refine BdK.mk (by omega) (by omega) (by omega) ?_ | refine InsK.lit (by omega) (by omega) ?_ | refine SpK.lit ?_ | refine GrdK.same ?_ | refine GrdK.tf ?_ | refine GrdK.ft ?_ | refine PickK.t ?_ | refine PickK.f ?_); (conv => whnf))
  refine Wp.cond rfl (fun h => ?_) (fun h => ?_)
  · have h := dT h
    rw [if_neg (by omega)] at hR'
    subst hR'
    (conv => whnf); repeat ((first | refine RngK.mk (by omega) (by omega) ?_ | refine NzK.mk (by omega) ?_ | refine NnK.mk (by omega) ?_ | refine BdK.mk (by omega) (by omega) (by omega) ?_ | refine InsK.lit (by omega) (by omega) ?_ | refine SpK.lit ?_ | refine GrdK.same ?_ | refine GrdK.tf ?_ | refine GrdK.ft ?_ | refine PickK.t ?_ | refine PickK.f ?_); (conv => whnf))
    exact ⟨[], HSub.nil _, rfl, rfl⟩
  have hb11 : ¬ (b : Int) > 11 := dF h
  have h2b : 2 ^ b ≤ 2 ^ 11 := Nat.pow_le_pow_right (by omega) (by omega)
  have e1 : ishl .i64 1 (b : Int) = ((2 ^ b : Nat) : Int) := by
    have := ishl_i64 (x := 1) (n := b) (by omega) (by omega)
    rw [Nat.one_mul] at this
    exact this
  obtain ⟨tb, htb⟩ : ∃ tb, 2 ^ b = tb := ⟨_, rfl⟩
  rw [htb] at hR' hlt h2b e1
  obtain ⟨lf, hlf⟩ : ∃ lf, tb - sm = lf := ⟨_, rfl⟩
  have e2 : ((tb : Nat) : Int) - ((sm : Nat) : Int) = ((lf : Nat) : Int) := by omega
  rw [hlf] at hR'
  (conv => whnf); repeat ((first | refine RngK.mk (by omega) (by omega) ?_ | refine NzK.mk (by omega) ?_ | refine NnK.mk (by omega) ?_ | refine BdK.mk (by omega) (by omega) (by omega) ?_ | refine InsK.lit (by omega) (by omega) ?_ | refine SpK.lit ?_ | refine GrdK.same ?_ | refine GrdK.tf ?_ | refine GrdK.ft ?_ | refine PickK.t ?_ | refine PickK.f ?_); (conv => whnf))
  rw [e1, e2]
  refine CallK.of0 (width_spec lf (by omega)) ?_
  rintro _ _ ⟨rfl, rfl⟩
  have hl1 : 0 < wd lf := wd_pos (by omega)
  have hl11 : wd lf ≤ 11 := wd_lt (by omega)
  obtain ⟨hb1, hhb⟩ : ∃ hb1, wd lf = hb1 + 1 := ⟨wd lf - 1, by omega⟩
  rw [hhb, Nat.add_sub_cancel] at hR'
  rw [hhb] at hl11 ⊢
  have e3 : ((hb1 + 1 : Nat) : Int) - 1 = ((hb1 : Nat) : Int) := by omega
  have h2p : 2 ^ hb1 ≤ 2 ^ 11 := Nat.pow_le_pow_right (by omega) (by omega)
  have e4 : ishl .i64 1 ((hb1 : Nat) : Int) = ((2 ^ hb1 : Nat) : Int) := by
    have := ishl_i64 (x := 1) (n := hb1) (by omega) (by omega)
    rw [Nat.one_mul] at this
    exact this
  (conv => whnf); repeat ((first | refine RngK.mk (by omega) (by omega) ?_ | refine NzK.mk (by omega) ?_ | refine NnK.mk (by omega) ?_ | refine BdK.mk (by omega) (by omega) (by omega) ?_ | refine InsK.lit (by omega) (by omega) ?_ | refine SpK.lit ?_ | refine GrdK.same ?_ | refine GrdK.tf ?_ | refine GrdK.ft ?_ | refine PickK.t ?_ | refine PickK.f ?_); (conv => whnf))
  rw [e3, e4]
  refine Wp.cond rfl (fun h => ?_) (fun h => ?_)
  · have h := neT h
    rw [if_neg (by omega)] at hR'
    subst hR'
    (conv => whnf); repeat ((first | refine RngK.mk (by omega) (by omega) ?_ | refine NzK.mk (by omega) ?_ | refine NnK.mk (by omega) ?_ | refine BdK.mk (by omega) (by omega) (by omega) ?_ | refine InsK.lit (by omega) (by omega) ?_ | refine SpK.lit ?_ | refine GrdK.same ?_ | refine GrdK.tf ?_ | refine GrdK.ft ?_ | refine PickK.t ?_ | refine PickK.f ?_); (conv => whnf))
    exact ⟨[], HSub.nil _, rfl, rfl⟩
  have h := neF h
  rw [if_pos ⟨h11, h0, by omega, by omega⟩] at hR'
  subst hR'
  (conv => whnf); repeat ((first | refine RngK.mk (by omega) (by omega) ?_ | refine NzK.mk (by omega) ?_ | refine NnK.mk (by omega) ?_ | refine BdK.mk (by omega) (by omega) (by omega) ?_ | refine InsK.lit (by omega) (by omega) ?_ | refine SpK.lit ?_ | refine GrdK.same ?_ | refine GrdK.tf ?_ | refine GrdK.ft ?_ | refine PickK.t ?_ | refine PickK.f ?_); (conv => whnf))
  refine EffK.lit0 rfl rfl fun bk => ?_
  (conv => whnf); repeat ((first | refine RngK.mk (by omega) (by omega) ?_ | refine NzK.mk (by omega) ?_ | refine NnK.mk (by omega) ?_ | refine BdK.mk (by omega) (by omega) (by omega) ?_ | refine InsK.lit (by omega) (by omega) ?_ | refine SpK.lit ?_ | refine GrdK.same ?_ | refine GrdK.tf ?_ | refine GrdK.ft ?_ | refine PickK.t ?_ | refine PickK.f ?_); (conv => whnf))
  refine EffK.append 0 (news := zs.map vI) rfl rfl rfl rfl rfl rfl rfl rfl (Src.rd hp) (by intro u hu; obtain ⟨z, _, rfl⟩ := List.mem_map.1 hu; rfl) (by simp [maxLen]; omega) (by show (_ + _) * 8 ≤ _; omega) fun A5 c5 => ?_
  (conv => whnf); repeat ((first | refine RngK.mk (by omega) (by omega) ?_ | refine NzK.mk (by omega) ?_ | refine NnK.mk (by omega) ?_ | refine BdK.mk (by omega) (by omega) (by omega) ?_ | refine InsK.lit (by omega) (by omega) ?_ | refine SpK.lit ?_ | refine GrdK.same ?_ | refine GrdK.tf ?_ | refine GrdK.ft ?_ | refine PickK.t ?_ | refine PickK.f ?_); (conv => whnf))
  refine EffK.litV rfl rfl rfl rfl rfl rfl rfl rfl rfl ?_
  (conv => whnf); repeat ((first | refine RngK.mk (by omega) (by omega) ?_ | refine NzK.mk (by omega) ?_ | refine NnK.mk (by omega) ?_ | refine BdK.mk (by omega) (by omega) (by omega) ?_ | refine InsK.lit (by omega) (by omega) ?_ | refine SpK.lit ?_ | refine GrdK.same ?_ | refine GrdK.tf ?_ | refine GrdK.ft ?_ | refine PickK.t ?_ | refine PickK.f ?_); (conv => whnf))
  intro b2
  (conv => whnf); repeat ((first | refine RngK.mk (by omega) (by omega) ?_ | refine NzK.mk (by omega) ?_ | refine NnK.mk (by omega) ?_ | refine BdK.mk (by omega) (by omega) (by omega) ?_ | refine InsK.lit (by omega) (by omega) ?_ | refine SpK.lit ?_ | refine GrdK.same ?_ | refine GrdK.tf ?_ | refine GrdK.ft ?_ | refine PickK.t ?_ | refine PickK.f ?_); (conv => whnf))
  refine EffK.append 1 (news := [vI ((hb1 + 1 : Nat) : Int)]) rfl rfl rfl rfl rfl rfl rfl rfl (Src.ownW (k := 0) rfl rfl) (by intro u hu; obtain rfl := List.mem_singleton.1 hu; rfl) (by simp [maxLen]; omega) (by show (_ + _) * 8 ≤ _; omega) fun A6 c6 => ?_
  (conv => whnf); repeat ((first | refine RngK.mk (by omega) (by omega) ?_ | refine NzK.mk (by omega) ?_ | refine NnK.mk (by omega) ?_ | refine BdK.mk (by omega) (by omega) (by omega) ?_ | refine InsK.lit (by omega) (by omega) ?_ | refine SpK.lit ?_ | refine GrdK.same ?_ | refine GrdK.tf ?_ | refine GrdK.ft ?_ | refine PickK.t ?_ | refine PickK.f ?_); (conv => whnf))
  have hv : (toN zs ++ [hb1 + 1]).map vN = zs.map vI ++ [vN (hb1 + 1)] := by
    rw [List.map_append, toN_v fun z hz => (hall z hz).1]
    rfl
  have hln : (toN zs ++ [hb1 + 1]).length = n + 1 := by rw [List.length_append, toN_len]; simp [hl]
  refine ⟨_, HSub.of [1] rfl, A6, c6, ?_, ?_⟩
  · rw [hln, Nat.zero_add]
  · rw [hln, hv, Nat.zero_add]
    rfl
end Go.Proofs.YtgdhdkjbilifiaaDoor
