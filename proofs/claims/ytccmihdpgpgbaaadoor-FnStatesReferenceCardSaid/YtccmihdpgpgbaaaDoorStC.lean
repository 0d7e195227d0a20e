/- Counts that fill a table: spec.Fills. -/
import Derived.Test.YtccmihdpgpgbaaaDoorStB
namespace Go.Proofs.YtccmihdpgpgbaaaDoor
open Go Go.Sx
set_option maxRecDepth 100000
def fillsL (b : Nat) (sum : Int) : List Int → Bool
  | [] => sum == ((2 ^ b : Nat) : Int)
  | z :: r => if z < -1 ∨ z > ((2 ^ b : Nat) : Int) then false else fillsL b (sum + (rN z : Nat)) r
def fillsN (zs : List Int) (b : Int) : Bool :=
  if b < 5 ∨ b > 9 ∨ zs.length < 1 ∨ zs.length > 256 ∨ zs.getD (zs.length - 1) 0 = 0 then false else fillsL b.toNat 0 zs
theorem fillsL_facts {b : Nat} : ∀ {zs : List Int} {sum : Int}, fillsL b sum zs = true → (∀ z ∈ zs, -1 ≤ z ∧ z ≤ ((2 ^ b : Nat) : Int)) ∧ sum + (((zs.map rN).sum : Nat) : Int) = ((2 ^ b : Nat) : Int)
  | [], sum, h => ⟨fun z hz => (by cases hz), by simpa [fillsL] using h⟩
  | z :: r, sum, h => by
    rw [fillsL] at h
    split at h
    · cases h
    · rename_i hn
      obtain ⟨h1, h2⟩ := fillsL_facts h
      refine ⟨fun y hy => ?_, ?_⟩
      · rcases List.mem_cons.1 hy with rfl | hy
        · omega
        · exact h1 y hy
      · simp only [List.map_cons, List.sum_cons]
        omega
theorem negs_le : ∀ zs : List Int, negs zs ≤ (zs.map rN).sum
  | [] => Nat.le_refl _
  | z :: r => by
    have := negs_le r
    simp only [negs, List.map_cons, List.sum_cons]
    split
    · rename_i h
      have : rN z = 1 := by rw [rN, if_pos h]
      omega
    · omega
theorem fillsN_facts {zs : List Int} {b : Int} (h : fillsN zs b = true) : ∃ b' : Nat, b = (b' : Int) ∧ Counts zs b' ∧ 1 ≤ zs.length ∧ (zs.map rN).sum = 2 ^ b' := by
  unfold fillsN at h
  split at h
  · cases h
  · rename_i hn
    obtain ⟨b', rfl⟩ := Int.eq_ofNat_of_zero_le (show 0 ≤ b by omega)
    have e : ((b' : Nat) : Int).toNat = b' := by omega
    rw [e] at h
    obtain ⟨h1, h2⟩ := fillsL_facts h
    have h3 : (zs.map rN).sum = 2 ^ b' := by omega
    exact ⟨b', rfl, ⟨by omega, by omega, by omega, h1, by have := negs_le zs; omega⟩, by omega, h3⟩
theorem fills_spec (A : Option Addr) (n c : Nat) (b : Int) (zs : List Int) :
    FnS Tryd.prog 10 [.slice A n c, vI b] [] (fun w => Rd w (blocks []) A n 1 (zs.map vI) ∧ n ≤ maxLen ∧ ∀ z ∈ zs, -9223372036854775808 ≤ z ∧ z ≤ 9223372036854775807) (Is (vB (fillsN zs b))) := by
  refine FnS.intro Tryd.func10 rfl (by kernel_rfl) rfl fun w hH ⟨hp, hmax, hz⟩ => ?_
  obtain rfl : zs.length = n := by simpa using hp.len
  simp only [maxLen] at hmax
  unfold fillsN
  (conv => whnf); repeat ((first | refine RngK.mk (by omega) (by omega) ?_ | refine NzK.mk (by omega) ?_ | refine NnK.mk (by omega) ?_ | refine BdK.mk (by omega) (by omega) (by omega) ?_ | refine InsK.lit (by omega) (by omega) ?_ | refine SpK.lit ?_ | refine GrdK.same ?_ | refine GrdK.tf ?_ | refine GrdK.ft ?_ | refine PickK.t ?_ | refine PickK.f ?_); (conv => whnf))
  refine ⟨fun g1 => ?_, fun g1 => ?_⟩
  · have g1 := dF g1
    (conv => whnf); repeat ((first | refine RngK.mk (by omega) (by omega) ?_ | refine NzK.mk (by omega) ?_ | refine NnK.mk (by omega) ?_ | refine BdK.mk (by omega) (by omega) (by omega) ?_ | refine InsK.lit (by omega) (by omega) ?_ | refine SpK.lit ?_ | refine GrdK.same ?_ | refine GrdK.tf ?_ | refine GrdK.ft ?_ | refine PickK.t ?_ | refine PickK.f ?_); (conv => whnf))
    refine ⟨fun g2 => ?_, fun g2 => ?_⟩
    · have g2 := dF g2
      (conv => whnf); repeat ((first | refine RngK.mk (by omega) (by omega) ?_ | refine NzK.mk (by omega) ?_ | refine NnK.mk (by omega) ?_ | refine BdK.mk (by omega) (by omega) (by omega) ?_ | refine InsK.lit (by omega) (by omega) ?_ | refine SpK.lit ?_ | refine GrdK.same ?_ | refine GrdK.tf ?_ | refine GrdK.ft ?_ | refine PickK.t ?_ | refine PickK.f ?_); (conv => whnf))
      refine ⟨fun g3 => ?_, fun g3 => ?_⟩
      · have g3 := dF g3
        (conv => whnf); repeat ((first | refine RngK.mk (by omega) (by omega) ?_ | refine NzK.mk (by omega) ?_ | refine NnK.mk (by omega) ?_ | refine BdK.mk (by omega) (by omega) (by omega) ?_ | refine InsK.lit (by omega) (by omega) ?_ | refine SpK.lit ?_ | refine GrdK.same ?_ | refine GrdK.tf ?_ | refine GrdK.ft ?_ | refine PickK.t ?_ | refine PickK.f ?_); (conv => whnf))
        refine ⟨fun g4 => ?_, fun g4 => ?_⟩
        · have g4 := dF g4
          have hl : zs.length - 1 < zs.length := by omega
          have hgd : zs.getD (zs.length - 1) 0 = zs[zs.length - 1] := by simp [List.getD, hl]
          have eo : (zs.length : Int) - 1 = ((zs.length - 1 : Nat) : Int) := by omega
          rw [hgd]
          (conv => whnf); repeat ((first | refine RngK.mk (by omega) (by omega) ?_ | refine NzK.mk (by omega) ?_ | refine NnK.mk (by omega) ?_ | refine BdK.mk (by omega) (by omega) (by omega) ?_ | refine InsK.lit (by omega) (by omega) ?_ | refine SpK.lit ?_ | refine GrdK.same ?_ | refine GrdK.tf ?_ | refine GrdK.ft ?_ | refine PickK.t ?_ | refine PickK.f ?_); (conv => whnf))
          rw [eo]
          refine InsK.rd hp (by omega) (by omega) ?_
          (conv => whnf); repeat ((first | refine RngK.mk (by omega) (by omega) ?_ | refine NzK.mk (by omega) ?_ | refine NnK.mk (by omega) ?_ | refine BdK.mk (by omega) (by omega) (by omega) ?_ | refine InsK.lit (by omega) (by omega) ?_ | refine SpK.lit ?_ | refine GrdK.same ?_ | refine GrdK.tf ?_ | refine GrdK.ft ?_ | refine PickK.t ?_ | refine PickK.f ?_); (conv => whnf))
          refine LdK.rd (v := vI zs[zs.length - 1]) hp (zs.length - 1) rfl rfl rfl (by simp [hl]) ?_
          (conv => whnf); repeat ((first | refine RngK.mk (by omega) (by omega) ?_ | refine NzK.mk (by omega) ?_ | refine NnK.mk (by omega) ?_ | refine BdK.mk (by omega) (by omega) (by omega) ?_ | refine InsK.lit (by omega) (by omega) ?_ | refine SpK.lit ?_ | refine GrdK.same ?_ | refine GrdK.tf ?_ | refine GrdK.ft ?_ | refine PickK.t ?_ | refine PickK.f ?_); (conv => whnf))
          refine Wp.cond rfl (fun g5 => ?_) (fun g5 => ?_)
          · have g5 := eqT g5
            (conv => whnf); repeat ((first | refine RngK.mk (by omega) (by omega) ?_ | refine NzK.mk (by omega) ?_ | refine NnK.mk (by omega) ?_ | refine BdK.mk (by omega) (by omega) (by omega) ?_ | refine InsK.lit (by omega) (by omega) ?_ | refine SpK.lit ?_ | refine GrdK.same ?_ | refine GrdK.tf ?_ | refine GrdK.ft ?_ | refine PickK.t ?_ | refine PickK.f ?_); (conv => whnf))
            exact ⟨by rw [if_pos (by omega)], rfl⟩
          · have g5 := eqF g5
            obtain ⟨b, rfl⟩ := Int.eq_ofNat_of_zero_le (show 0 ≤ b by omega)
            rw [if_neg (by omega)]
            have et : ((b : Nat) : Int).toNat = b := by omega
            have hb9 : 2 ^ b ≤ 2 ^ 9 := Nat.pow_le_pow_right (by omega) (by omega)
            have e1b : ishl .i64 1 (b : Int) = ((2 ^ b : Nat) : Int) := by
              have := ishl_i64 (x := 1) (n := b) (by omega) (by omega)
              rw [Nat.one_mul] at this
              exact this
            rw [et]
            obtain ⟨R, hR⟩ : ∃ R, fillsL b 0 zs = R := ⟨_, rfl⟩
            rw [hR]
            (conv => whnf); repeat ((first | refine RngK.mk (by omega) (by omega) ?_ | refine NzK.mk (by omega) ?_ | refine NnK.mk (by omega) ?_ | refine BdK.mk (by omega) (by omega) (by omega) ?_ | refine InsK.lit (by omega) (by omega) ?_ | refine SpK.lit ?_ | refine GrdK.same ?_ | refine GrdK.tf ?_ | refine GrdK.ft ?_ | refine PickK.t ?_ | refine PickK.f ?_); (conv => whnf))
            refine Wp.loop (fun t : Nat × Nat => [(1, vN b), (33, .slice A zs.length c), (34, vN zs.length), (35, vN t.1), (5, vN t.2)]) (fun _ => []) (fun t => t.1 ≤ zs.length ∧ t.2 ≤ 512 * t.1 ∧ fillsL b (t.2 : Nat) (zs.drop t.1) = R) (fun t => zs.length - t.1) (0, 0)
              ⟨rfl, rfl, rfl, rfl, rfl, trivial⟩ (HSub.refl _) ⟨Nat.zero_le _, Nat.le_refl _, hR⟩ fun ⟨k, sum⟩ ⟨hk, hsum, hF⟩ => ?_
            dsimp only at hk hsum hF ⊢
            (conv => whnf); repeat ((first | refine RngK.mk (by omega) (by omega) ?_ | refine NzK.mk (by omega) ?_ | refine NnK.mk (by omega) ?_ | refine BdK.mk (by omega) (by omega) (by omega) ?_ | refine InsK.lit (by omega) (by omega) ?_ | refine SpK.lit ?_ | refine GrdK.same ?_ | refine GrdK.tf ?_ | refine GrdK.ft ?_ | refine PickK.t ?_ | refine PickK.f ?_); (conv => whnf))
            refine Wp.cond rfl (fun h => ?_) (fun h => ?_)
            · have h := dT h
              have hk' : k < zs.length := by omega
              rw [drop_at hk', fillsL] at hF
              (conv => whnf); repeat ((first | refine RngK.mk (by omega) (by omega) ?_ | refine NzK.mk (by omega) ?_ | refine NnK.mk (by omega) ?_ | refine BdK.mk (by omega) (by omega) (by omega) ?_ | refine InsK.lit (by omega) (by omega) ?_ | refine SpK.lit ?_ | refine GrdK.same ?_ | refine GrdK.tf ?_ | refine GrdK.ft ?_ | refine PickK.t ?_ | refine PickK.f ?_); (conv => whnf))
              refine InsK.rd hp (by omega) (by omega) ?_
              (conv => whnf); repeat ((first | refine RngK.mk (by omega) (by omega) ?_ | refine NzK.mk (by omega) ?_ | refine NnK.mk (by omega) ?_ | refine BdK.mk (by omega) (by omega) (by omega) ?_ | refine InsK.lit (by omega) (by omega) ?_ | refine SpK.lit ?_ | refine GrdK.same ?_ | refine GrdK.tf ?_ | refine GrdK.ft ?_ | refine PickK.t ?_ | refine PickK.f ?_); (conv => whnf))
              refine LdK.rd (v := vI zs[k]) hp k rfl rfl rfl (by simp [hk']) ?_
              (conv => whnf); repeat ((first | refine RngK.mk (by omega) (by omega) ?_ | refine NzK.mk (by omega) ?_ | refine NnK.mk (by omega) ?_ | refine BdK.mk (by omega) (by omega) (by omega) ?_ | refine InsK.lit (by omega) (by omega) ?_ | refine SpK.lit ?_ | refine GrdK.same ?_ | refine GrdK.tf ?_ | refine GrdK.ft ?_ | refine PickK.t ?_ | refine PickK.f ?_); (conv => whnf))
              refine ⟨fun h1 => ?_, fun h1 => ?_⟩
              · have h1 := dF h1
                (conv => whnf); repeat ((first | refine RngK.mk (by omega) (by omega) ?_ | refine NzK.mk (by omega) ?_ | refine NnK.mk (by omega) ?_ | refine BdK.mk (by omega) (by omega) (by omega) ?_ | refine InsK.lit (by omega) (by omega) ?_ | refine SpK.lit ?_ | refine GrdK.same ?_ | refine GrdK.tf ?_ | refine GrdK.ft ?_ | refine PickK.t ?_ | refine PickK.f ?_); (conv => whnf))
                rw [e1b]
                refine Wp.cond rfl (fun h2 => ?_) (fun h2 => ?_)
                · have h2 : zs[k] > ((2 ^ b : Nat) : Int) := dT h2
                  rw [if_pos (by omega)] at hF
                  (conv => whnf); repeat ((first | refine RngK.mk (by omega) (by omega) ?_ | refine NzK.mk (by omega) ?_ | refine NnK.mk (by omega) ?_ | refine BdK.mk (by omega) (by omega) (by omega) ?_ | refine InsK.lit (by omega) (by omega) ?_ | refine SpK.lit ?_ | refine GrdK.same ?_ | refine GrdK.tf ?_ | refine GrdK.ft ?_ | refine PickK.t ?_ | refine PickK.f ?_); (conv => whnf))
                  exact ⟨by rw [hF], rfl⟩
                · have h2 : ¬ zs[k] > ((2 ^ b : Nat) : Int) := dF h2
                  rw [if_neg (by omega)] at hF
                  (conv => whnf); repeat ((first | refine RngK.mk (by omega) (by omega) ?_ | refine NzK.mk (by omega) ?_ | refine NnK.mk (by omega) ?_ | refine BdK.mk (by omega) (by omega) (by omega) ?_ | refine InsK.lit (by omega) (by omega) ?_ | refine SpK.lit ?_ | refine GrdK.same ?_ | refine GrdK.tf ?_ | refine GrdK.ft ?_ | refine PickK.t ?_ | refine PickK.f ?_); (conv => whnf))
                  refine CallK.of0 (room_spec zs[k]) ?_
                  rintro _ _ ⟨rfl, rfl⟩
                  have er : roomN zs[k] = ((rN zs[k] : Nat) : Int) := by
                    unfold roomN rN
                    split <;> omega
                  have hr : rN zs[k] ≤ 512 := by
                    unfold rN
                    split <;> omega
                  rw [er]
                  (conv => whnf); repeat ((first | refine RngK.mk (by omega) (by omega) ?_ | refine NzK.mk (by omega) ?_ | refine NnK.mk (by omega) ?_ | refine BdK.mk (by omega) (by omega) (by omega) ?_ | refine InsK.lit (by omega) (by omega) ?_ | refine SpK.lit ?_ | refine GrdK.same ?_ | refine GrdK.tf ?_ | refine GrdK.ft ?_ | refine PickK.t ?_ | refine PickK.f ?_); (conv => whnf))
                  exact ⟨(k + 1, sum + rN zs[k]), ⟨rfl, rfl, rfl, rfl, rfl, trivial⟩, HSub.refl _, ⟨by simp only; omega, by simp only; omega, hF⟩, by simp only; omega⟩
              · have h1 : zs[k] < -1 := by simpa using h1
                rw [if_pos (by omega)] at hF
                (conv => whnf); repeat ((first | refine RngK.mk (by omega) (by omega) ?_ | refine NzK.mk (by omega) ?_ | refine NnK.mk (by omega) ?_ | refine BdK.mk (by omega) (by omega) (by omega) ?_ | refine InsK.lit (by omega) (by omega) ?_ | refine SpK.lit ?_ | refine GrdK.same ?_ | refine GrdK.tf ?_ | refine GrdK.ft ?_ | refine PickK.t ?_ | refine PickK.f ?_); (conv => whnf))
                refine Wp.cond rfl (fun _ => ?_) (fun h => by cases h)
                (conv => whnf); repeat ((first | refine RngK.mk (by omega) (by omega) ?_ | refine NzK.mk (by omega) ?_ | refine NnK.mk (by omega) ?_ | refine BdK.mk (by omega) (by omega) (by omega) ?_ | refine InsK.lit (by omega) (by omega) ?_ | refine SpK.lit ?_ | refine GrdK.same ?_ | refine GrdK.tf ?_ | refine GrdK.ft ?_ | refine PickK.t ?_ | refine PickK.f ?_); (conv => whnf))
                exact ⟨by rw [hF], rfl⟩
            · have h := dF h
              rw [List.drop_of_length_le (by omega), fillsL] at hF
              (conv => whnf); repeat ((first | refine RngK.mk (by omega) (by omega) ?_ | refine NzK.mk (by omega) ?_ | refine NnK.mk (by omega) ?_ | refine BdK.mk (by omega) (by omega) (by omega) ?_ | refine InsK.lit (by omega) (by omega) ?_ | refine SpK.lit ?_ | refine GrdK.same ?_ | refine GrdK.tf ?_ | refine GrdK.ft ?_ | refine PickK.t ?_ | refine PickK.f ?_); (conv => whnf))
              rw [e1b]
              exact ⟨by rw [← hF], rfl⟩
        · have g4 : (zs.length : Int) > 256 := by simpa using g4
          (conv => whnf); repeat ((first | refine RngK.mk (by omega) (by omega) ?_ | refine NzK.mk (by omega) ?_ | refine NnK.mk (by omega) ?_ | refine BdK.mk (by omega) (by omega) (by omega) ?_ | refine InsK.lit (by omega) (by omega) ?_ | refine SpK.lit ?_ | refine GrdK.same ?_ | refine GrdK.tf ?_ | refine GrdK.ft ?_ | refine PickK.t ?_ | refine PickK.f ?_); (conv => whnf))
          refine Wp.cond rfl (fun _ => ?_) (fun h => by cases h)
          (conv => whnf); repeat ((first | refine RngK.mk (by omega) (by omega) ?_ | refine NzK.mk (by omega) ?_ | refine NnK.mk (by omega) ?_ | refine BdK.mk (by omega) (by omega) (by omega) ?_ | refine InsK.lit (by omega) (by omega) ?_ | refine SpK.lit ?_ | refine GrdK.same ?_ | refine GrdK.tf ?_ | refine GrdK.ft ?_ | refine PickK.t ?_ | refine PickK.f ?_); (conv => whnf))
          exact ⟨by rw [if_pos (by omega)], rfl⟩
      · have g3 : (zs.length : Int) < 1 := by simpa using g3
        (conv => whnf); repeat ((first | refine RngK.mk (by omega) (by omega) ?_ | refine NzK.mk (by omega) ?_ | refine NnK.mk (by omega) ?_ | refine BdK.mk (by omega) (by omega) (by omega) ?_ | refine InsK.lit (by omega) (by omega) ?_ | refine SpK.lit ?_ | refine GrdK.same ?_ | refine GrdK.tf ?_ | refine GrdK.ft ?_ | refine PickK.t ?_ | refine PickK.f ?_); (conv => whnf))
        refine Wp.cond rfl (fun _ => ?_) (fun h => by cases h)
        (conv => whnf); repeat ((first | refine RngK.mk (by omega) (by omega) ?_ | refine NzK.mk (by omega) ?_ | refine NnK.mk (by omega) ?_ | refine BdK.mk (by omega) (by omega) (by omega) ?_ | refine InsK.lit (by omega) (by omega) ?_ | refine SpK.lit ?_ | refine GrdK.same ?_ | refine GrdK.tf ?_ | refine GrdK.ft ?_ | refine PickK.t ?_ | refine PickK.f ?_); (conv => whnf))
        exact ⟨by rw [if_pos (by omega)], rfl⟩
    · have g2 : b > 9 := by simpa using g2
      (conv => whnf); repeat ((first | refine RngK.mk (by omega) (by omega) ?_ | refine NzK.mk (by omega) ?_ | refine NnK.mk (by omega) ?_ | refine BdK.mk (by omega) (by omega) (by omega) ?_ | refine InsK.lit (by omega) (by omega) ?_ | refine SpK.lit ?_ | refine GrdK.same ?_ | refine GrdK.tf ?_ | refine GrdK.ft ?_ | refine PickK.t ?_ | refine PickK.f ?_); (conv => whnf))
      refine Wp.cond rfl (fun _ => ?_) (fun h => by cases h)
      (conv => whnf); repeat ((first | refine RngK.mk (by omega) (by omega) ?_ | refine NzK.mk (by omega) ?_ | refine NnK.mk (by omega) ?_ | refine BdK.mk (by omega) (by omega) (by omega) ?_ | refine InsK.lit (by omega) (by omega) ?_ | refine SpK.lit ?_ | refine GrdK.same ?_ | refine GrdK.tf ?_ | refine GrdK.ft ?_ | refine PickK.t ?_ | refine PickK.f ?_); (conv => whnf))
      exact ⟨by rw [if_pos (by omega)], rfl⟩
  · have g1 : b < 5 := by simpa using g1
    (conv => whnf); repeat ((first | refine RngK.mk (by omega) (by omega) ?_ | refine NzK.mk (by omega) ?_ | refine NnK.mk (by omega) ?_ | refine BdK.mk (by omega) (by omega) (by omega) ?_ | refine InsK.lit (by omega) (by omega) ?_ | refine SpK.lit ?_ | refine GrdK.same ?_ | refine GrdK.tf ?_ | refine GrdK.ft ?_ | refine PickK.t ?_ | refine PickK.f ?_); (conv => whnf))
    refine Wp.cond rfl (fun _ => ?_) (fun h => by cases h)
    (conv => whnf); repeat ((first | refine RngK.mk (by omega) (by omega) ?_ | refine NzK.mk (by omega) ?_ | refine NnK.mk (by omega) ?_ | refine BdK.mk (by omega) (by omega) (by omega) ?_ | refine InsK.lit (by omega) (by omega) ?_ | refine SpK.lit ?_ | refine GrdK.same ?_ | refine GrdK.tf ?_ | refine GrdK.ft ?_ | refine PickK.t ?_ | refine PickK.f ?_); (conv => whnf))
    exact ⟨by rw [if_pos (by omega)], rfl⟩
end Go.Proofs.YtccmihdpgpgbaaaDoor
