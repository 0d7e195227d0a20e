/- Tables of states that are read, as plain data; the reference's reader of counts. -/
import Derived.Test.YtccmihdpgpgbaaaDoorSdR
import Derived.Test.YtccmihdpgpgbaaaDoorSdB
import Derived.Test.YtccmihdpgpgbaaaDoorOwn4
namespace Go.Proofs.YtccmihdpgpgbaaaDoor
open Go Go.Sx
set_option maxRecDepth 100000
theorem cutA_zero (b o m s : Nat) : cutA (some ⟨b, o, none⟩) 0 m s = some ⟨b, o, none⟩ := by
  unfold cutA
  split
  · rfl
  · simp [adv]
theorem zzread_spec (A : Option Addr) (n c : Nat) (bs : List UInt8) (e u : Addr) (off most bits : Nat) (hn : n ≤ 16777216) (ho : off ≤ n) (hm : most ≤ 255) (hb : bits ≤ 9) :
    FnS Tryd.prog 25 [.slice A n c, vN off, vN most, vN bits] [] (fun w => Bytes w (blocks []) A n c bs ∧ Laid w (blocks []) e u)
      (fun v H => match rfS (num bs) n off most bits with
        | none => ∃ T' x, v = .tuple #[.slice none 0 0, vI 0, vI 0, .iface T' x] ∧ H = []
        | some (cs, b, p) => ∃ A1 c1, v = .tuple #[.slice A1 (2 ^ b) c1, vN b, vN ((p + 7) / 8), .nilIface] ∧ H = [.own A1 (2 ^ b) c1 86 3 (flE ((buildN cs b).map entOf))]) := by
  refine FnS.introD Tryd.func25 rfl (by kernel_rfl) rfl fun w hH ⟨hp, hL⟩ => ?_
  have hM : 2 ^ bits ≤ 2 ^ 9 := Nat.pow_le_pow_right (by omega) hb
  have e0 : ∀ x : Nat, x ≤ 9 → ishl .i64 1 (x : Int) = ((2 ^ x : Nat) : Int) := fun x hx => by
    have hx9 : 2 ^ x ≤ 2 ^ 9 := Nat.pow_le_pow_right (by omega) hx
    have := ishl_i64 (x := 1) (n := x) (by omega) (by omega)
    rw [Nat.one_mul] at this
    exact this
  obtain ⟨R, hR⟩ : ∃ R, rfS (num bs) n off most bits = R := ⟨_, rfl⟩
  have hfacts := fun cs n' p (h : R = some (cs, n', p)) => rfS_facts (hR.trans h) hm hb
  rw [hR]
  (conv => whnf); repeat ((first | refine RngK.mk (by omega) (by omega) ?_ | refine NzK.mk (by omega) ?_ | refine NnK.mk (by omega) ?_ | refine BdK.mk (by omega) (by omega) (by omega) ?_ | refine InsK.lit (by omega) (by omega) ?_ | refine SpK.lit ?_ | refine GrdK.same ?_ | refine GrdK.tf ?_ | refine GrdK.ft ?_ | refine PickK.t ?_ | refine PickK.f ?_); (conv => whnf))
  rw [e0 bits hb]
  (conv => whnf); repeat ((first | refine RngK.mk (by omega) (by omega) ?_ | refine NzK.mk (by omega) ?_ | refine NnK.mk (by omega) ?_ | refine BdK.mk (by omega) (by omega) (by omega) ?_ | refine InsK.lit (by omega) (by omega) ?_ | refine SpK.lit ?_ | refine GrdK.same ?_ | refine GrdK.tf ?_ | refine GrdK.ft ?_ | refine PickK.t ?_ | refine PickK.f ?_); (conv => whnf))
  refine EffK.made (2 ^ bits) rfl rfl rfl rfl (by show 4 * _ ≤ _; omega) (by simp [maxLen]; omega) fun b12 => ?_
  (conv => whnf); repeat ((first | refine RngK.mk (by omega) (by omega) ?_ | refine NzK.mk (by omega) ?_ | refine NnK.mk (by omega) ?_ | refine BdK.mk (by omega) (by omega) (by omega) ?_ | refine InsK.lit (by omega) (by omega) ?_ | refine SpK.lit ?_ | refine GrdK.same ?_ | refine GrdK.tf ?_ | refine GrdK.ft ?_ | refine PickK.t ?_ | refine PickK.f ?_); (conv => whnf))
  refine ⟨_, _, rfl, rfl, ?_⟩
  intro b17
  (conv => whnf); repeat ((first | refine RngK.mk (by omega) (by omega) ?_ | refine NzK.mk (by omega) ?_ | refine NnK.mk (by omega) ?_ | refine BdK.mk (by omega) (by omega) (by omega) ?_ | refine InsK.lit (by omega) (by omega) ?_ | refine SpK.lit ?_ | refine GrdK.same ?_ | refine GrdK.tf ?_ | refine GrdK.ft ?_ | refine PickK.t ?_ | refine PickK.f ?_); (conv => whnf))
  have hme := made_en (2 ^ bits)
  have hrf := readFSE_spec b17 A n c bs e u off most bits (some ⟨b12, 0, none⟩) (2 ^ bits) (2 ^ bits) hn ho hm hb (Nat.le_refl _) (by omega)
  rw [← hme, hR] at hrf
  refine CallK.of [1] hrf rfl (fun w hw => ⟨hp.pass hw, hL.pass hw, ?_⟩) ?_
  · exact Rd.ofBlk (o := 6) (m := 1) (sz := 1) hw 0 rfl (by decide)
  cases hRR : R with
  | none =>
    rintro _ _ ⟨T', x, rfl, rfl⟩
    (conv => whnf); repeat ((first | refine RngK.mk (by omega) (by omega) ?_ | refine NzK.mk (by omega) ?_ | refine NnK.mk (by omega) ?_ | refine BdK.mk (by omega) (by omega) (by omega) ?_ | refine InsK.lit (by omega) (by omega) ?_ | refine SpK.lit ?_ | refine GrdK.same ?_ | refine GrdK.tf ?_ | refine GrdK.ft ?_ | refine PickK.t ?_ | refine PickK.f ?_); (conv => whnf))
    refine ValK.neIface rfl ?_
    (conv => whnf); repeat ((first | refine RngK.mk (by omega) (by omega) ?_ | refine NzK.mk (by omega) ?_ | refine NnK.mk (by omega) ?_ | refine BdK.mk (by omega) (by omega) (by omega) ?_ | refine InsK.lit (by omega) (by omega) ?_ | refine SpK.lit ?_ | refine GrdK.same ?_ | refine GrdK.tf ?_ | refine GrdK.ft ?_ | refine PickK.t ?_ | refine PickK.f ?_); (conv => whnf))
    refine Wp.cond rfl (fun _ => ?_) (fun h => by cases h)
    (conv => whnf); repeat ((first | refine RngK.mk (by omega) (by omega) ?_ | refine NzK.mk (by omega) ?_ | refine NnK.mk (by omega) ?_ | refine BdK.mk (by omega) (by omega) (by omega) ?_ | refine InsK.lit (by omega) (by omega) ?_ | refine SpK.lit ?_ | refine GrdK.same ?_ | refine GrdK.tf ?_ | refine GrdK.ft ?_ | refine PickK.t ?_ | refine PickK.f ?_); (conv => whnf))
    exact ⟨_, HSub.nil _, T', x, rfl, rfl⟩
  | some x =>
    obtain ⟨cs, b, p⟩ := x
    obtain ⟨q1, q2, q3, q4, q5, q6⟩ := hfacts _ _ _ hRR
    have hbl := build_len q1 q2
    rintro _ _ ⟨rfl, rfl⟩
    have hbb : 2 ^ b ≤ 2 ^ bits := Nat.pow_le_pow_right (by omega) q4
    have hel : ((buildN cs b).map entOf).length = 2 ^ b := by rw [List.length_map]; exact hbl
    (conv => whnf); repeat ((first | refine RngK.mk (by omega) (by omega) ?_ | refine NzK.mk (by omega) ?_ | refine NnK.mk (by omega) ?_ | refine BdK.mk (by omega) (by omega) (by omega) ?_ | refine InsK.lit (by omega) (by omega) ?_ | refine SpK.lit ?_ | refine GrdK.same ?_ | refine GrdK.tf ?_ | refine GrdK.ft ?_ | refine PickK.t ?_ | refine PickK.f ?_); (conv => whnf))
    refine ValK.neNil rfl ?_
    (conv => whnf); repeat ((first | refine RngK.mk (by omega) (by omega) ?_ | refine NzK.mk (by omega) ?_ | refine NnK.mk (by omega) ?_ | refine BdK.mk (by omega) (by omega) (by omega) ?_ | refine InsK.lit (by omega) (by omega) ?_ | refine SpK.lit ?_ | refine GrdK.same ?_ | refine GrdK.tf ?_ | refine GrdK.ft ?_ | refine PickK.t ?_ | refine PickK.f ?_); (conv => whnf))
    refine Wp.cond rfl (fun h => by cases h) (fun _ => ?_)
    (conv => whnf); repeat ((first | refine RngK.mk (by omega) (by omega) ?_ | refine NzK.mk (by omega) ?_ | refine NnK.mk (by omega) ?_ | refine BdK.mk (by omega) (by omega) (by omega) ?_ | refine InsK.lit (by omega) (by omega) ?_ | refine SpK.lit ?_ | refine GrdK.same ?_ | refine GrdK.tf ?_ | refine GrdK.ft ?_ | refine PickK.t ?_ | refine PickK.f ?_); (conv => whnf))
    rw [e0 b (by omega)]
    (conv => whnf); repeat ((first | refine RngK.mk (by omega) (by omega) ?_ | refine NzK.mk (by omega) ?_ | refine NnK.mk (by omega) ?_ | refine BdK.mk (by omega) (by omega) (by omega) ?_ | refine InsK.lit (by omega) (by omega) ?_ | refine SpK.lit ?_ | refine GrdK.same ?_ | refine GrdK.tf ?_ | refine GrdK.ft ?_ | refine PickK.t ?_ | refine PickK.f ?_); (conv => whnf))
    refine CallK.cast [.slice (some ⟨b12, 0, none⟩) (2 ^ b) (2 ^ bits)] ?_ ?_
    · show [Value.slice (cutA (some ⟨b12, 0, none⟩) 0 (2 ^ bits) 3) (2 ^ b - 0) (2 ^ bits - 0)] = _
      rw [cutA_zero]
      rfl
    have htl : (flE (tabE (buildN cs b) [] (2 ^ bits - 2 ^ b))).take (2 ^ b * 3) = flE ((buildN cs b).map entOf) := by
      have hx : flE (tabE (buildN cs b) [] (2 ^ bits - 2 ^ b)) = flE ((buildN cs b).map entOf) ++ flE (List.replicate (2 ^ bits - 2 ^ b) (0, 0, 0)) := by
        simp [tabE, flE, List.flatMap_append]
      rw [hx, List.take_left']
      rw [flE_len, hel]
    refine CallK.of [] (zzf_spec (some ⟨b12, 0, none⟩) (2 ^ b) (2 ^ bits) ((buildN cs b).map entOf) (by omega) hel) rfl (fun w hw => ?_) ?_
    · have h := (Rd.ofOwn hw 0 rfl).take hbb
      rw [htl] at h
      exact h
    rintro _ _ ⟨A2, c2, rfl, rfl⟩
    unfold OwnN
    rw [hel]
    (conv => whnf); repeat ((first | refine RngK.mk (by omega) (by omega) ?_ | refine NzK.mk (by omega) ?_ | refine NnK.mk (by omega) ?_ | refine BdK.mk (by omega) (by omega) (by omega) ?_ | refine InsK.lit (by omega) (by omega) ?_ | refine SpK.lit ?_ | refine GrdK.same ?_ | refine GrdK.tf ?_ | refine GrdK.ft ?_ | refine PickK.t ?_ | refine PickK.f ?_); (conv => whnf))
    exact ⟨_, HSub.of [0] rfl, A2, c2, rfl, rfl⟩
theorem rstates_spec (A : Option Addr) (n c : Nat) (bs : List UInt8) (e u : Addr) (off most bits : Nat) (hn : n ≤ 16777216) (ho : off ≤ n) (hm : most ≤ 255) (hb : bits ≤ 9) :
    FnS Tryd.prog 16 [.slice A n c, vN off, vN most, vN bits] [] (fun w => Bytes w (blocks []) A n c bs ∧ Laid w (blocks []) e u)
      (fun v H => match rfS (num bs) n off most bits with
        | none => ∃ A1 c1, v = .tuple #[.slice A1 0 c1, vI 0, vI 0, vB false] ∧ H = [.own A1 0 c1 32 3 []]
        | some (cs, b, p) => ∃ A1 c1, v = .tuple #[.slice A1 (2 ^ b) c1, vN b, vN ((p + 7) / 8), vB true] ∧ H = [.own A1 (2 ^ b) c1 32 3 (flat ((buildN cs b).map rowS))]) := by
  refine FnS.introD Tryd.func16 rfl (by kernel_rfl) rfl fun w hH ⟨hp, hL⟩ => ?_
  have hrf := zzread_spec A n c bs e u off most bits hn ho hm hb
  obtain ⟨R, hR⟩ : ∃ R, rfS (num bs) n off most bits = R := ⟨_, rfl⟩
  have hfacts := fun cs n' p (h : R = some (cs, n', p)) => rfS_facts (hR.trans h) hm hb
  rw [hR] at hrf ⊢
  (conv => whnf); repeat ((first | refine RngK.mk (by omega) (by omega) ?_ | refine NzK.mk (by omega) ?_ | refine NnK.mk (by omega) ?_ | refine BdK.mk (by omega) (by omega) (by omega) ?_ | refine InsK.lit (by omega) (by omega) ?_ | refine SpK.lit ?_ | refine GrdK.same ?_ | refine GrdK.tf ?_ | refine GrdK.ft ?_ | refine PickK.t ?_ | refine PickK.f ?_); (conv => whnf))
  refine CallK.of [] hrf rfl (fun w hw => ⟨hp.pass hw, hL.pass hw⟩) ?_
  cases hRR : R with
  | none =>
    rintro _ _ ⟨T', x, rfl, rfl⟩
    (conv => whnf); repeat ((first | refine RngK.mk (by omega) (by omega) ?_ | refine NzK.mk (by omega) ?_ | refine NnK.mk (by omega) ?_ | refine BdK.mk (by omega) (by omega) (by omega) ?_ | refine InsK.lit (by omega) (by omega) ?_ | refine SpK.lit ?_ | refine GrdK.same ?_ | refine GrdK.tf ?_ | refine GrdK.ft ?_ | refine PickK.t ?_ | refine PickK.f ?_); (conv => whnf))
    refine DrwK.ord (by kernel_rfl) [0, 2, 3, 4, 5, 1, 6, 7, 8, 9] (by kernel_rfl) ?_; conv => whnf
    (conv => whnf); repeat ((first | refine RngK.mk (by omega) (by omega) ?_ | refine NzK.mk (by omega) ?_ | refine NnK.mk (by omega) ?_ | refine BdK.mk (by omega) (by omega) (by omega) ?_ | refine InsK.lit (by omega) (by omega) ?_ | refine SpK.lit ?_ | refine GrdK.same ?_ | refine GrdK.tf ?_ | refine GrdK.ft ?_ | refine PickK.t ?_ | refine PickK.f ?_); (conv => whnf))
    refine ValK.eqIface rfl ?_
    (conv => whnf); repeat ((first | refine RngK.mk (by omega) (by omega) ?_ | refine NzK.mk (by omega) ?_ | refine NnK.mk (by omega) ?_ | refine BdK.mk (by omega) (by omega) (by omega) ?_ | refine InsK.lit (by omega) (by omega) ?_ | refine SpK.lit ?_ | refine GrdK.same ?_ | refine GrdK.tf ?_ | refine GrdK.ft ?_ | refine PickK.t ?_ | refine PickK.f ?_); (conv => whnf))
    refine CallK.of0 ((statesOf_spec none 0 0 [] (by omega) rfl (fun x hx => by cases hx)).mono (fun _ _ => Rd.nil 3) (fun _ _ h => h)) ?_
    rintro _ _ ⟨A1, c1, rfl, rfl⟩
    (conv => whnf); repeat ((first | refine RngK.mk (by omega) (by omega) ?_ | refine NzK.mk (by omega) ?_ | refine NnK.mk (by omega) ?_ | refine BdK.mk (by omega) (by omega) (by omega) ?_ | refine InsK.lit (by omega) (by omega) ?_ | refine SpK.lit ?_ | refine GrdK.same ?_ | refine GrdK.tf ?_ | refine GrdK.ft ?_ | refine PickK.t ?_ | refine PickK.f ?_); (conv => whnf))
    exact ⟨_, HSub.refl _, A1, c1, rfl, rfl⟩
  | some x =>
    obtain ⟨cs, b, p⟩ := x
    obtain ⟨q1, q2, q3, q4, q5, q6⟩ := hfacts _ _ _ hRR
    have hbl := build_len q1 q2
    have hM := q1.M
    obtain ⟨hen1, hen2⟩ := build_ents q1 q2
    have hel : ((buildN cs b).map entOf).length = 2 ^ b := by rw [List.length_map]; exact hbl
    rintro _ _ ⟨A1, c1, rfl, rfl⟩
    (conv => whnf); repeat ((first | refine RngK.mk (by omega) (by omega) ?_ | refine NzK.mk (by omega) ?_ | refine NnK.mk (by omega) ?_ | refine BdK.mk (by omega) (by omega) (by omega) ?_ | refine InsK.lit (by omega) (by omega) ?_ | refine SpK.lit ?_ | refine GrdK.same ?_ | refine GrdK.tf ?_ | refine GrdK.ft ?_ | refine PickK.t ?_ | refine PickK.f ?_); (conv => whnf))
    refine DrwK.ord (by kernel_rfl) [0, 2, 3, 4, 5, 1, 6, 7, 8, 9] (by kernel_rfl) ?_; conv => whnf
    (conv => whnf); repeat ((first | refine RngK.mk (by omega) (by omega) ?_ | refine NzK.mk (by omega) ?_ | refine NnK.mk (by omega) ?_ | refine BdK.mk (by omega) (by omega) (by omega) ?_ | refine InsK.lit (by omega) (by omega) ?_ | refine SpK.lit ?_ | refine GrdK.same ?_ | refine GrdK.tf ?_ | refine GrdK.ft ?_ | refine PickK.t ?_ | refine PickK.f ?_); (conv => whnf))
    refine ValK.eqNil rfl ?_
    (conv => whnf); repeat ((first | refine RngK.mk (by omega) (by omega) ?_ | refine NzK.mk (by omega) ?_ | refine NnK.mk (by omega) ?_ | refine BdK.mk (by omega) (by omega) (by omega) ?_ | refine InsK.lit (by omega) (by omega) ?_ | refine SpK.lit ?_ | refine GrdK.same ?_ | refine GrdK.tf ?_ | refine GrdK.ft ?_ | refine PickK.t ?_ | refine PickK.f ?_); (conv => whnf))
    refine CallK.of [] (statesOf_spec A1 (2 ^ b) c1 ((buildN cs b).map entOf) (by omega) hel hen1) rfl (fun w hw => Rd.ofOwn hw 0 rfl) ?_
    rintro _ _ ⟨A2, c2, rfl, rfl⟩
    rw [hel, hen2]
    (conv => whnf); repeat ((first | refine RngK.mk (by omega) (by omega) ?_ | refine NzK.mk (by omega) ?_ | refine NnK.mk (by omega) ?_ | refine BdK.mk (by omega) (by omega) (by omega) ?_ | refine InsK.lit (by omega) (by omega) ?_ | refine SpK.lit ?_ | refine GrdK.same ?_ | refine GrdK.tf ?_ | refine GrdK.ft ?_ | refine PickK.t ?_ | refine PickK.f ?_); (conv => whnf))
    exact ⟨_, HSub.of [0] rfl, A2, c2, rfl, rfl⟩
end Go.Proofs.YtccmihdpgpgbaaaDoor
