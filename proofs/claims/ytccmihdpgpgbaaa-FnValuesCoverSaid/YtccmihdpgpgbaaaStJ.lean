/- The law FnValuesCover. -/
import Derived.Test.YtccmihdpgpgbaaaStI
namespace Go.Proofs.Ytccmihdpgpgbaaa
open Go Go.Sx
set_option maxRecDepth 100000
def covL : List St → List Be → List Nat × List Nat → List Nat × List Nat
  | s :: ss, t :: ts, p => covL ss ts (p.1.set s.1 t.1, p.2.set s.1 t.2.1)
  | _, _, p => p
theorem covL_len : ∀ (ss : List St) (ts : List Be) (p : List Nat × List Nat), (covL ss ts p).1.length = p.1.length ∧ (covL ss ts p).2.length = p.2.length
  | [], _, p => ⟨rfl, rfl⟩
  | _ :: _, [], p => ⟨rfl, rfl⟩
  | s :: ss, t :: ts, p => by
    have := covL_len ss ts (p.1.set s.1 t.1, p.2.set s.1 t.2.1)
    simpa [covL] using this
def covN (k m : Nat) : List Nat × List Nat := covL (buildN (cntN k) (bitN k)) (tabN k) (List.replicate (m + 2) 0, List.replicate (m + 2) 0)
theorem cov_facts0 : (∀ c < 35, (covN 0 35).1.getD (c + 1) 0 = (covN 0 35).1.getD c 0 + 2 ^ (covN 0 35).2.getD c 0 ∧ (covN 0 35).2.getD c 0 ≤ 16 ∧ (covN 0 35).1.getD c 0 ≤ 1000000) ∧ (covN 0 35).1.getD 0 0 = 0 := by decide +kernel
theorem cov_facts2 : (∀ c < 52, (covN 2 52).1.getD (c + 1) 0 = (covN 2 52).1.getD c 0 + 2 ^ (covN 2 52).2.getD c 0 ∧ (covN 2 52).2.getD c 0 ≤ 16 ∧ (covN 2 52).1.getD c 0 ≤ 1000000) ∧ (covN 2 52).1.getD 0 0 = 3 := by decide +kernel
theorem bld_facts0 : (buildN (cntN 0) (bitN 0)).length = 64 ∧ ∀ x ∈ buildN (cntN 0) (bitN 0), x.1 < 37 := by decide +kernel
theorem bld_facts2 : (buildN (cntN 2) (bitN 2)).length = 64 ∧ ∀ x ∈ buildN (cntN 2) (bitN 2), x.1 < 54 := by decide +kernel
theorem lawValuesCover (m : Bool) : FnS Try.prog 4 [vB m] [] (fun _ => True) (Is (vB true)) := by
  refine FnS.introD Try.func4 rfl (by kernel_rfl) rfl fun w hH _ => ?_
  cases m with
  | false =>
    (conv => whnf); repeat ((first | refine RngK.mk (by omega) (by omega) ?_ | refine NzK.mk (by omega) ?_ | refine NnK.mk (by omega) ?_ | refine BdK.mk (by omega) (by omega) (by omega) ?_ | refine InsK.lit (by omega) (by omega) ?_ | refine SpK.lit ?_ | refine GrdK.same ?_ | refine GrdK.tf ?_ | refine GrdK.ft ?_ | refine PickK.t ?_ | refine PickK.f ?_); (conv => whnf))
    refine Wp.cond rfl (fun h => by cases h) (fun _ => ?_)
    (
    (conv => whnf); repeat ((first | refine RngK.mk (by omega) (by omega) ?_ | refine NzK.mk (by omega) ?_ | refine NnK.mk (by omega) ?_ | refine BdK.mk (by omega) (by omega) (by omega) ?_ | refine InsK.lit (by omega) (by omega) ?_ | refine SpK.lit ?_ | refine GrdK.same ?_ | refine GrdK.tf ?_ | refine GrdK.ft ?_ | refine PickK.t ?_ | refine PickK.f ?_); (conv => whnf))
    refine CallK.of0 (predef_spec 0 0 (by omega) (by omega)) ?_
    rintro _ _ ⟨A1, c1, rfl, rfl⟩
    have htl : (tabN 0).length = 64 := tab_len 0 (by omega)
    rw [htl]
    (conv => whnf); repeat ((first | refine RngK.mk (by omega) (by omega) ?_ | refine NzK.mk (by omega) ?_ | refine NnK.mk (by omega) ?_ | refine BdK.mk (by omega) (by omega) (by omega) ?_ | refine InsK.lit (by omega) (by omega) ?_ | refine SpK.lit ?_ | refine GrdK.same ?_ | refine GrdK.tf ?_ | refine GrdK.ft ?_ | refine PickK.t ?_ | refine PickK.f ?_); (conv => whnf))
    refine DrwK.cut (fun x : Nat × Nat => [(3, vN 0), (4, vN 0), (5, vN 35), (6, .slice A1 64 c1), (7, .slice (some ⟨x.1, 0, none⟩) 37 37), (8, .slice (some ⟨x.2, 0, none⟩) 37 37)])
      (fun x => [.own (some ⟨x.1, 0, none⟩) 37 37 3 1 ((List.replicate 37 0).map vN), .own (some ⟨x.2, 0, none⟩) 37 37 3 1 ((List.replicate 37 0).map vN), .own A1 64 c1 38 4 (flat ((tabN 0).map rowE))]) (fun _ => True) ?_ fun ⟨b1, b2⟩ _ => ?_
    · refine DrwK.ords (by kernel_rfl) [[0, 1, 3, 4, 2, 6, 5, 7], [0, 1, 3, 4, 5, 2, 6, 7]] (by kernel_rfl) ?_
      (conv => whnf); repeat ((first | refine RngK.mk (by omega) (by omega) ?_ | refine NzK.mk (by omega) ?_ | refine NnK.mk (by omega) ?_ | refine BdK.mk (by omega) (by omega) (by omega) ?_ | refine InsK.lit (by omega) (by omega) ?_ | refine SpK.lit ?_ | refine GrdK.same ?_ | refine GrdK.tf ?_ | refine GrdK.ft ?_ | refine PickK.t ?_ | refine PickK.f ?_); (conv => whnf))
      refine ⟨?_, ?_, trivial⟩
      · (conv => whnf); repeat ((first | refine RngK.mk (by omega) (by omega) ?_ | refine NzK.mk (by omega) ?_ | refine NnK.mk (by omega) ?_ | refine BdK.mk (by omega) (by omega) (by omega) ?_ | refine InsK.lit (by omega) (by omega) ?_ | refine SpK.lit ?_ | refine GrdK.same ?_ | refine GrdK.tf ?_ | refine GrdK.ft ?_ | refine PickK.t ?_ | refine PickK.f ?_); (conv => whnf))
        refine EffK.made1 37 rfl rfl rfl rfl rfl rfl (by show 8 * _ ≤ _; omega) (by simp [maxLen]) fun b1 => ?_
        (conv => whnf); repeat ((first | refine RngK.mk (by omega) (by omega) ?_ | refine NzK.mk (by omega) ?_ | refine NnK.mk (by omega) ?_ | refine BdK.mk (by omega) (by omega) (by omega) ?_ | refine InsK.lit (by omega) (by omega) ?_ | refine SpK.lit ?_ | refine GrdK.same ?_ | refine GrdK.tf ?_ | refine GrdK.ft ?_ | refine PickK.t ?_ | refine PickK.f ?_); (conv => whnf))
        refine EffK.made1 37 rfl rfl rfl rfl rfl rfl (by show 8 * _ ≤ _; omega) (by simp [maxLen]) fun b2 => ?_
        (conv => whnf); repeat ((first | refine RngK.mk (by omega) (by omega) ?_ | refine NzK.mk (by omega) ?_ | refine NnK.mk (by omega) ?_ | refine BdK.mk (by omega) (by omega) (by omega) ?_ | refine InsK.lit (by omega) (by omega) ?_ | refine SpK.lit ?_ | refine GrdK.same ?_ | refine GrdK.tf ?_ | refine GrdK.ft ?_ | refine PickK.t ?_ | refine PickK.f ?_); (conv => whnf))
        exact ⟨(b1, b2), ⟨rfl, rfl, rfl, rfl, rfl, rfl, trivial⟩, HSub.of [1, 0, 0] rfl, trivial⟩
      · (conv => whnf); repeat ((first | refine RngK.mk (by omega) (by omega) ?_ | refine NzK.mk (by omega) ?_ | refine NnK.mk (by omega) ?_ | refine BdK.mk (by omega) (by omega) (by omega) ?_ | refine InsK.lit (by omega) (by omega) ?_ | refine SpK.lit ?_ | refine GrdK.same ?_ | refine GrdK.tf ?_ | refine GrdK.ft ?_ | refine PickK.t ?_ | refine PickK.f ?_); (conv => whnf))
        refine EffK.made1 37 rfl rfl rfl rfl rfl rfl (by show 8 * _ ≤ _; omega) (by simp [maxLen]) fun b2 => ?_
        (conv => whnf); repeat ((first | refine RngK.mk (by omega) (by omega) ?_ | refine NzK.mk (by omega) ?_ | refine NnK.mk (by omega) ?_ | refine BdK.mk (by omega) (by omega) (by omega) ?_ | refine InsK.lit (by omega) (by omega) ?_ | refine SpK.lit ?_ | refine GrdK.same ?_ | refine GrdK.tf ?_ | refine GrdK.ft ?_ | refine PickK.t ?_ | refine PickK.f ?_); (conv => whnf))
        refine EffK.made1 37 rfl rfl rfl rfl rfl rfl (by show 8 * _ ≤ _; omega) (by simp [maxLen]) fun b1 => ?_
        (conv => whnf); repeat ((first | refine RngK.mk (by omega) (by omega) ?_ | refine NzK.mk (by omega) ?_ | refine NnK.mk (by omega) ?_ | refine BdK.mk (by omega) (by omega) (by omega) ?_ | refine InsK.lit (by omega) (by omega) ?_ | refine SpK.lit ?_ | refine GrdK.same ?_ | refine GrdK.tf ?_ | refine GrdK.ft ?_ | refine PickK.t ?_ | refine PickK.f ?_); (conv => whnf))
        exact ⟨(b1, b2), ⟨rfl, rfl, rfl, rfl, rfl, rfl, trivial⟩, HSub.of [0, 0, 0] rfl, trivial⟩
    (conv => whnf); repeat ((first | refine RngK.mk (by omega) (by omega) ?_ | refine NzK.mk (by omega) ?_ | refine NnK.mk (by omega) ?_ | refine BdK.mk (by omega) (by omega) (by omega) ?_ | refine InsK.lit (by omega) (by omega) ?_ | refine SpK.lit ?_ | refine GrdK.same ?_ | refine GrdK.tf ?_ | refine GrdK.ft ?_ | refine PickK.t ?_ | refine PickK.f ?_); (conv => whnf))
    refine CallK.of0 (default_spec 0 (by omega)) ?_
    rintro _ _ ⟨A2, c2, rfl, rfl⟩
    obtain ⟨b, hb, hc, hc1, -⟩ := fillsN_facts (cnt_fills 0 (by omega))
    have hbb : b = bitN 0 := by omega
    subst hbb
    (conv => whnf); repeat ((first | refine RngK.mk (by omega) (by omega) ?_ | refine NzK.mk (by omega) ?_ | refine NnK.mk (by omega) ?_ | refine BdK.mk (by omega) (by omega) (by omega) ?_ | refine InsK.lit (by omega) (by omega) ?_ | refine SpK.lit ?_ | refine GrdK.same ?_ | refine GrdK.tf ?_ | refine GrdK.ft ?_ | refine PickK.t ?_ | refine PickK.f ?_); (conv => whnf))
    refine CallK.ofA [] (build_spec A2 (cntN 0).length c2 (bitN 0) (cntN 0) hc hc1) rfl (fun w hw => Rd.ofOwn hw 0 rfl) ?_
    rintro _ _ ⟨A3, c3, rfl, rfl⟩ hA3
    have hO3 := hA3 _ _ _ _ _ _ List.mem_cons_self
    clear hA3
    obtain ⟨hbl, hbx⟩ := bld_facts0
    obtain ⟨hcov, hcov0⟩ := cov_facts0
    have hcl := covL_len (buildN (cntN 0) (bitN 0)) (tabN 0) (List.replicate (35 + 2) 0, List.replicate (35 + 2) 0)
    obtain ⟨F, hF⟩ : ∃ F, covN 0 35 = F := ⟨_, rfl⟩
    rw [hF] at hcov hcov0
    unfold covN at hF
    rw [hF] at hcl
    simp only [List.length_replicate] at hcl
    generalize tabN 0 = tb at *
    generalize buildN (cntN 0) (bitN 0) = sts at *
    rw [show OwnS 36 sts A3 c3 = .own A3 sts.length c3 36 3 (flat (sts.map rowS)) by rw [← flat_rows]]
    have hrow3 : ∀ r ∈ sts.map rowS, r.length = 3 := fun r hr => by obtain ⟨x, _, rfl⟩ := List.mem_map.1 hr; rfl
    have hrow4 : ∀ r ∈ tb.map rowE, r.length = 4 := fun r hr => by obtain ⟨x, _, rfl⟩ := List.mem_map.1 hr; rfl
    rw [hbl]
    rw [hbl] at hO3
    (conv => whnf); repeat ((first | refine RngK.mk (by omega) (by omega) ?_ | refine NzK.mk (by omega) ?_ | refine NnK.mk (by omega) ?_ | refine BdK.mk (by omega) (by omega) (by omega) ?_ | refine InsK.lit (by omega) (by omega) ?_ | refine SpK.lit ?_ | refine GrdK.same ?_ | refine GrdK.tf ?_ | refine GrdK.ft ?_ | refine PickK.t ?_ | refine PickK.f ?_); (conv => whnf))
    refine Wp.cond rfl (fun h => by exact absurd rfl (neT h)) (fun _ => ?_)
    (conv => whnf); repeat ((first | refine RngK.mk (by omega) (by omega) ?_ | refine NzK.mk (by omega) ?_ | refine NnK.mk (by omega) ?_ | refine BdK.mk (by omega) (by omega) (by omega) ?_ | refine InsK.lit (by omega) (by omega) ?_ | refine SpK.lit ?_ | refine GrdK.same ?_ | refine GrdK.tf ?_ | refine GrdK.ft ?_ | refine PickK.t ?_ | refine PickK.f ?_); (conv => whnf))
    refine Wp.own 4 rfl fun hO1 => ?_
    obtain ⟨g1, rfl⟩ := hO1.ad (by omega)
    refine Wp.cutEx 0 (fun t : List Nat × List Nat => [(4, vN 0), (5, vN 35), (7, .slice (some ⟨b1, 0, none⟩) 37 37), (8, .slice (some ⟨b2, 0, none⟩) 37 37)])
      (fun t => [.own (some ⟨b1, 0, none⟩) 37 37 3 1 (t.1.map vN), .own (some ⟨b2, 0, none⟩) 37 37 3 1 (t.2.map vN)]) (fun t => t = F) ?_ fun t ht => ?_
    · refine Wp.loop (fun t : Nat × List Nat × List Nat => [(4, vN 0), (5, vN 35), (6, .slice (some ⟨g1, 0, none⟩) 64 c1), (7, .slice (some ⟨b1, 0, none⟩) 37 37), (8, .slice (some ⟨b2, 0, none⟩) 37 37), (37, .slice A3 64 c3), (38, vN 64), (39, vN t.1)])
        (fun t => [.own (some ⟨b1, 0, none⟩) 37 37 3 1 (t.2.1.map vN), .own (some ⟨b2, 0, none⟩) 37 37 3 1 (t.2.2.map vN), .own (some ⟨g1, 0, none⟩) 64 c1 38 4 (flat (tb.map rowE)), .own A3 64 c3 36 3 (flat (sts.map rowS))])
        (fun t => t.1 ≤ 64 ∧ t.2.1.length = 37 ∧ t.2.2.length = 37 ∧ covL (sts.drop t.1) (tb.drop t.1) t.2 = F) (fun t => 64 - t.1) (0, List.replicate 37 0, List.replicate 37 0)
        ⟨rfl, rfl, rfl, rfl, rfl, rfl, rfl, rfl, trivial⟩ (HSub.of [2, 2, 2, 0] rfl) ⟨Nat.zero_le _, rfl, rfl, hF⟩ fun ⟨i, l1, l2⟩ ⟨hi, h1, h2, hcv⟩ => ?_
      dsimp only at hi h1 h2 hcv ⊢
      (conv => whnf); repeat ((first | refine RngK.mk (by omega) (by omega) ?_ | refine NzK.mk (by omega) ?_ | refine NnK.mk (by omega) ?_ | refine BdK.mk (by omega) (by omega) (by omega) ?_ | refine InsK.lit (by omega) (by omega) ?_ | refine SpK.lit ?_ | refine GrdK.same ?_ | refine GrdK.tf ?_ | refine GrdK.ft ?_ | refine PickK.t ?_ | refine PickK.f ?_); (conv => whnf))
      refine Wp.cond rfl (fun h => ?_) (fun h => ?_)
      · have h := dT h
        have hi1 : i < sts.length := by omega
        have hi2 : i < tb.length := by omega
        have hkr : i < (sts.map rowS).length := by simpa using hi1
        have hkt : i < (tb.map rowE).length := by simpa using hi2
        have hcell : ∀ q v, (stCells sts[i])[q]? = some v → (flat (sts.map rowS))[i * 3 + q]? = some v := fun q v hv => flat_at hkr hrow3 (by rw [List.getElem_map]; exact hv)
        have hc0 : (flat (tb.map rowE))[i * 4 + 0]? = some (vN tb[i].1) := flat_at hkt hrow4 (by rw [List.getElem_map]; rfl)
        have hc1 : (flat (tb.map rowE))[i * 4 + 1]? = some (vN tb[i].2.1) := flat_at hkt hrow4 (by rw [List.getElem_map]; rfl)
        have hx := hbx _ (List.getElem_mem hi1)
        rw [drop_at hi1, drop_at hi2, covL] at hcv
        generalize sts[i] = x at hcell hx hcv
        generalize tb[i] = y at hc0 hc1 hcv
        (conv => whnf); repeat ((first | refine RngK.mk (by omega) (by omega) ?_ | refine NzK.mk (by omega) ?_ | refine NnK.mk (by omega) ?_ | refine BdK.mk (by omega) (by omega) (by omega) ?_ | refine InsK.lit (by omega) (by omega) ?_ | refine SpK.lit ?_ | refine GrdK.same ?_ | refine GrdK.tf ?_ | refine GrdK.ft ?_ | refine PickK.t ?_ | refine PickK.f ?_); (conv => whnf))
        refine InsK.own hO3 (by omega) (by omega) ?_
        (conv => whnf); repeat ((first | refine RngK.mk (by omega) (by omega) ?_ | refine NzK.mk (by omega) ?_ | refine NnK.mk (by omega) ?_ | refine BdK.mk (by omega) (by omega) (by omega) ?_ | refine InsK.lit (by omega) (by omega) ?_ | refine SpK.lit ?_ | refine GrdK.same ?_ | refine GrdK.tf ?_ | refine GrdK.ft ?_ | refine PickK.t ?_ | refine PickK.f ?_); (conv => whnf))
        refine LdK.ownN (cs := stCells x) 3 (i * 3) rfl rfl rfl rfl rfl rfl rfl hcell ?_
        (conv => whnf); repeat ((first | refine RngK.mk (by omega) (by omega) ?_ | refine NzK.mk (by omega) ?_ | refine NnK.mk (by omega) ?_ | refine BdK.mk (by omega) (by omega) (by omega) ?_ | refine InsK.lit (by omega) (by omega) ?_ | refine SpK.lit ?_ | refine GrdK.same ?_ | refine GrdK.tf ?_ | refine GrdK.ft ?_ | refine PickK.t ?_ | refine PickK.f ?_); (conv => whnf))
        refine ⟨_, _, rfl, rfl, ?_⟩
        intro b8
        (conv => whnf); repeat ((first | refine RngK.mk (by omega) (by omega) ?_ | refine NzK.mk (by omega) ?_ | refine NnK.mk (by omega) ?_ | refine BdK.mk (by omega) (by omega) (by omega) ?_ | refine InsK.lit (by omega) (by omega) ?_ | refine SpK.lit ?_ | refine GrdK.same ?_ | refine GrdK.tf ?_ | refine GrdK.ft ?_ | refine PickK.t ?_ | refine PickK.f ?_); (conv => whnf))
        refine StK.blkNE 0 (stCells x) rfl rfl rfl rfl rfl rfl ?_
        (conv => whnf); repeat ((first | refine RngK.mk (by omega) (by omega) ?_ | refine NzK.mk (by omega) ?_ | refine NnK.mk (by omega) ?_ | refine BdK.mk (by omega) (by omega) (by omega) ?_ | refine InsK.lit (by omega) (by omega) ?_ | refine SpK.lit ?_ | refine GrdK.same ?_ | refine GrdK.tf ?_ | refine GrdK.ft ?_ | refine PickK.t ?_ | refine PickK.f ?_); (conv => whnf))
        refine DrwK.ord (by kernel_rfl) [0, 1, 2, 3, 4, 5, 6, 7, 8, 9, 10, 11, 12, 13, 14, 15, 16, 17, 18, 19] (by kernel_rfl) ?_; conv => whnf
        (conv => whnf); repeat ((first | refine RngK.mk (by omega) (by omega) ?_ | refine NzK.mk (by omega) ?_ | refine NnK.mk (by omega) ?_ | refine BdK.mk (by omega) (by omega) (by omega) ?_ | refine InsK.lit (by omega) (by omega) ?_ | refine SpK.lit ?_ | refine GrdK.same ?_ | refine GrdK.tf ?_ | refine GrdK.ft ?_ | refine PickK.t ?_ | refine PickK.f ?_); (conv => whnf))
        refine LdK.blk 0 rfl rfl rfl rfl ?_
        (conv => whnf); repeat ((first | refine RngK.mk (by omega) (by omega) ?_ | refine NzK.mk (by omega) ?_ | refine NnK.mk (by omega) ?_ | refine BdK.mk (by omega) (by omega) (by omega) ?_ | refine InsK.lit (by omega) (by omega) ?_ | refine SpK.lit ?_ | refine GrdK.same ?_ | refine GrdK.tf ?_ | refine GrdK.ft ?_ | refine PickK.t ?_ | refine PickK.f ?_); (conv => whnf))
        refine LdK.blk 0 rfl rfl rfl rfl ?_
        (conv => whnf); repeat ((first | refine RngK.mk (by omega) (by omega) ?_ | refine NzK.mk (by omega) ?_ | refine NnK.mk (by omega) ?_ | refine BdK.mk (by omega) (by omega) (by omega) ?_ | refine InsK.lit (by omega) (by omega) ?_ | refine SpK.lit ?_ | refine GrdK.same ?_ | refine GrdK.tf ?_ | refine GrdK.ft ?_ | refine PickK.t ?_ | refine PickK.f ?_); (conv => whnf))
        refine LdK.own 3 (i * 4 + 0) rfl rfl rfl rfl hc0 ?_
        (conv => whnf); repeat ((first | refine RngK.mk (by omega) (by omega) ?_ | refine NzK.mk (by omega) ?_ | refine NnK.mk (by omega) ?_ | refine BdK.mk (by omega) (by omega) (by omega) ?_ | refine InsK.lit (by omega) (by omega) ?_ | refine SpK.lit ?_ | refine GrdK.same ?_ | refine GrdK.tf ?_ | refine GrdK.ft ?_ | refine PickK.t ?_ | refine PickK.f ?_); (conv => whnf))
        refine LdK.own 3 (i * 4 + 1) rfl rfl rfl rfl hc1 ?_
        (conv => whnf); repeat ((first | refine RngK.mk (by omega) (by omega) ?_ | refine NzK.mk (by omega) ?_ | refine NnK.mk (by omega) ?_ | refine BdK.mk (by omega) (by omega) (by omega) ?_ | refine InsK.lit (by omega) (by omega) ?_ | refine SpK.lit ?_ | refine GrdK.same ?_ | refine GrdK.tf ?_ | refine GrdK.ft ?_ | refine PickK.t ?_ | refine PickK.f ?_); (conv => whnf))
        refine StK.own 1 x.1 rfl ⟨b1, rfl⟩ rfl rfl rfl rfl (by simp; omega) ?_
        have es : (l1.map vN).set x.1 (Value.int .i64 (y.1 : Int)) = (l1.set x.1 y.1).map vN := by rw [List.map_set]
        rw [es]
        (conv => whnf); repeat ((first | refine RngK.mk (by omega) (by omega) ?_ | refine NzK.mk (by omega) ?_ | refine NnK.mk (by omega) ?_ | refine BdK.mk (by omega) (by omega) (by omega) ?_ | refine InsK.lit (by omega) (by omega) ?_ | refine SpK.lit ?_ | refine GrdK.same ?_ | refine GrdK.tf ?_ | refine GrdK.ft ?_ | refine PickK.t ?_ | refine PickK.f ?_); (conv => whnf))
        refine KfK.of (LdK.own 3 (i * 4 + 1) rfl rfl rfl rfl hc1 rfl) ?_
        (conv => whnf); repeat ((first | refine RngK.mk (by omega) (by omega) ?_ | refine NzK.mk (by omega) ?_ | refine NnK.mk (by omega) ?_ | refine BdK.mk (by omega) (by omega) (by omega) ?_ | refine InsK.lit (by omega) (by omega) ?_ | refine SpK.lit ?_ | refine GrdK.same ?_ | refine GrdK.tf ?_ | refine GrdK.ft ?_ | refine PickK.t ?_ | refine PickK.f ?_); (conv => whnf))
        refine KfK.of (LdK.own 3 (i * 4 + 0) rfl rfl rfl rfl hc0 rfl) ?_
        (conv => whnf); repeat ((first | refine RngK.mk (by omega) (by omega) ?_ | refine NzK.mk (by omega) ?_ | refine NnK.mk (by omega) ?_ | refine BdK.mk (by omega) (by omega) (by omega) ?_ | refine InsK.lit (by omega) (by omega) ?_ | refine SpK.lit ?_ | refine GrdK.same ?_ | refine GrdK.tf ?_ | refine GrdK.ft ?_ | refine PickK.t ?_ | refine PickK.f ?_); (conv => whnf))
        refine KfK.of (LdK.blk 0 rfl rfl rfl rfl rfl) ?_
        (conv => whnf); repeat ((first | refine RngK.mk (by omega) (by omega) ?_ | refine NzK.mk (by omega) ?_ | refine NnK.mk (by omega) ?_ | refine BdK.mk (by omega) (by omega) (by omega) ?_ | refine InsK.lit (by omega) (by omega) ?_ | refine SpK.lit ?_ | refine GrdK.same ?_ | refine GrdK.tf ?_ | refine GrdK.ft ?_ | refine PickK.t ?_ | refine PickK.f ?_); (conv => whnf))
        refine KfK.of (LdK.blk 0 rfl rfl rfl rfl rfl) ?_
        (conv => whnf); repeat ((first | refine RngK.mk (by omega) (by omega) ?_ | refine NzK.mk (by omega) ?_ | refine NnK.mk (by omega) ?_ | refine BdK.mk (by omega) (by omega) (by omega) ?_ | refine InsK.lit (by omega) (by omega) ?_ | refine SpK.lit ?_ | refine GrdK.same ?_ | refine GrdK.tf ?_ | refine GrdK.ft ?_ | refine PickK.t ?_ | refine PickK.f ?_); (conv => whnf))
        refine StK.own 2 x.1 rfl ⟨b2, rfl⟩ rfl rfl rfl rfl (by simp; omega) ?_
        have es : (l2.map vN).set x.1 (Value.int .i64 (y.2.1 : Int)) = (l2.set x.1 y.2.1).map vN := by rw [List.map_set]
        rw [es]
        (conv => whnf); repeat ((first | refine RngK.mk (by omega) (by omega) ?_ | refine NzK.mk (by omega) ?_ | refine NnK.mk (by omega) ?_ | refine BdK.mk (by omega) (by omega) (by omega) ?_ | refine InsK.lit (by omega) (by omega) ?_ | refine SpK.lit ?_ | refine GrdK.same ?_ | refine GrdK.tf ?_ | refine GrdK.ft ?_ | refine PickK.t ?_ | refine PickK.f ?_); (conv => whnf))
        exact ⟨(i + 1, l1.set x.1 y.1, l2.set x.1 y.2.1), ⟨rfl, rfl, rfl, rfl, rfl, rfl, rfl, rfl, trivial⟩, HSub.of [1, 1, 1, 1] rfl, ⟨by simp only; omega, by simp only [List.length_set]; exact h1, by simp only [List.length_set]; exact h2, hcv⟩, by simp only; omega⟩
      · have h := dF h
        rw [List.drop_of_length_le (by omega), covL.eq_def] at hcv
        (conv => whnf); repeat ((first | refine RngK.mk (by omega) (by omega) ?_ | refine NzK.mk (by omega) ?_ | refine NnK.mk (by omega) ?_ | refine BdK.mk (by omega) (by omega) (by omega) ?_ | refine InsK.lit (by omega) (by omega) ?_ | refine SpK.lit ?_ | refine GrdK.same ?_ | refine GrdK.tf ?_ | refine GrdK.ft ?_ | refine PickK.t ?_ | refine PickK.f ?_); (conv => whnf))
        exact ⟨(l1, l2), ⟨rfl, rfl, rfl, rfl, trivial⟩, HSub.of [0, 0] rfl, hcv⟩
    · subst ht
      obtain ⟨l1, l2⟩ := t
      dsimp only at hcov hcov0 hcl ⊢
      (conv => whnf); repeat ((first | refine RngK.mk (by omega) (by omega) ?_ | refine NzK.mk (by omega) ?_ | refine NnK.mk (by omega) ?_ | refine BdK.mk (by omega) (by omega) (by omega) ?_ | refine InsK.lit (by omega) (by omega) ?_ | refine SpK.lit ?_ | refine GrdK.same ?_ | refine GrdK.tf ?_ | refine GrdK.ft ?_ | refine PickK.t ?_ | refine PickK.f ?_); (conv => whnf))
      refine Wp.cutEx 2 (fun _ : Unit => [(4, vN 0), (7, .slice (some ⟨b1, 0, none⟩) 37 37)])
        (fun _ => [.own (some ⟨b1, 0, none⟩) 37 37 3 1 (l1.map vN)]) (fun _ => True) ?_ fun _ _ => ?_
      · refine Wp.loop (fun t : Nat => [(4, vN 0), (5, vN 35), (7, .slice (some ⟨b1, 0, none⟩) 37 37), (8, .slice (some ⟨b2, 0, none⟩) 37 37), (14, vN t)])
          (fun t => [.own (some ⟨b1, 0, none⟩) 37 37 3 1 (l1.map vN), .own (some ⟨b2, 0, none⟩) 37 37 3 1 (l2.map vN)])
          (fun t => t ≤ 35) (fun t => 35 - t) 0 ⟨rfl, rfl, rfl, rfl, rfl, trivial⟩ (HSub.refl _) (Nat.zero_le _) fun c hc => ?_
        (conv => whnf); repeat ((first | refine RngK.mk (by omega) (by omega) ?_ | refine NzK.mk (by omega) ?_ | refine NnK.mk (by omega) ?_ | refine BdK.mk (by omega) (by omega) (by omega) ?_ | refine InsK.lit (by omega) (by omega) ?_ | refine SpK.lit ?_ | refine GrdK.same ?_ | refine GrdK.tf ?_ | refine GrdK.ft ?_ | refine PickK.t ?_ | refine PickK.f ?_); (conv => whnf))
        refine Wp.cond rfl (fun h => ?_) (fun h => ?_)
        · have h := dT h
          obtain ⟨q1, q2, q3⟩ := hcov c (by omega)
          have ha1 : (l1.map vN)[c + 1]? = some (vN (l1.getD (c + 1) 0)) := by simp [List.getD, show c + 1 < l1.length by omega]
          have ha0 : (l1.map vN)[c]? = some (vN (l1.getD c 0)) := by simp [List.getD, show c < l1.length by omega]
          have ha2 : (l2.map vN)[c]? = some (vN (l2.getD c 0)) := by simp [List.getD, show c < l2.length by omega]
          generalize l1.getD (c + 1) 0 = v1 at *
          generalize l1.getD c 0 = v0 at *
          generalize l2.getD c 0 = v2 at *
          have hpw : 2 ^ v2 ≤ 2 ^ 16 := Nat.pow_le_pow_right (by omega) q2
          have e1 : ishl .i64 1 (v2 : Int) = ((2 ^ v2 : Nat) : Int) := by
            have := ishl_i64 (x := 1) (n := v2) (by omega) (by omega)
            rw [Nat.one_mul] at this
            exact this
          (conv => whnf); repeat ((first | refine RngK.mk (by omega) (by omega) ?_ | refine NzK.mk (by omega) ?_ | refine NnK.mk (by omega) ?_ | refine BdK.mk (by omega) (by omega) (by omega) ?_ | refine InsK.lit (by omega) (by omega) ?_ | refine SpK.lit ?_ | refine GrdK.same ?_ | refine GrdK.tf ?_ | refine GrdK.ft ?_ | refine PickK.t ?_ | refine PickK.f ?_); (conv => whnf))
          refine DrwK.ord (by kernel_rfl) [0, 1, 2, 3, 4, 5, 6, 7, 8, 9, 10, 11, 12, 13, 14, 15] (by kernel_rfl) ?_; conv => whnf
          (conv => whnf); repeat ((first | refine RngK.mk (by omega) (by omega) ?_ | refine NzK.mk (by omega) ?_ | refine NnK.mk (by omega) ?_ | refine BdK.mk (by omega) (by omega) (by omega) ?_ | refine InsK.lit (by omega) (by omega) ?_ | refine SpK.lit ?_ | refine GrdK.same ?_ | refine GrdK.tf ?_ | refine GrdK.ft ?_ | refine PickK.t ?_ | refine PickK.f ?_); (conv => whnf))
          refine LdK.own 0 (c + 1) rfl rfl rfl rfl ha1 ?_
          (conv => whnf); repeat ((first | refine RngK.mk (by omega) (by omega) ?_ | refine NzK.mk (by omega) ?_ | refine NnK.mk (by omega) ?_ | refine BdK.mk (by omega) (by omega) (by omega) ?_ | refine InsK.lit (by omega) (by omega) ?_ | refine SpK.lit ?_ | refine GrdK.same ?_ | refine GrdK.tf ?_ | refine GrdK.ft ?_ | refine PickK.t ?_ | refine PickK.f ?_); (conv => whnf))
          refine LdK.own 0 c rfl rfl rfl rfl ha0 ?_
          (conv => whnf); repeat ((first | refine RngK.mk (by omega) (by omega) ?_ | refine NzK.mk (by omega) ?_ | refine NnK.mk (by omega) ?_ | refine BdK.mk (by omega) (by omega) (by omega) ?_ | refine InsK.lit (by omega) (by omega) ?_ | refine SpK.lit ?_ | refine GrdK.same ?_ | refine GrdK.tf ?_ | refine GrdK.ft ?_ | refine PickK.t ?_ | refine PickK.f ?_); (conv => whnf))
          refine LdK.own 1 c rfl rfl rfl rfl ha2 ?_
          (conv => whnf); repeat ((first | refine RngK.mk (by omega) (by omega) ?_ | refine NzK.mk (by omega) ?_ | refine NnK.mk (by omega) ?_ | refine BdK.mk (by omega) (by omega) (by omega) ?_ | refine InsK.lit (by omega) (by omega) ?_ | refine SpK.lit ?_ | refine GrdK.same ?_ | refine GrdK.tf ?_ | refine GrdK.ft ?_ | refine PickK.t ?_ | refine PickK.f ?_); (conv => whnf))
          rw [e1]
          (conv => whnf); repeat ((first | refine RngK.mk (by omega) (by omega) ?_ | refine NzK.mk (by omega) ?_ | refine NnK.mk (by omega) ?_ | refine BdK.mk (by omega) (by omega) (by omega) ?_ | refine InsK.lit (by omega) (by omega) ?_ | refine SpK.lit ?_ | refine GrdK.same ?_ | refine GrdK.tf ?_ | refine GrdK.ft ?_ | refine PickK.t ?_ | refine PickK.f ?_); (conv => whnf))
          refine Wp.cond rfl (fun h2 => ?_) (fun h2 => ?_)
          · have h2 := neT h2
            omega
          · (conv => whnf); repeat ((first | refine RngK.mk (by omega) (by omega) ?_ | refine NzK.mk (by omega) ?_ | refine NnK.mk (by omega) ?_ | refine BdK.mk (by omega) (by omega) (by omega) ?_ | refine InsK.lit (by omega) (by omega) ?_ | refine SpK.lit ?_ | refine GrdK.same ?_ | refine GrdK.tf ?_ | refine GrdK.ft ?_ | refine PickK.t ?_ | refine PickK.f ?_); (conv => whnf))
            exact ⟨c + 1, ⟨rfl, rfl, rfl, rfl, rfl, trivial⟩, HSub.refl _, by omega, by omega⟩
        · (conv => whnf); repeat ((first | refine RngK.mk (by omega) (by omega) ?_ | refine NzK.mk (by omega) ?_ | refine NnK.mk (by omega) ?_ | refine BdK.mk (by omega) (by omega) (by omega) ?_ | refine InsK.lit (by omega) (by omega) ?_ | refine SpK.lit ?_ | refine GrdK.same ?_ | refine GrdK.tf ?_ | refine GrdK.ft ?_ | refine PickK.t ?_ | refine PickK.f ?_); (conv => whnf))
          exact ⟨(), ⟨rfl, rfl, trivial⟩, HSub.of [0] rfl, trivial⟩
      · have ha0 : (l1.map vN)[0]? = some (vN (l1.getD 0 0)) := by simp [List.getD, show 0 < l1.length by omega]
        (conv => whnf); repeat ((first | refine RngK.mk (by omega) (by omega) ?_ | refine NzK.mk (by omega) ?_ | refine NnK.mk (by omega) ?_ | refine BdK.mk (by omega) (by omega) (by omega) ?_ | refine InsK.lit (by omega) (by omega) ?_ | refine SpK.lit ?_ | refine GrdK.same ?_ | refine GrdK.tf ?_ | refine GrdK.ft ?_ | refine PickK.t ?_ | refine PickK.f ?_); (conv => whnf))
        refine LdK.own 0 0 rfl rfl rfl rfl ha0 ?_
        rw [hcov0]
        (conv => whnf); repeat ((first | refine RngK.mk (by omega) (by omega) ?_ | refine NzK.mk (by omega) ?_ | refine NnK.mk (by omega) ?_ | refine BdK.mk (by omega) (by omega) (by omega) ?_ | refine InsK.lit (by omega) (by omega) ?_ | refine SpK.lit ?_ | refine GrdK.same ?_ | refine GrdK.tf ?_ | refine GrdK.ft ?_ | refine PickK.t ?_ | refine PickK.f ?_); (conv => whnf))
        exact ⟨[], HSub.nil _, rfl, rfl⟩
    )
  | true =>
    (conv => whnf); repeat ((first | refine RngK.mk (by omega) (by omega) ?_ | refine NzK.mk (by omega) ?_ | refine NnK.mk (by omega) ?_ | refine BdK.mk (by omega) (by omega) (by omega) ?_ | refine InsK.lit (by omega) (by omega) ?_ | refine SpK.lit ?_ | refine GrdK.same ?_ | refine GrdK.tf ?_ | refine GrdK.ft ?_ | refine PickK.t ?_ | refine PickK.f ?_); (conv => whnf))
    refine Wp.cond rfl (fun _ => ?_) (fun h => by cases h)
    (
    (conv => whnf); repeat ((first | refine RngK.mk (by omega) (by omega) ?_ | refine NzK.mk (by omega) ?_ | refine NnK.mk (by omega) ?_ | refine BdK.mk (by omega) (by omega) (by omega) ?_ | refine InsK.lit (by omega) (by omega) ?_ | refine SpK.lit ?_ | refine GrdK.same ?_ | refine GrdK.tf ?_ | refine GrdK.ft ?_ | refine PickK.t ?_ | refine PickK.f ?_); (conv => whnf))
    refine CallK.of0 (predef_spec 2 2 (by omega) (by omega)) ?_
    rintro _ _ ⟨A1, c1, rfl, rfl⟩
    have htl : (tabN 2).length = 64 := tab_len 2 (by omega)
    rw [htl]
    (conv => whnf); repeat ((first | refine RngK.mk (by omega) (by omega) ?_ | refine NzK.mk (by omega) ?_ | refine NnK.mk (by omega) ?_ | refine BdK.mk (by omega) (by omega) (by omega) ?_ | refine InsK.lit (by omega) (by omega) ?_ | refine SpK.lit ?_ | refine GrdK.same ?_ | refine GrdK.tf ?_ | refine GrdK.ft ?_ | refine PickK.t ?_ | refine PickK.f ?_); (conv => whnf))
    refine DrwK.cut (fun x : Nat × Nat => [(3, vN 2), (4, vN 3), (5, vN 52), (6, .slice A1 64 c1), (7, .slice (some ⟨x.1, 0, none⟩) 54 54), (8, .slice (some ⟨x.2, 0, none⟩) 54 54)])
      (fun x => [.own (some ⟨x.1, 0, none⟩) 54 54 3 1 ((List.replicate 54 0).map vN), .own (some ⟨x.2, 0, none⟩) 54 54 3 1 ((List.replicate 54 0).map vN), .own A1 64 c1 38 4 (flat ((tabN 2).map rowE))]) (fun _ => True) ?_ fun ⟨b1, b2⟩ _ => ?_
    · refine DrwK.ords (by kernel_rfl) [[0, 1, 3, 4, 2, 6, 5, 7], [0, 1, 3, 4, 5, 2, 6, 7]] (by kernel_rfl) ?_
      (conv => whnf); repeat ((first | refine RngK.mk (by omega) (by omega) ?_ | refine NzK.mk (by omega) ?_ | refine NnK.mk (by omega) ?_ | refine BdK.mk (by omega) (by omega) (by omega) ?_ | refine InsK.lit (by omega) (by omega) ?_ | refine SpK.lit ?_ | refine GrdK.same ?_ | refine GrdK.tf ?_ | refine GrdK.ft ?_ | refine PickK.t ?_ | refine PickK.f ?_); (conv => whnf))
      refine ⟨?_, ?_, trivial⟩
      · (conv => whnf); repeat ((first | refine RngK.mk (by omega) (by omega) ?_ | refine NzK.mk (by omega) ?_ | refine NnK.mk (by omega) ?_ | refine BdK.mk (by omega) (by omega) (by omega) ?_ | refine InsK.lit (by omega) (by omega) ?_ | refine SpK.lit ?_ | refine GrdK.same ?_ | refine GrdK.tf ?_ | refine GrdK.ft ?_ | refine PickK.t ?_ | refine PickK.f ?_); (conv => whnf))
        refine EffK.made1 54 rfl rfl rfl rfl rfl rfl (by show 8 * _ ≤ _; omega) (by simp [maxLen]) fun b1 => ?_
        (conv => whnf); repeat ((first | refine RngK.mk (by omega) (by omega) ?_ | refine NzK.mk (by omega) ?_ | refine NnK.mk (by omega) ?_ | refine BdK.mk (by omega) (by omega) (by omega) ?_ | refine InsK.lit (by omega) (by omega) ?_ | refine SpK.lit ?_ | refine GrdK.same ?_ | refine GrdK.tf ?_ | refine GrdK.ft ?_ | refine PickK.t ?_ | refine PickK.f ?_); (conv => whnf))
        refine EffK.made1 54 rfl rfl rfl rfl rfl rfl (by show 8 * _ ≤ _; omega) (by simp [maxLen]) fun b2 => ?_
        (conv => whnf); repeat ((first | refine RngK.mk (by omega) (by omega) ?_ | refine NzK.mk (by omega) ?_ | refine NnK.mk (by omega) ?_ | refine BdK.mk (by omega) (by omega) (by omega) ?_ | refine InsK.lit (by omega) (by omega) ?_ | refine SpK.lit ?_ | refine GrdK.same ?_ | refine GrdK.tf ?_ | refine GrdK.ft ?_ | refine PickK.t ?_ | refine PickK.f ?_); (conv => whnf))
        exact ⟨(b1, b2), ⟨rfl, rfl, rfl, rfl, rfl, rfl, trivial⟩, HSub.of [1, 0, 0] rfl, trivial⟩
      · (conv => whnf); repeat ((first | refine RngK.mk (by omega) (by omega) ?_ | refine NzK.mk (by omega) ?_ | refine NnK.mk (by omega) ?_ | refine BdK.mk (by omega) (by omega) (by omega) ?_ | refine InsK.lit (by omega) (by omega) ?_ | refine SpK.lit ?_ | refine GrdK.same ?_ | refine GrdK.tf ?_ | refine GrdK.ft ?_ | refine PickK.t ?_ | refine PickK.f ?_); (conv => whnf))
        refine EffK.made1 54 rfl rfl rfl rfl rfl rfl (by show 8 * _ ≤ _; omega) (by simp [maxLen]) fun b2 => ?_
        (conv => whnf); repeat ((first | refine RngK.mk (by omega) (by omega) ?_ | refine NzK.mk (by omega) ?_ | refine NnK.mk (by omega) ?_ | refine BdK.mk (by omega) (by omega) (by omega) ?_ | refine InsK.lit (by omega) (by omega) ?_ | refine SpK.lit ?_ | refine GrdK.same ?_ | refine GrdK.tf ?_ | refine GrdK.ft ?_ | refine PickK.t ?_ | refine PickK.f ?_); (conv => whnf))
        refine EffK.made1 54 rfl rfl rfl rfl rfl rfl (by show 8 * _ ≤ _; omega) (by simp [maxLen]) fun b1 => ?_
        (conv => whnf); repeat ((first | refine RngK.mk (by omega) (by omega) ?_ | refine NzK.mk (by omega) ?_ | refine NnK.mk (by omega) ?_ | refine BdK.mk (by omega) (by omega) (by omega) ?_ | refine InsK.lit (by omega) (by omega) ?_ | refine SpK.lit ?_ | refine GrdK.same ?_ | refine GrdK.tf ?_ | refine GrdK.ft ?_ | refine PickK.t ?_ | refine PickK.f ?_); (conv => whnf))
        exact ⟨(b1, b2), ⟨rfl, rfl, rfl, rfl, rfl, rfl, trivial⟩, HSub.of [0, 0, 0] rfl, trivial⟩
    (conv => whnf); repeat ((first | refine RngK.mk (by omega) (by omega) ?_ | refine NzK.mk (by omega) ?_ | refine NnK.mk (by omega) ?_ | refine BdK.mk (by omega) (by omega) (by omega) ?_ | refine InsK.lit (by omega) (by omega) ?_ | refine SpK.lit ?_ | refine GrdK.same ?_ | refine GrdK.tf ?_ | refine GrdK.ft ?_ | refine PickK.t ?_ | refine PickK.f ?_); (conv => whnf))
    refine CallK.of0 (default_spec 2 (by omega)) ?_
    rintro _ _ ⟨A2, c2, rfl, rfl⟩
    obtain ⟨b, hb, hc, hc1, -⟩ := fillsN_facts (cnt_fills 2 (by omega))
    have hbb : b = bitN 2 := by omega
    subst hbb
    (conv => whnf); repeat ((first | refine RngK.mk (by omega) (by omega) ?_ | refine NzK.mk (by omega) ?_ | refine NnK.mk (by omega) ?_ | refine BdK.mk (by omega) (by omega) (by omega) ?_ | refine InsK.lit (by omega) (by omega) ?_ | refine SpK.lit ?_ | refine GrdK.same ?_ | refine GrdK.tf ?_ | refine GrdK.ft ?_ | refine PickK.t ?_ | refine PickK.f ?_); (conv => whnf))
    refine CallK.ofA [] (build_spec A2 (cntN 2).length c2 (bitN 2) (cntN 2) hc hc1) rfl (fun w hw => Rd.ofOwn hw 0 rfl) ?_
    rintro _ _ ⟨A3, c3, rfl, rfl⟩ hA3
    have hO3 := hA3 _ _ _ _ _ _ List.mem_cons_self
    clear hA3
    obtain ⟨hbl, hbx⟩ := bld_facts2
    obtain ⟨hcov, hcov0⟩ := cov_facts2
    have hcl := covL_len (buildN (cntN 2) (bitN 2)) (tabN 2) (List.replicate (52 + 2) 0, List.replicate (52 + 2) 0)
    obtain ⟨F, hF⟩ : ∃ F, covN 2 52 = F := ⟨_, rfl⟩
    rw [hF] at hcov hcov0
    unfold covN at hF
    rw [hF] at hcl
    simp only [List.length_replicate] at hcl
    generalize tabN 2 = tb at *
    generalize buildN (cntN 2) (bitN 2) = sts at *
    rw [show OwnS 36 sts A3 c3 = .own A3 sts.length c3 36 3 (flat (sts.map rowS)) by rw [← flat_rows]]
    have hrow3 : ∀ r ∈ sts.map rowS, r.length = 3 := fun r hr => by obtain ⟨x, _, rfl⟩ := List.mem_map.1 hr; rfl
    have hrow4 : ∀ r ∈ tb.map rowE, r.length = 4 := fun r hr => by obtain ⟨x, _, rfl⟩ := List.mem_map.1 hr; rfl
    rw [hbl]
    rw [hbl] at hO3
    (conv => whnf); repeat ((first | refine RngK.mk (by omega) (by omega) ?_ | refine NzK.mk (by omega) ?_ | refine NnK.mk (by omega) ?_ | refine BdK.mk (by omega) (by omega) (by omega) ?_ | refine InsK.lit (by omega) (by omega) ?_ | refine SpK.lit ?_ | refine GrdK.same ?_ | refine GrdK.tf ?_ | refine GrdK.ft ?_ | refine PickK.t ?_ | refine PickK.f ?_); (conv => whnf))
    refine Wp.cond rfl (fun h => by exact absurd rfl (neT h)) (fun _ => ?_)
    (conv => whnf); repeat ((first | refine RngK.mk (by omega) (by omega) ?_ | refine NzK.mk (by omega) ?_ | refine NnK.mk (by omega) ?_ | refine BdK.mk (by omega) (by omega) (by omega) ?_ | refine InsK.lit (by omega) (by omega) ?_ | refine SpK.lit ?_ | refine GrdK.same ?_ | refine GrdK.tf ?_ | refine GrdK.ft ?_ | refine PickK.t ?_ | refine PickK.f ?_); (conv => whnf))
    refine Wp.own 4 rfl fun hO1 => ?_
    obtain ⟨g1, rfl⟩ := hO1.ad (by omega)
    refine Wp.cutEx 0 (fun t : List Nat × List Nat => [(4, vN 3), (5, vN 52), (7, .slice (some ⟨b1, 0, none⟩) 54 54), (8, .slice (some ⟨b2, 0, none⟩) 54 54)])
      (fun t => [.own (some ⟨b1, 0, none⟩) 54 54 3 1 (t.1.map vN), .own (some ⟨b2, 0, none⟩) 54 54 3 1 (t.2.map vN)]) (fun t => t = F) ?_ fun t ht => ?_
    · refine Wp.loop (fun t : Nat × List Nat × List Nat => [(4, vN 3), (5, vN 52), (6, .slice (some ⟨g1, 0, none⟩) 64 c1), (7, .slice (some ⟨b1, 0, none⟩) 54 54), (8, .slice (some ⟨b2, 0, none⟩) 54 54), (37, .slice A3 64 c3), (38, vN 64), (39, vN t.1)])
        (fun t => [.own (some ⟨b1, 0, none⟩) 54 54 3 1 (t.2.1.map vN), .own (some ⟨b2, 0, none⟩) 54 54 3 1 (t.2.2.map vN), .own (some ⟨g1, 0, none⟩) 64 c1 38 4 (flat (tb.map rowE)), .own A3 64 c3 36 3 (flat (sts.map rowS))])
        (fun t => t.1 ≤ 64 ∧ t.2.1.length = 54 ∧ t.2.2.length = 54 ∧ covL (sts.drop t.1) (tb.drop t.1) t.2 = F) (fun t => 64 - t.1) (0, List.replicate 54 0, List.replicate 54 0)
        ⟨rfl, rfl, rfl, rfl, rfl, rfl, rfl, rfl, trivial⟩ (HSub.of [2, 2, 2, 0] rfl) ⟨Nat.zero_le _, rfl, rfl, hF⟩ fun ⟨i, l1, l2⟩ ⟨hi, h1, h2, hcv⟩ => ?_
      dsimp only at hi h1 h2 hcv ⊢
      (conv => whnf); repeat ((first | refine RngK.mk (by omega) (by omega) ?_ | refine NzK.mk (by omega) ?_ | refine NnK.mk (by omega) ?_ | refine BdK.mk (by omega) (by omega) (by omega) ?_ | refine InsK.lit (by omega) (by omega) ?_ | refine SpK.lit ?_ | refine GrdK.same ?_ | refine GrdK.tf ?_ | refine GrdK.ft ?_ | refine PickK.t ?_ | refine PickK.f ?_); (conv => whnf))
      refine Wp.cond rfl (fun h => ?_) (fun h => ?_)
      · have h := dT h
        have hi1 : i < sts.length := by omega
        have hi2 : i < tb.length := by omega
        have hkr : i < (sts.map rowS).length := by simpa using hi1
        have hkt : i < (tb.map rowE).length := by simpa using hi2
        have hcell : ∀ q v, (stCells sts[i])[q]? = some v → (flat (sts.map rowS))[i * 3 + q]? = some v := fun q v hv => flat_at hkr hrow3 (by rw [List.getElem_map]; exact hv)
        have hc0 : (flat (tb.map rowE))[i * 4 + 0]? = some (vN tb[i].1) := flat_at hkt hrow4 (by rw [List.getElem_map]; rfl)
        have hc1 : (flat (tb.map rowE))[i * 4 + 1]? = some (vN tb[i].2.1) := flat_at hkt hrow4 (by rw [List.getElem_map]; rfl)
        have hx := hbx _ (List.getElem_mem hi1)
        rw [drop_at hi1, drop_at hi2, covL] at hcv
        generalize sts[i] = x at hcell hx hcv
        generalize tb[i] = y at hc0 hc1 hcv
        (conv => whnf); repeat ((first | refine RngK.mk (by omega) (by omega) ?_ | refine NzK.mk (by omega) ?_ | refine NnK.mk (by omega) ?_ | refine BdK.mk (by omega) (by omega) (by omega) ?_ | refine InsK.lit (by omega) (by omega) ?_ | refine SpK.lit ?_ | refine GrdK.same ?_ | refine GrdK.tf ?_ | refine GrdK.ft ?_ | refine PickK.t ?_ | refine PickK.f ?_); (conv => whnf))
        refine InsK.own hO3 (by omega) (by omega) ?_
        (conv => whnf); repeat ((first | refine RngK.mk (by omega) (by omega) ?_ | refine NzK.mk (by omega) ?_ | refine NnK.mk (by omega) ?_ | refine BdK.mk (by omega) (by omega) (by omega) ?_ | refine InsK.lit (by omega) (by omega) ?_ | refine SpK.lit ?_ | refine GrdK.same ?_ | refine GrdK.tf ?_ | refine GrdK.ft ?_ | refine PickK.t ?_ | refine PickK.f ?_); (conv => whnf))
        refine LdK.ownN (cs := stCells x) 3 (i * 3) rfl rfl rfl rfl rfl rfl rfl hcell ?_
        (conv => whnf); repeat ((first | refine RngK.mk (by omega) (by omega) ?_ | refine NzK.mk (by omega) ?_ | refine NnK.mk (by omega) ?_ | refine BdK.mk (by omega) (by omega) (by omega) ?_ | refine InsK.lit (by omega) (by omega) ?_ | refine SpK.lit ?_ | refine GrdK.same ?_ | refine GrdK.tf ?_ | refine GrdK.ft ?_ | refine PickK.t ?_ | refine PickK.f ?_); (conv => whnf))
        refine ⟨_, _, rfl, rfl, ?_⟩
        intro b8
        (conv => whnf); repeat ((first | refine RngK.mk (by omega) (by omega) ?_ | refine NzK.mk (by omega) ?_ | refine NnK.mk (by omega) ?_ | refine BdK.mk (by omega) (by omega) (by omega) ?_ | refine InsK.lit (by omega) (by omega) ?_ | refine SpK.lit ?_ | refine GrdK.same ?_ | refine GrdK.tf ?_ | refine GrdK.ft ?_ | refine PickK.t ?_ | refine PickK.f ?_); (conv => whnf))
        refine StK.blkNE 0 (stCells x) rfl rfl rfl rfl rfl rfl ?_
        (conv => whnf); repeat ((first | refine RngK.mk (by omega) (by omega) ?_ | refine NzK.mk (by omega) ?_ | refine NnK.mk (by omega) ?_ | refine BdK.mk (by omega) (by omega) (by omega) ?_ | refine InsK.lit (by omega) (by omega) ?_ | refine SpK.lit ?_ | refine GrdK.same ?_ | refine GrdK.tf ?_ | refine GrdK.ft ?_ | refine PickK.t ?_ | refine PickK.f ?_); (conv => whnf))
        refine DrwK.ord (by kernel_rfl) [0, 1, 2, 3, 4, 5, 6, 7, 8, 9, 10, 11, 12, 13, 14, 15, 16, 17, 18, 19] (by kernel_rfl) ?_; conv => whnf
        (conv => whnf); repeat ((first | refine RngK.mk (by omega) (by omega) ?_ | refine NzK.mk (by omega) ?_ | refine NnK.mk (by omega) ?_ | refine BdK.mk (by omega) (by omega) (by omega) ?_ | refine InsK.lit (by omega) (by omega) ?_ | refine SpK.lit ?_ | refine GrdK.same ?_ | refine GrdK.tf ?_ | refine GrdK.ft ?_ | refine PickK.t ?_ | refine PickK.f ?_); (conv => whnf))
        refine LdK.blk 0 rfl rfl rfl rfl ?_
        (conv => whnf); repeat ((first | refine RngK.mk (by omega) (by omega) ?_ | refine NzK.mk (by omega) ?_ | refine NnK.mk (by omega) ?_ | refine BdK.mk (by omega) (by omega) (by omega) ?_ | refine InsK.lit (by omega) (by omega) ?_ | refine SpK.lit ?_ | refine GrdK.same ?_ | refine GrdK.tf ?_ | refine GrdK.ft ?_ | refine PickK.t ?_ | refine PickK.f ?_); (conv => whnf))
        refine LdK.blk 0 rfl rfl rfl rfl ?_
        (conv => whnf); repeat ((first | refine RngK.mk (by omega) (by omega) ?_ | refine NzK.mk (by omega) ?_ | refine NnK.mk (by omega) ?_ | refine BdK.mk (by omega) (by omega) (by omega) ?_ | refine InsK.lit (by omega) (by omega) ?_ | refine SpK.lit ?_ | refine GrdK.same ?_ | refine GrdK.tf ?_ | refine GrdK.ft ?_ | refine PickK.t ?_ | refine PickK.f ?_); (conv => whnf))
        refine LdK.own 3 (i * 4 + 0) rfl rfl rfl rfl hc0 ?_
        (conv => whnf); repeat ((first | refine RngK.mk (by omega) (by omega) ?_ | refine NzK.mk (by omega) ?_ | refine NnK.mk (by omega) ?_ | refine BdK.mk (by omega) (by omega) (by omega) ?_ | refine InsK.lit (by omega) (by omega) ?_ | refine SpK.lit ?_ | refine GrdK.same ?_ | refine GrdK.tf ?_ | refine GrdK.ft ?_ | refine PickK.t ?_ | refine PickK.f ?_); (conv => whnf))
        refine LdK.own 3 (i * 4 + 1) rfl rfl rfl rfl hc1 ?_
        (conv => whnf); repeat ((first | refine RngK.mk (by omega) (by omega) ?_ | refine NzK.mk (by omega) ?_ | refine NnK.mk (by omega) ?_ | refine BdK.mk (by omega) (by omega) (by omega) ?_ | refine InsK.lit (by omega) (by omega) ?_ | refine SpK.lit ?_ | refine GrdK.same ?_ | refine GrdK.tf ?_ | refine GrdK.ft ?_ | refine PickK.t ?_ | refine PickK.f ?_); (conv => whnf))
        refine StK.own 1 x.1 rfl ⟨b1, rfl⟩ rfl rfl rfl rfl (by simp; omega) ?_
        have es : (l1.map vN).set x.1 (Value.int .i64 (y.1 : Int)) = (l1.set x.1 y.1).map vN := by rw [List.map_set]
        rw [es]
        (conv => whnf); repeat ((first | refine RngK.mk (by omega) (by omega) ?_ | refine NzK.mk (by omega) ?_ | refine NnK.mk (by omega) ?_ | refine BdK.mk (by omega) (by omega) (by omega) ?_ | refine InsK.lit (by omega) (by omega) ?_ | refine SpK.lit ?_ | refine GrdK.same ?_ | refine GrdK.tf ?_ | refine GrdK.ft ?_ | refine PickK.t ?_ | refine PickK.f ?_); (conv => whnf))
        refine KfK.of (LdK.own 3 (i * 4 + 1) rfl rfl rfl rfl hc1 rfl) ?_
        (conv => whnf); repeat ((first | refine RngK.mk (by omega) (by omega) ?_ | refine NzK.mk (by omega) ?_ | refine NnK.mk (by omega) ?_ | refine BdK.mk (by omega) (by omega) (by omega) ?_ | refine InsK.lit (by omega) (by omega) ?_ | refine SpK.lit ?_ | refine GrdK.same ?_ | refine GrdK.tf ?_ | refine GrdK.ft ?_ | refine PickK.t ?_ | refine PickK.f ?_); (conv => whnf))
        refine KfK.of (LdK.own 3 (i * 4 + 0) rfl rfl rfl rfl hc0 rfl) ?_
        (conv => whnf); repeat ((first | refine RngK.mk (by omega) (by omega) ?_ | refine NzK.mk (by omega) ?_ | refine NnK.mk (by omega) ?_ | refine BdK.mk (by omega) (by omega) (by omega) ?_ | refine InsK.lit (by omega) (by omega) ?_ | refine SpK.lit ?_ | refine GrdK.same ?_ | refine GrdK.tf ?_ | refine GrdK.ft ?_ | refine PickK.t ?_ | refine PickK.f ?_); (conv => whnf))
        refine KfK.of (LdK.blk 0 rfl rfl rfl rfl rfl) ?_
        (conv => whnf); repeat ((first | refine RngK.mk (by omega) (by omega) ?_ | refine NzK.mk (by omega) ?_ | refine NnK.mk (by omega) ?_ | refine BdK.mk (by omega) (by omega) (by omega) ?_ | refine InsK.lit (by omega) (by omega) ?_ | refine SpK.lit ?_ | refine GrdK.same ?_ | refine GrdK.tf ?_ | refine GrdK.ft ?_ | refine PickK.t ?_ | refine PickK.f ?_); (conv => whnf))
        refine KfK.of (LdK.blk 0 rfl rfl rfl rfl rfl) ?_
        (conv => whnf); repeat ((first | refine RngK.mk (by omega) (by omega) ?_ | refine NzK.mk (by omega) ?_ | refine NnK.mk (by omega) ?_ | refine BdK.mk (by omega) (by omega) (by omega) ?_ | refine InsK.lit (by omega) (by omega) ?_ | refine SpK.lit ?_ | refine GrdK.same ?_ | refine GrdK.tf ?_ | refine GrdK.ft ?_ | refine PickK.t ?_ | refine PickK.f ?_); (conv => whnf))
        refine StK.own 2 x.1 rfl ⟨b2, rfl⟩ rfl rfl rfl rfl (by simp; omega) ?_
        have es : (l2.map vN).set x.1 (Value.int .i64 (y.2.1 : Int)) = (l2.set x.1 y.2.1).map vN := by rw [List.map_set]
        rw [es]
        (conv => whnf); repeat ((first | refine RngK.mk (by omega) (by omega) ?_ | refine NzK.mk (by omega) ?_ | refine NnK.mk (by omega) ?_ | refine BdK.mk (by omega) (by omega) (by omega) ?_ | refine InsK.lit (by omega) (by omega) ?_ | refine SpK.lit ?_ | refine GrdK.same ?_ | refine GrdK.tf ?_ | refine GrdK.ft ?_ | refine PickK.t ?_ | refine PickK.f ?_); (conv => whnf))
        exact ⟨(i + 1, l1.set x.1 y.1, l2.set x.1 y.2.1), ⟨rfl, rfl, rfl, rfl, rfl, rfl, rfl, rfl, trivial⟩, HSub.of [1, 1, 1, 1] rfl, ⟨by simp only; omega, by simp only [List.length_set]; exact h1, by simp only [List.length_set]; exact h2, hcv⟩, by simp only; omega⟩
      · have h := dF h
        rw [List.drop_of_length_le (by omega), covL.eq_def] at hcv
        (conv => whnf); repeat ((first | refine RngK.mk (by omega) (by omega) ?_ | refine NzK.mk (by omega) ?_ | refine NnK.mk (by omega) ?_ | refine BdK.mk (by omega) (by omega) (by omega) ?_ | refine InsK.lit (by omega) (by omega) ?_ | refine SpK.lit ?_ | refine GrdK.same ?_ | refine GrdK.tf ?_ | refine GrdK.ft ?_ | refine PickK.t ?_ | refine PickK.f ?_); (conv => whnf))
        exact ⟨(l1, l2), ⟨rfl, rfl, rfl, rfl, trivial⟩, HSub.of [0, 0] rfl, hcv⟩
    · subst ht
      obtain ⟨l1, l2⟩ := t
      dsimp only at hcov hcov0 hcl ⊢
      (conv => whnf); repeat ((first | refine RngK.mk (by omega) (by omega) ?_ | refine NzK.mk (by omega) ?_ | refine NnK.mk (by omega) ?_ | refine BdK.mk (by omega) (by omega) (by omega) ?_ | refine InsK.lit (by omega) (by omega) ?_ | refine SpK.lit ?_ | refine GrdK.same ?_ | refine GrdK.tf ?_ | refine GrdK.ft ?_ | refine PickK.t ?_ | refine PickK.f ?_); (conv => whnf))
      refine Wp.cutEx 2 (fun _ : Unit => [(4, vN 3), (7, .slice (some ⟨b1, 0, none⟩) 54 54)])
        (fun _ => [.own (some ⟨b1, 0, none⟩) 54 54 3 1 (l1.map vN)]) (fun _ => True) ?_ fun _ _ => ?_
      · refine Wp.loop (fun t : Nat => [(4, vN 3), (5, vN 52), (7, .slice (some ⟨b1, 0, none⟩) 54 54), (8, .slice (some ⟨b2, 0, none⟩) 54 54), (14, vN t)])
          (fun t => [.own (some ⟨b1, 0, none⟩) 54 54 3 1 (l1.map vN), .own (some ⟨b2, 0, none⟩) 54 54 3 1 (l2.map vN)])
          (fun t => t ≤ 52) (fun t => 52 - t) 0 ⟨rfl, rfl, rfl, rfl, rfl, trivial⟩ (HSub.refl _) (Nat.zero_le _) fun c hc => ?_
        (conv => whnf); repeat ((first | refine RngK.mk (by omega) (by omega) ?_ | refine NzK.mk (by omega) ?_ | refine NnK.mk (by omega) ?_ | refine BdK.mk (by omega) (by omega) (by omega) ?_ | refine InsK.lit (by omega) (by omega) ?_ | refine SpK.lit ?_ | refine GrdK.same ?_ | refine GrdK.tf ?_ | refine GrdK.ft ?_ | refine PickK.t ?_ | refine PickK.f ?_); (conv => whnf))
        refine Wp.cond rfl (fun h => ?_) (fun h => ?_)
        · have h := dT h
          obtain ⟨q1, q2, q3⟩ := hcov c (by omega)
          have ha1 : (l1.map vN)[c + 1]? = some (vN (l1.getD (c + 1) 0)) := by simp [List.getD, show c + 1 < l1.length by omega]
          have ha0 : (l1.map vN)[c]? = some (vN (l1.getD c 0)) := by simp [List.getD, show c < l1.length by omega]
          have ha2 : (l2.map vN)[c]? = some (vN (l2.getD c 0)) := by simp [List.getD, show c < l2.length by omega]
          generalize l1.getD (c + 1) 0 = v1 at *
          generalize l1.getD c 0 = v0 at *
          generalize l2.getD c 0 = v2 at *
          have hpw : 2 ^ v2 ≤ 2 ^ 16 := Nat.pow_le_pow_right (by omega) q2
          have e1 : ishl .i64 1 (v2 : Int) = ((2 ^ v2 : Nat) : Int) := by
            have := ishl_i64 (x := 1) (n := v2) (by omega) (by omega)
            rw [Nat.one_mul] at this
            exact this
          (conv => whnf); repeat ((first | refine RngK.mk (by omega) (by omega) ?_ | refine NzK.mk (by omega) ?_ | refine NnK.mk (by omega) ?_ | refine BdK.mk (by omega) (by omega) (by omega) ?_ | refine InsK.lit (by omega) (by omega) ?_ | refine SpK.lit ?_ | refine GrdK.same ?_ | refine GrdK.tf ?_ | refine GrdK.ft ?_ | refine PickK.t ?_ | refine PickK.f ?_); (conv => whnf))
          refine DrwK.ord (by kernel_rfl) [0, 1, 2, 3, 4, 5, 6, 7, 8, 9, 10, 11, 12, 13, 14, 15] (by kernel_rfl) ?_; conv => whnf
          (conv => whnf); repeat ((first | refine RngK.mk (by omega) (by omega) ?_ | refine NzK.mk (by omega) ?_ | refine NnK.mk (by omega) ?_ | refine BdK.mk (by omega) (by omega) (by omega) ?_ | refine InsK.lit (by omega) (by omega) ?_ | refine SpK.lit ?_ | refine GrdK.same ?_ | refine GrdK.tf ?_ | refine GrdK.ft ?_ | refine PickK.t ?_ | refine PickK.f ?_); (conv => whnf))
          refine LdK.own 0 (c + 1) rfl rfl rfl rfl ha1 ?_
          (conv => whnf); repeat ((first | refine RngK.mk (by omega) (by omega) ?_ | refine NzK.mk (by omega) ?_ | refine NnK.mk (by omega) ?_ | refine BdK.mk (by omega) (by omega) (by omega) ?_ | refine InsK.lit (by omega) (by omega) ?_ | refine SpK.lit ?_ | refine GrdK.same ?_ | refine GrdK.tf ?_ | refine GrdK.ft ?_ | refine PickK.t ?_ | refine PickK.f ?_); (conv => whnf))
          refine LdK.own 0 c rfl rfl rfl rfl ha0 ?_
          (conv => whnf); repeat ((first | refine RngK.mk (by omega) (by omega) ?_ | refine NzK.mk (by omega) ?_ | refine NnK.mk (by omega) ?_ | refine BdK.mk (by omega) (by omega) (by omega) ?_ | refine InsK.lit (by omega) (by omega) ?_ | refine SpK.lit ?_ | refine GrdK.same ?_ | refine GrdK.tf ?_ | refine GrdK.ft ?_ | refine PickK.t ?_ | refine PickK.f ?_); (conv => whnf))
          refine LdK.own 1 c rfl rfl rfl rfl ha2 ?_
          (conv => whnf); repeat ((first | refine RngK.mk (by omega) (by omega) ?_ | refine NzK.mk (by omega) ?_ | refine NnK.mk (by omega) ?_ | refine BdK.mk (by omega) (by omega) (by omega) ?_ | refine InsK.lit (by omega) (by omega) ?_ | refine SpK.lit ?_ | refine GrdK.same ?_ | refine GrdK.tf ?_ | refine GrdK.ft ?_ | refine PickK.t ?_ | refine PickK.f ?_); (conv => whnf))
          rw [e1]
          (conv => whnf); repeat ((first | refine RngK.mk (by omega) (by omega) ?_ | refine NzK.mk (by omega) ?_ | refine NnK.mk (by omega) ?_ | refine BdK.mk (by omega) (by omega) (by omega) ?_ | refine InsK.lit (by omega) (by omega) ?_ | refine SpK.lit ?_ | refine GrdK.same ?_ | refine GrdK.tf ?_ | refine GrdK.ft ?_ | refine PickK.t ?_ | refine PickK.f ?_); (conv => whnf))
          refine Wp.cond rfl (fun h2 => ?_) (fun h2 => ?_)
          · have h2 := neT h2
            omega
          · (conv => whnf); repeat ((first | refine RngK.mk (by omega) (by omega) ?_ | refine NzK.mk (by omega) ?_ | refine NnK.mk (by omega) ?_ | refine BdK.mk (by omega) (by omega) (by omega) ?_ | refine InsK.lit (by omega) (by omega) ?_ | refine SpK.lit ?_ | refine GrdK.same ?_ | refine GrdK.tf ?_ | refine GrdK.ft ?_ | refine PickK.t ?_ | refine PickK.f ?_); (conv => whnf))
            exact ⟨c + 1, ⟨rfl, rfl, rfl, rfl, rfl, trivial⟩, HSub.refl _, by omega, by omega⟩
        · (conv => whnf); repeat ((first | refine RngK.mk (by omega) (by omega) ?_ | refine NzK.mk (by omega) ?_ | refine NnK.mk (by omega) ?_ | refine BdK.mk (by omega) (by omega) (by omega) ?_ | refine InsK.lit (by omega) (by omega) ?_ | refine SpK.lit ?_ | refine GrdK.same ?_ | refine GrdK.tf ?_ | refine GrdK.ft ?_ | refine PickK.t ?_ | refine PickK.f ?_); (conv => whnf))
          exact ⟨(), ⟨rfl, rfl, trivial⟩, HSub.of [0] rfl, trivial⟩
      · have ha0 : (l1.map vN)[0]? = some (vN (l1.getD 0 0)) := by simp [List.getD, show 0 < l1.length by omega]
        (conv => whnf); repeat ((first | refine RngK.mk (by omega) (by omega) ?_ | refine NzK.mk (by omega) ?_ | refine NnK.mk (by omega) ?_ | refine BdK.mk (by omega) (by omega) (by omega) ?_ | refine InsK.lit (by omega) (by omega) ?_ | refine SpK.lit ?_ | refine GrdK.same ?_ | refine GrdK.tf ?_ | refine GrdK.ft ?_ | refine PickK.t ?_ | refine PickK.f ?_); (conv => whnf))
        refine LdK.own 0 0 rfl rfl rfl rfl ha0 ?_
        rw [hcov0]
        (conv => whnf); repeat ((first | refine RngK.mk (by omega) (by omega) ?_ | refine NzK.mk (by omega) ?_ | refine NnK.mk (by omega) ?_ | refine BdK.mk (by omega) (by omega) (by omega) ?_ | refine InsK.lit (by omega) (by omega) ?_ | refine SpK.lit ?_ | refine GrdK.same ?_ | refine GrdK.tf ?_ | refine GrdK.ft ?_ | refine PickK.t ?_ | refine PickK.f ?_); (conv => whnf))
        exact ⟨[], HSub.nil _, rfl, rfl⟩
    )
end Go.Proofs.Ytccmihdpgpgbaaa
