/- The laws FnStatesCounted, FnStatesReached: they return true. -/
import Derived.Test.YtccmihdpgpgbaaaDoorSdC
namespace Go.Proofs.YtccmihdpgpgbaaaDoor
open Go Go.Sx
set_option maxRecDepth 100000
/-- numbers by their places -/
def tab (n : Nat) (f : Nat → Nat) : List Nat := (List.range n).map f
theorem tab_len' (n : Nat) (f : Nat → Nat) : (tab n f).length = n := by simp [tab]
theorem tab_at {n : Nat} {f : Nat → Nat} {k : Nat} (h : k < n) : (tab n f)[k]? = some (f k) := by simp [tab, h]
theorem tab_set {n k v : Nat} {f g : Nat → Nat} (hk : g k = v) (ho : ∀ y, y < n → y ≠ k → g y = f y) : (tab n f).set k v = tab n g := by
  apply List.ext_getElem
  · simp [tab]
  · intro i h1 h2
    simp only [tab_len', List.length_set] at h1 h2
    rw [List.getElem_set]
    simp only [tab, List.getElem_map, List.getElem_range]
    split
    · rename_i e; subst e; exact hk.symm
    · rename_i e; exact (ho i h2 (fun e' => e e'.symm)).symm
theorem tab_congr {n : Nat} {f g : Nat → Nat} (h : ∀ y, y < n → f y = g y) : tab n f = tab n g := by
  unfold tab
  exact List.map_congr_left fun y hy => h y (List.mem_range.1 hy)
theorem tab_zero (n : Nat) : (tab n fun _ => 0) = List.replicate n 0 := by
  apply List.ext_getElem
  · simp [tab]
  · intro i h1 h2; simp [tab]
theorem tab_map (n : Nat) (f : Nat → Nat) {k : Nat} (h : k < n) : ((tab n f).map vN)[k]? = some (vN (f k)) := by
  rw [List.getElem?_map, tab_at h]; rfl
theorem lawStatesCounted (A : Option Addr) (n c : Nat) (zs : List Int) (b : Int) :
    FnS Tryd.prog 4 [.slice A n c, vI b] [] (fun w => (Rd w (blocks []) A n 1 (zs.map (.int .i64)) ∧ n ≤ c ∧ c ≤ maxLen ∧ ∀ z ∈ zs, (Lit.int .i64 z).wf = true) ∧ (Lit.int .i64 b).wf = true) (Is (vB true)) := by
  refine FnS.introD Tryd.func4 rfl (by kernel_rfl) rfl fun w hH ⟨hR, hb⟩ => ?_
  have hn := hR.2.1
  have hcm := hR.2.2.1
  have hz64 : ∀ z ∈ zs, -9223372036854775808 ≤ z ∧ z ≤ 9223372036854775807 := fun z hz => wf_int (hR.2.2.2 z hz)
  have hp := hR.1
  clear hR
  have hcm2 := hcm
  simp only [maxLen] at hcm2
  obtain rfl : zs.length = n := by simpa using hp.len
  (conv => whnf); repeat ((first | refine RngK.mk (by omega) (by omega) ?_ | refine NzK.mk (by omega) ?_ | refine NnK.mk (by omega) ?_ | refine BdK.mk (by omega) (by omega) (by omega) ?_ | refine InsK.lit (by omega) (by omega) ?_ | refine SpK.lit ?_ | refine GrdK.same ?_ | refine GrdK.tf ?_ | refine GrdK.ft ?_ | refine PickK.t ?_ | refine PickK.f ?_); (conv => whnf))
  refine Wp.cond rfl (fun g1 => ?_) (fun g1 => ?_)
  · (conv => whnf); repeat ((first | refine RngK.mk (by omega) (by omega) ?_ | refine NzK.mk (by omega) ?_ | refine NnK.mk (by omega) ?_ | refine BdK.mk (by omega) (by omega) (by omega) ?_ | refine InsK.lit (by omega) (by omega) ?_ | refine SpK.lit ?_ | refine GrdK.same ?_ | refine GrdK.tf ?_ | refine GrdK.ft ?_ | refine PickK.t ?_ | refine PickK.f ?_); (conv => whnf))
    exact ⟨[], HSub.nil _, rfl, rfl⟩
  have g1 := dF g1
  (conv => whnf); repeat ((first | refine RngK.mk (by omega) (by omega) ?_ | refine NzK.mk (by omega) ?_ | refine NnK.mk (by omega) ?_ | refine BdK.mk (by omega) (by omega) (by omega) ?_ | refine InsK.lit (by omega) (by omega) ?_ | refine SpK.lit ?_ | refine GrdK.same ?_ | refine GrdK.tf ?_ | refine GrdK.ft ?_ | refine PickK.t ?_ | refine PickK.f ?_); (conv => whnf))
  refine EffK.litV rfl rfl rfl rfl rfl rfl rfl rfl rfl ?_
  (conv => whnf); repeat ((first | refine RngK.mk (by omega) (by omega) ?_ | refine NzK.mk (by omega) ?_ | refine NnK.mk (by omega) ?_ | refine BdK.mk (by omega) (by omega) (by omega) ?_ | refine InsK.lit (by omega) (by omega) ?_ | refine SpK.lit ?_ | refine GrdK.same ?_ | refine GrdK.tf ?_ | refine GrdK.ft ?_ | refine PickK.t ?_ | refine PickK.f ?_); (conv => whnf))
  intro b1
  (conv => whnf); repeat ((first | refine RngK.mk (by omega) (by omega) ?_ | refine NzK.mk (by omega) ?_ | refine NnK.mk (by omega) ?_ | refine BdK.mk (by omega) (by omega) (by omega) ?_ | refine InsK.lit (by omega) (by omega) ?_ | refine SpK.lit ?_ | refine GrdK.same ?_ | refine GrdK.tf ?_ | refine GrdK.ft ?_ | refine PickK.t ?_ | refine PickK.f ?_); (conv => whnf))
  refine CallK.of [] (tooLong_spec (some ⟨b1, 0, none⟩) 1 1 [(zs.length : Int)] (by intro x hx; rcases List.mem_singleton.1 hx with rfl; omega)) rfl (fun w hw => ⟨Rd.ofOwn hw 0 rfl, by decide⟩) ?_
  rintro _ _ ⟨rfl, rfl⟩
  rw [tooLong_one]
  (conv => whnf); repeat ((first | refine RngK.mk (by omega) (by omega) ?_ | refine NzK.mk (by omega) ?_ | refine NnK.mk (by omega) ?_ | refine BdK.mk (by omega) (by omega) (by omega) ?_ | refine InsK.lit (by omega) (by omega) ?_ | refine SpK.lit ?_ | refine GrdK.same ?_ | refine GrdK.tf ?_ | refine GrdK.ft ?_ | refine PickK.t ?_ | refine PickK.f ?_); (conv => whnf))
  refine Wp.cond rfl (fun g2 => ?_) (fun g2 => ?_)
  · (conv => whnf); repeat ((first | refine RngK.mk (by omega) (by omega) ?_ | refine NzK.mk (by omega) ?_ | refine NnK.mk (by omega) ?_ | refine BdK.mk (by omega) (by omega) (by omega) ?_ | refine InsK.lit (by omega) (by omega) ?_ | refine SpK.lit ?_ | refine GrdK.same ?_ | refine GrdK.tf ?_ | refine GrdK.ft ?_ | refine PickK.t ?_ | refine PickK.f ?_); (conv => whnf))
    exact ⟨[], HSub.nil _, rfl, rfl⟩
  clear g2
  (conv => whnf); repeat ((first | refine RngK.mk (by omega) (by omega) ?_ | refine NzK.mk (by omega) ?_ | refine NnK.mk (by omega) ?_ | refine BdK.mk (by omega) (by omega) (by omega) ?_ | refine InsK.lit (by omega) (by omega) ?_ | refine SpK.lit ?_ | refine GrdK.same ?_ | refine GrdK.tf ?_ | refine GrdK.ft ?_ | refine PickK.t ?_ | refine PickK.f ?_); (conv => whnf))
  refine CallK.of [] (fills_spec A zs.length c b zs) rfl (fun w hw => ⟨hp.pass hw, by omega, hz64⟩) ?_
  rintro _ _ ⟨rfl, rfl⟩
  cases hfill : fillsN zs b with
  | false =>
    (conv => whnf); repeat ((first | refine RngK.mk (by omega) (by omega) ?_ | refine NzK.mk (by omega) ?_ | refine NnK.mk (by omega) ?_ | refine BdK.mk (by omega) (by omega) (by omega) ?_ | refine InsK.lit (by omega) (by omega) ?_ | refine SpK.lit ?_ | refine GrdK.same ?_ | refine GrdK.tf ?_ | refine GrdK.ft ?_ | refine PickK.t ?_ | refine PickK.f ?_); (conv => whnf))
    refine Wp.cond rfl (fun _ => ?_) (fun h => by cases h)
    (conv => whnf); repeat ((first | refine RngK.mk (by omega) (by omega) ?_ | refine NzK.mk (by omega) ?_ | refine NnK.mk (by omega) ?_ | refine BdK.mk (by omega) (by omega) (by omega) ?_ | refine InsK.lit (by omega) (by omega) ?_ | refine SpK.lit ?_ | refine GrdK.same ?_ | refine GrdK.tf ?_ | refine GrdK.ft ?_ | refine PickK.t ?_ | refine PickK.f ?_); (conv => whnf))
    refine CallK.of0 built_spec ?_
    rintro _ _ ⟨rfl, rfl⟩
    (conv => whnf); repeat ((first | refine RngK.mk (by omega) (by omega) ?_ | refine NzK.mk (by omega) ?_ | refine NnK.mk (by omega) ?_ | refine BdK.mk (by omega) (by omega) (by omega) ?_ | refine InsK.lit (by omega) (by omega) ?_ | refine SpK.lit ?_ | refine GrdK.same ?_ | refine GrdK.tf ?_ | refine GrdK.ft ?_ | refine PickK.t ?_ | refine PickK.f ?_); (conv => whnf))
    exact ⟨[], HSub.nil _, rfl, rfl⟩
  | true =>
    obtain ⟨b, rfl, hc, hc1, hs⟩ := fillsN_facts hfill
    obtain ⟨hM1, hM2⟩ := hc.M
    have b5 := hc.b5
    have b9 := hc.b9
    have hlen := hc.len
    have hbl := build_len hc hs
    (conv => whnf); repeat ((first | refine RngK.mk (by omega) (by omega) ?_ | refine NzK.mk (by omega) ?_ | refine NnK.mk (by omega) ?_ | refine BdK.mk (by omega) (by omega) (by omega) ?_ | refine InsK.lit (by omega) (by omega) ?_ | refine SpK.lit ?_ | refine GrdK.same ?_ | refine GrdK.tf ?_ | refine GrdK.ft ?_ | refine PickK.t ?_ | refine PickK.f ?_); (conv => whnf))
    refine Wp.cond rfl (fun h => by cases h) (fun _ => ?_)
    (conv => whnf); repeat ((first | refine RngK.mk (by omega) (by omega) ?_ | refine NzK.mk (by omega) ?_ | refine NnK.mk (by omega) ?_ | refine BdK.mk (by omega) (by omega) (by omega) ?_ | refine InsK.lit (by omega) (by omega) ?_ | refine SpK.lit ?_ | refine GrdK.same ?_ | refine GrdK.tf ?_ | refine GrdK.ft ?_ | refine PickK.t ?_ | refine PickK.f ?_); (conv => whnf))
    refine CallK.ofA [] (bstates_spec A zs.length c b zs hc hs) rfl (fun w hw => hp.pass hw) ?_
    rintro _ _ ⟨A1, c1, rfl, rfl⟩ hA1
    have hO1 := hA1 _ _ _ _ _ _ List.mem_cons_self
    clear hA1
    have hcount := build_count hc hs
    have hhits := fun s y (hs1 : s < zs.length) => build_hits (s := s) (y := y) hc hs hs1
    have hmem := fun x (h : x ∈ buildN zs b) => build_mem hc hs h
    have hrow3 : ∀ r ∈ (buildN zs b).map rowS, r.length = 3 := fun r hr => by obtain ⟨x, _, rfl⟩ := List.mem_map.1 hr; rfl
    generalize buildN zs b = F at *
    (conv => whnf); repeat ((first | refine RngK.mk (by omega) (by omega) ?_ | refine NzK.mk (by omega) ?_ | refine NnK.mk (by omega) ?_ | refine BdK.mk (by omega) (by omega) (by omega) ?_ | refine InsK.lit (by omega) (by omega) ?_ | refine SpK.lit ?_ | refine GrdK.same ?_ | refine GrdK.tf ?_ | refine GrdK.ft ?_ | refine PickK.t ?_ | refine PickK.f ?_); (conv => whnf))
    refine EffK.made1 zs.length rfl rfl rfl rfl rfl rfl (by show 8 * _ ≤ _; omega) (by simp [maxLen]; omega) fun b7 => ?_
    (conv => whnf); repeat ((first | refine RngK.mk (by omega) (by omega) ?_ | refine NzK.mk (by omega) ?_ | refine NnK.mk (by omega) ?_ | refine BdK.mk (by omega) (by omega) (by omega) ?_ | refine InsK.lit (by omega) (by omega) ?_ | refine SpK.lit ?_ | refine GrdK.same ?_ | refine GrdK.tf ?_ | refine GrdK.ft ?_ | refine PickK.t ?_ | refine PickK.f ?_); (conv => whnf))
    refine Wp.cutEx 0 (fun _ : Unit => [(0, .slice A zs.length c), (6, vB true), (7, .slice (some ⟨b7, 0, none⟩) zs.length zs.length)])
      (fun _ => [.own (some ⟨b7, 0, none⟩) zs.length zs.length 3 1 ((tab zs.length fun s => (F.map (·.1)).count s).map vN)]) (fun _ => True) ?_ fun _ _ => ?_
    · refine Wp.loop (fun i : Nat => [(0, .slice A zs.length c), (6, vB true), (7, .slice (some ⟨b7, 0, none⟩) zs.length zs.length), (33, .slice A1 (2 ^ b) c1), (34, vN (2 ^ b)), (35, vN i)])
        (fun i => [.own (some ⟨b7, 0, none⟩) zs.length zs.length 3 1 ((tab zs.length fun s => ((F.take i).map (·.1)).count s).map vN), .own A1 (2 ^ b) c1 32 3 (flat (F.map rowS))])
        (fun i => i ≤ 2 ^ b) (fun i => 2 ^ b - i) 0 ⟨rfl, rfl, rfl, rfl, rfl, rfl, trivial⟩ ?_ (Nat.zero_le _) fun i hi => ?_
      · have : (tab zs.length fun s => ((F.take 0).map (·.1)).count s).map vN = List.replicate zs.length (vN 0) := by
          rw [show (fun s => ((F.take 0).map (·.1)).count s) = fun _ => 0 by funext s; simp, tab_zero, List.map_replicate]
        rw [this]
        exact HSub.of [0, 0] rfl
      (conv => whnf); repeat ((first | refine RngK.mk (by omega) (by omega) ?_ | refine NzK.mk (by omega) ?_ | refine NnK.mk (by omega) ?_ | refine BdK.mk (by omega) (by omega) (by omega) ?_ | refine InsK.lit (by omega) (by omega) ?_ | refine SpK.lit ?_ | refine GrdK.same ?_ | refine GrdK.tf ?_ | refine GrdK.ft ?_ | refine PickK.t ?_ | refine PickK.f ?_); (conv => whnf))
      refine Wp.cond rfl (fun h => ?_) (fun h => ?_)
      · have h := dT h
        have hi' : i < F.length := by omega
        have hkr : i < (F.map rowS).length := by simpa using hi'
        have hcell : ∀ q v, (stCells F[i])[q]? = some v → (flat (F.map rowS))[i * 3 + q]? = some v := fun q v hv => flat_at hkr hrow3 (by rw [List.getElem_map]; exact hv)
        obtain ⟨x1, x2, x3, x4⟩ := hmem _ (List.getElem_mem hi')
        have htk := List.take_succ_eq_append_getElem hi'
        have hcl : ((F.take i).map (·.1)).count F[i].1 ≤ i := Nat.le_trans List.count_le_length (by simp; omega)
        generalize F[i] = x at *
        (conv => whnf); repeat ((first | refine RngK.mk (by omega) (by omega) ?_ | refine NzK.mk (by omega) ?_ | refine NnK.mk (by omega) ?_ | refine BdK.mk (by omega) (by omega) (by omega) ?_ | refine InsK.lit (by omega) (by omega) ?_ | refine SpK.lit ?_ | refine GrdK.same ?_ | refine GrdK.tf ?_ | refine GrdK.ft ?_ | refine PickK.t ?_ | refine PickK.f ?_); (conv => whnf))
        refine InsK.own hO1 (by omega) (by omega) ?_
        (conv => whnf); repeat ((first | refine RngK.mk (by omega) (by omega) ?_ | refine NzK.mk (by omega) ?_ | refine NnK.mk (by omega) ?_ | refine BdK.mk (by omega) (by omega) (by omega) ?_ | refine InsK.lit (by omega) (by omega) ?_ | refine SpK.lit ?_ | refine GrdK.same ?_ | refine GrdK.tf ?_ | refine GrdK.ft ?_ | refine PickK.t ?_ | refine PickK.f ?_); (conv => whnf))
        refine LdK.ownN (cs := stCells x) 1 (i * 3) rfl rfl rfl rfl rfl rfl rfl hcell ?_
        (conv => whnf); repeat ((first | refine RngK.mk (by omega) (by omega) ?_ | refine NzK.mk (by omega) ?_ | refine NnK.mk (by omega) ?_ | refine BdK.mk (by omega) (by omega) (by omega) ?_ | refine InsK.lit (by omega) (by omega) ?_ | refine SpK.lit ?_ | refine GrdK.same ?_ | refine GrdK.tf ?_ | refine GrdK.ft ?_ | refine PickK.t ?_ | refine PickK.f ?_); (conv => whnf))
        refine ⟨_, _, rfl, rfl, ?_⟩
        intro b9'
        (conv => whnf); repeat ((first | refine RngK.mk (by omega) (by omega) ?_ | refine NzK.mk (by omega) ?_ | refine NnK.mk (by omega) ?_ | refine BdK.mk (by omega) (by omega) (by omega) ?_ | refine InsK.lit (by omega) (by omega) ?_ | refine SpK.lit ?_ | refine GrdK.same ?_ | refine GrdK.tf ?_ | refine GrdK.ft ?_ | refine PickK.t ?_ | refine PickK.f ?_); (conv => whnf))
        refine StK.blkNE 0 (stCells x) rfl rfl rfl rfl rfl rfl ?_
        (conv => whnf); repeat ((first | refine RngK.mk (by omega) (by omega) ?_ | refine NzK.mk (by omega) ?_ | refine NnK.mk (by omega) ?_ | refine BdK.mk (by omega) (by omega) (by omega) ?_ | refine InsK.lit (by omega) (by omega) ?_ | refine SpK.lit ?_ | refine GrdK.same ?_ | refine GrdK.tf ?_ | refine GrdK.ft ?_ | refine PickK.t ?_ | refine PickK.f ?_); (conv => whnf))
        refine LdK.blk 0 rfl rfl rfl rfl ?_
        (conv => whnf); repeat ((first | refine RngK.mk (by omega) (by omega) ?_ | refine NzK.mk (by omega) ?_ | refine NnK.mk (by omega) ?_ | refine BdK.mk (by omega) (by omega) (by omega) ?_ | refine InsK.lit (by omega) (by omega) ?_ | refine SpK.lit ?_ | refine GrdK.same ?_ | refine GrdK.tf ?_ | refine GrdK.ft ?_ | refine PickK.t ?_ | refine PickK.f ?_); (conv => whnf))
        rw [decide_eq_false (show ¬ ((x.1 : Nat) : Int) < 0 by omega)]
        (conv => whnf); repeat ((first | refine RngK.mk (by omega) (by omega) ?_ | refine NzK.mk (by omega) ?_ | refine NnK.mk (by omega) ?_ | refine BdK.mk (by omega) (by omega) (by omega) ?_ | refine InsK.lit (by omega) (by omega) ?_ | refine SpK.lit ?_ | refine GrdK.same ?_ | refine GrdK.tf ?_ | refine GrdK.ft ?_ | refine PickK.t ?_ | refine PickK.f ?_); (conv => whnf))
        refine LdK.blk 0 rfl rfl rfl rfl ?_
        (conv => whnf); repeat ((first | refine RngK.mk (by omega) (by omega) ?_ | refine NzK.mk (by omega) ?_ | refine NnK.mk (by omega) ?_ | refine BdK.mk (by omega) (by omega) (by omega) ?_ | refine InsK.lit (by omega) (by omega) ?_ | refine SpK.lit ?_ | refine GrdK.same ?_ | refine GrdK.tf ?_ | refine GrdK.ft ?_ | refine PickK.t ?_ | refine PickK.f ?_); (conv => whnf))
        rw [decide_eq_false (show ¬ ((x.1 : Nat) : Int) ≥ (zs.length : Int) by omega)]
        (conv => whnf); repeat ((first | refine RngK.mk (by omega) (by omega) ?_ | refine NzK.mk (by omega) ?_ | refine NnK.mk (by omega) ?_ | refine BdK.mk (by omega) (by omega) (by omega) ?_ | refine InsK.lit (by omega) (by omega) ?_ | refine SpK.lit ?_ | refine GrdK.same ?_ | refine GrdK.tf ?_ | refine GrdK.ft ?_ | refine PickK.t ?_ | refine PickK.f ?_); (conv => whnf))
        refine Wp.cond rfl (fun h => by cases h) (fun _ => ?_)
        (conv => whnf); repeat ((first | refine RngK.mk (by omega) (by omega) ?_ | refine NzK.mk (by omega) ?_ | refine NnK.mk (by omega) ?_ | refine BdK.mk (by omega) (by omega) (by omega) ?_ | refine InsK.lit (by omega) (by omega) ?_ | refine SpK.lit ?_ | refine GrdK.same ?_ | refine GrdK.tf ?_ | refine GrdK.ft ?_ | refine PickK.t ?_ | refine PickK.f ?_); (conv => whnf))
        refine LdK.blk 0 rfl rfl rfl rfl ?_
        (conv => whnf); repeat ((first | refine RngK.mk (by omega) (by omega) ?_ | refine NzK.mk (by omega) ?_ | refine NnK.mk (by omega) ?_ | refine BdK.mk (by omega) (by omega) (by omega) ?_ | refine InsK.lit (by omega) (by omega) ?_ | refine SpK.lit ?_ | refine GrdK.same ?_ | refine GrdK.tf ?_ | refine GrdK.ft ?_ | refine PickK.t ?_ | refine PickK.f ?_); (conv => whnf))
        refine LdK.own 1 x.1 rfl rfl rfl rfl (tab_map zs.length _ x1) ?_
        (conv => whnf); repeat ((first | refine RngK.mk (by omega) (by omega) ?_ | refine NzK.mk (by omega) ?_ | refine NnK.mk (by omega) ?_ | refine BdK.mk (by omega) (by omega) (by omega) ?_ | refine InsK.lit (by omega) (by omega) ?_ | refine SpK.lit ?_ | refine GrdK.same ?_ | refine GrdK.tf ?_ | refine GrdK.ft ?_ | refine PickK.t ?_ | refine PickK.f ?_); (conv => whnf))
        refine StK.own 1 x.1 rfl ⟨b7, rfl⟩ rfl rfl rfl rfl (by simp [tab_len']; omega) ?_
        have es : ((tab zs.length fun s => ((F.take i).map (·.1)).count s).map vN).set x.1 (Value.int .i64 (((((F.take i).map (·.1)).count x.1 : Nat) : Int) + 1)) = (tab zs.length fun s => ((F.take (i + 1)).map (·.1)).count s).map vN := by
          have hset := tab_set (n := zs.length) (k := x.1) (v := ((F.take i).map (·.1)).count x.1 + 1) (f := fun s => ((F.take i).map (·.1)).count s) (g := fun s => ((F.take (i + 1)).map (·.1)).count s)
            (by simp only [htk, List.map_append, List.count_append]; simp) (fun y _ hy => by
              simp only [htk, List.map_append, List.count_append, List.map_cons, List.map_nil]
              rw [List.count_cons_of_ne (Ne.symm hy)]
              rfl)
          rw [← hset, List.map_set]
          rfl
        rw [es]
        (conv => whnf); repeat ((first | refine RngK.mk (by omega) (by omega) ?_ | refine NzK.mk (by omega) ?_ | refine NnK.mk (by omega) ?_ | refine BdK.mk (by omega) (by omega) (by omega) ?_ | refine InsK.lit (by omega) (by omega) ?_ | refine SpK.lit ?_ | refine GrdK.same ?_ | refine GrdK.tf ?_ | refine GrdK.ft ?_ | refine PickK.t ?_ | refine PickK.f ?_); (conv => whnf))
        exact ⟨i + 1, ⟨rfl, rfl, rfl, rfl, rfl, rfl, trivial⟩, HSub.of [1, 1] rfl, by omega, by omega⟩
      · have h := dF h
        have hF : F.take i = F := List.take_of_length_le (by omega)
        rw [hF]
        (conv => whnf); repeat ((first | refine RngK.mk (by omega) (by omega) ?_ | refine NzK.mk (by omega) ?_ | refine NnK.mk (by omega) ?_ | refine BdK.mk (by omega) (by omega) (by omega) ?_ | refine InsK.lit (by omega) (by omega) ?_ | refine SpK.lit ?_ | refine GrdK.same ?_ | refine GrdK.tf ?_ | refine GrdK.ft ?_ | refine PickK.t ?_ | refine PickK.f ?_); (conv => whnf))
        exact ⟨(), ⟨rfl, rfl, rfl, trivial⟩, HSub.of [0] rfl, trivial⟩
    (conv => whnf); repeat ((first | refine RngK.mk (by omega) (by omega) ?_ | refine NzK.mk (by omega) ?_ | refine NnK.mk (by omega) ?_ | refine BdK.mk (by omega) (by omega) (by omega) ?_ | refine InsK.lit (by omega) (by omega) ?_ | refine SpK.lit ?_ | refine GrdK.same ?_ | refine GrdK.tf ?_ | refine GrdK.ft ?_ | refine PickK.t ?_ | refine PickK.f ?_); (conv => whnf))
    refine Wp.loop (fun i : Nat => [(6, vB true), (7, .slice (some ⟨b7, 0, none⟩) zs.length zs.length), (57, .slice A zs.length c), (58, vN zs.length), (59, vN i)])
      (fun i => [.own (some ⟨b7, 0, none⟩) zs.length zs.length 3 1 ((tab zs.length fun s => (F.map (·.1)).count s).map vN)])
      (fun i => i ≤ zs.length) (fun i => zs.length - i) 0 ⟨rfl, rfl, rfl, rfl, rfl, trivial⟩ (HSub.refl _) (Nat.zero_le _) fun k hk => ?_
    (conv => whnf); repeat ((first | refine RngK.mk (by omega) (by omega) ?_ | refine NzK.mk (by omega) ?_ | refine NnK.mk (by omega) ?_ | refine BdK.mk (by omega) (by omega) (by omega) ?_ | refine InsK.lit (by omega) (by omega) ?_ | refine SpK.lit ?_ | refine GrdK.same ?_ | refine GrdK.tf ?_ | refine GrdK.ft ?_ | refine PickK.t ?_ | refine PickK.f ?_); (conv => whnf))
    refine Wp.cond rfl (fun h => ?_) (fun h => ?_)
    · have h := dT h
      have hk' : k < zs.length := by omega
      have hz := hc.lim _ (List.getElem_mem hk')
      have hgk := tab_map zs.length (fun s => (F.map (·.1)).count s) hk'
      have hck : (F.map (·.1)).count k = rN zs[k] := by rw [hcount k, getD_at hk']
      simp only [hck] at hgk
      (conv => whnf); repeat ((first | refine RngK.mk (by omega) (by omega) ?_ | refine NzK.mk (by omega) ?_ | refine NnK.mk (by omega) ?_ | refine BdK.mk (by omega) (by omega) (by omega) ?_ | refine InsK.lit (by omega) (by omega) ?_ | refine SpK.lit ?_ | refine GrdK.same ?_ | refine GrdK.tf ?_ | refine GrdK.ft ?_ | refine PickK.t ?_ | refine PickK.f ?_); (conv => whnf))
      refine InsK.rd hp (by omega) (by omega) ?_
      (conv => whnf); repeat ((first | refine RngK.mk (by omega) (by omega) ?_ | refine NzK.mk (by omega) ?_ | refine NnK.mk (by omega) ?_ | refine BdK.mk (by omega) (by omega) (by omega) ?_ | refine InsK.lit (by omega) (by omega) ?_ | refine SpK.lit ?_ | refine GrdK.same ?_ | refine GrdK.tf ?_ | refine GrdK.ft ?_ | refine PickK.t ?_ | refine PickK.f ?_); (conv => whnf))
      refine LdK.rd (v := vI zs[k]) hp k rfl rfl rfl (by simp [hk']) ?_
      (conv => whnf); repeat ((first | refine RngK.mk (by omega) (by omega) ?_ | refine NzK.mk (by omega) ?_ | refine NnK.mk (by omega) ?_ | refine BdK.mk (by omega) (by omega) (by omega) ?_ | refine InsK.lit (by omega) (by omega) ?_ | refine SpK.lit ?_ | refine GrdK.same ?_ | refine GrdK.tf ?_ | refine GrdK.ft ?_ | refine PickK.t ?_ | refine PickK.f ?_); (conv => whnf))
      refine LdK.own 0 k rfl rfl rfl rfl hgk ?_
      (conv => whnf); repeat ((first | refine RngK.mk (by omega) (by omega) ?_ | refine NzK.mk (by omega) ?_ | refine NnK.mk (by omega) ?_ | refine BdK.mk (by omega) (by omega) (by omega) ?_ | refine InsK.lit (by omega) (by omega) ?_ | refine SpK.lit ?_ | refine GrdK.same ?_ | refine GrdK.tf ?_ | refine GrdK.ft ?_ | refine PickK.t ?_ | refine PickK.f ?_); (conv => whnf))
      by_cases hz1 : zs[k] = -1
      · have er : rN zs[k] = 1 := by unfold rN; rw [if_pos hz1]
        rw [er] at hgk ⊢
        rw [hz1]
        (conv => whnf); repeat ((first | refine RngK.mk (by omega) (by omega) ?_ | refine NzK.mk (by omega) ?_ | refine NnK.mk (by omega) ?_ | refine BdK.mk (by omega) (by omega) (by omega) ?_ | refine InsK.lit (by omega) (by omega) ?_ | refine SpK.lit ?_ | refine GrdK.same ?_ | refine GrdK.tf ?_ | refine GrdK.ft ?_ | refine PickK.t ?_ | refine PickK.f ?_); (conv => whnf))
        refine LdK.own 0 k rfl rfl rfl rfl hgk ?_
        (conv => whnf); repeat ((first | refine RngK.mk (by omega) (by omega) ?_ | refine NzK.mk (by omega) ?_ | refine NnK.mk (by omega) ?_ | refine BdK.mk (by omega) (by omega) (by omega) ?_ | refine InsK.lit (by omega) (by omega) ?_ | refine SpK.lit ?_ | refine GrdK.same ?_ | refine GrdK.tf ?_ | refine GrdK.ft ?_ | refine PickK.t ?_ | refine PickK.f ?_); (conv => whnf))
        refine Wp.cond rfl (fun h => by cases h) (fun _ => ?_)
        (conv => whnf); repeat ((first | refine RngK.mk (by omega) (by omega) ?_ | refine NzK.mk (by omega) ?_ | refine NnK.mk (by omega) ?_ | refine BdK.mk (by omega) (by omega) (by omega) ?_ | refine InsK.lit (by omega) (by omega) ?_ | refine SpK.lit ?_ | refine GrdK.same ?_ | refine GrdK.tf ?_ | refine GrdK.ft ?_ | refine PickK.t ?_ | refine PickK.f ?_); (conv => whnf))
        exact ⟨k + 1, ⟨rfl, rfl, rfl, rfl, rfl, trivial⟩, HSub.refl _, by omega, by omega⟩
      · have er : ((rN zs[k] : Nat) : Int) = zs[k] := by unfold rN; rw [if_neg hz1]; omega
        have eb : (((rN zs[k] : Nat) : Int) != zs[k]) = false := by rw [er]; simp
        rw [eb]
        (conv => whnf); repeat ((first | refine RngK.mk (by omega) (by omega) ?_ | refine NzK.mk (by omega) ?_ | refine NnK.mk (by omega) ?_ | refine BdK.mk (by omega) (by omega) (by omega) ?_ | refine InsK.lit (by omega) (by omega) ?_ | refine SpK.lit ?_ | refine GrdK.same ?_ | refine GrdK.tf ?_ | refine GrdK.ft ?_ | refine PickK.t ?_ | refine PickK.f ?_); (conv => whnf))
        refine Wp.cond rfl (fun h => by cases h) (fun _ => ?_)
        (conv => whnf); repeat ((first | refine RngK.mk (by omega) (by omega) ?_ | refine NzK.mk (by omega) ?_ | refine NnK.mk (by omega) ?_ | refine BdK.mk (by omega) (by omega) (by omega) ?_ | refine InsK.lit (by omega) (by omega) ?_ | refine SpK.lit ?_ | refine GrdK.same ?_ | refine GrdK.tf ?_ | refine GrdK.ft ?_ | refine PickK.t ?_ | refine PickK.f ?_); (conv => whnf))
        exact ⟨k + 1, ⟨rfl, rfl, rfl, rfl, rfl, trivial⟩, HSub.refl _, by omega, by omega⟩
    · (conv => whnf); repeat ((first | refine RngK.mk (by omega) (by omega) ?_ | refine NzK.mk (by omega) ?_ | refine NnK.mk (by omega) ?_ | refine BdK.mk (by omega) (by omega) (by omega) ?_ | refine InsK.lit (by omega) (by omega) ?_ | refine SpK.lit ?_ | refine GrdK.same ?_ | refine GrdK.tf ?_ | refine GrdK.ft ?_ | refine PickK.t ?_ | refine PickK.f ?_); (conv => whnf))
      exact ⟨[], HSub.nil _, rfl, rfl⟩
/-- how often a state is reached by the first i states, and by the first k of those that the next one reaches -/
def rch (F : List St) (s i k : Nat) (base : Int) (y : Nat) : Nat := (F.take i).countP (hitB s y) + (if base ≤ (y : Int) ∧ (y : Int) < base + (k : Int) then 1 else 0)
theorem rch_zero (F : List St) (s i : Nat) (base : Int) (y : Nat) : rch F s i 0 base y = (F.take i).countP (hitB s y) := by
  unfold rch
  rw [if_neg (by omega)]
  rfl
theorem rch_le (F : List St) (s i k : Nat) (base : Int) (y : Nat) : rch F s i k base y ≤ i + 1 := by
  have h1 : (F.take i).countP (hitB s y) ≤ (F.take i).length := List.countP_le_length
  have h2 : (F.take i).length ≤ i := by simp; omega
  unfold rch
  split <;> omega
theorem rch_next {F : List St} {s i : Nat} (h : i < F.length) (hs : F[i].1 = s) (y : Nat) : rch F s i (2 ^ F[i].2.1) F[i].2.2 y = (F.take (i + 1)).countP (hitB s y) := by
  rw [List.take_succ_eq_append_getElem h, List.countP_append, rch]
  congr 1
  rw [List.countP_singleton]
  have hb : hitB s y F[i] = decide (F[i].2.2 ≤ (y : Int) ∧ (y : Int) < F[i].2.2 + ((2 ^ F[i].2.1 : Nat) : Int)) := by
    unfold hitB
    rw [hs]
    simp
  rw [hb]
  by_cases hc : F[i].2.2 ≤ (y : Int) ∧ (y : Int) < F[i].2.2 + ((2 ^ F[i].2.1 : Nat) : Int)
  · rw [if_pos hc, decide_eq_true hc]; rfl
  · rw [if_neg hc, decide_eq_false hc]; rfl
theorem cnt_next {F : List St} {s i : Nat} (h : i < F.length) (hs : F[i].1 ≠ s) (y : Nat) : (F.take i).countP (hitB s y) = (F.take (i + 1)).countP (hitB s y) := by
  rw [List.take_succ_eq_append_getElem h, List.countP_append, List.countP_singleton]
  have hb : hitB s y F[i] = false := by
    unfold hitB
    have : (F[i].1 == s) = false := by simpa using hs
    rw [this]
    rfl
  rw [hb]
  rfl
theorem lawStatesReached (A : Option Addr) (n c : Nat) (zs : List Int) (b : Int) :
    FnS Tryd.prog 5 [.slice A n c, vI b] [] (fun w => (Rd w (blocks []) A n 1 (zs.map (.int .i64)) ∧ n ≤ c ∧ c ≤ maxLen ∧ ∀ z ∈ zs, (Lit.int .i64 z).wf = true) ∧ (Lit.int .i64 b).wf = true) (Is (vB true)) := by
  refine FnS.introD Tryd.func5 rfl (by kernel_rfl) rfl fun w hH ⟨hR, hb⟩ => ?_
  have hn := hR.2.1
  have hcm := hR.2.2.1
  have hz64 : ∀ z ∈ zs, -9223372036854775808 ≤ z ∧ z ≤ 9223372036854775807 := fun z hz => wf_int (hR.2.2.2 z hz)
  have hp := hR.1
  clear hR
  have hcm2 := hcm
  simp only [maxLen] at hcm2
  obtain rfl : zs.length = n := by simpa using hp.len
  (conv => whnf); repeat ((first | refine RngK.mk (by omega) (by omega) ?_ | refine NzK.mk (by omega) ?_ | refine NnK.mk (by omega) ?_ | refine BdK.mk (by omega) (by omega) (by omega) ?_ | refine InsK.lit (by omega) (by omega) ?_ | refine SpK.lit ?_ | refine GrdK.same ?_ | refine GrdK.tf ?_ | refine GrdK.ft ?_ | refine PickK.t ?_ | refine PickK.f ?_); (conv => whnf))
  refine Wp.cond rfl (fun g1 => ?_) (fun g1 => ?_)
  · (conv => whnf); repeat ((first | refine RngK.mk (by omega) (by omega) ?_ | refine NzK.mk (by omega) ?_ | refine NnK.mk (by omega) ?_ | refine BdK.mk (by omega) (by omega) (by omega) ?_ | refine InsK.lit (by omega) (by omega) ?_ | refine SpK.lit ?_ | refine GrdK.same ?_ | refine GrdK.tf ?_ | refine GrdK.ft ?_ | refine PickK.t ?_ | refine PickK.f ?_); (conv => whnf))
    exact ⟨[], HSub.nil _, rfl, rfl⟩
  have g1 := dF g1
  (conv => whnf); repeat ((first | refine RngK.mk (by omega) (by omega) ?_ | refine NzK.mk (by omega) ?_ | refine NnK.mk (by omega) ?_ | refine BdK.mk (by omega) (by omega) (by omega) ?_ | refine InsK.lit (by omega) (by omega) ?_ | refine SpK.lit ?_ | refine GrdK.same ?_ | refine GrdK.tf ?_ | refine GrdK.ft ?_ | refine PickK.t ?_ | refine PickK.f ?_); (conv => whnf))
  refine EffK.litV rfl rfl rfl rfl rfl rfl rfl rfl rfl ?_
  (conv => whnf); repeat ((first | refine RngK.mk (by omega) (by omega) ?_ | refine NzK.mk (by omega) ?_ | refine NnK.mk (by omega) ?_ | refine BdK.mk (by omega) (by omega) (by omega) ?_ | refine InsK.lit (by omega) (by omega) ?_ | refine SpK.lit ?_ | refine GrdK.same ?_ | refine GrdK.tf ?_ | refine GrdK.ft ?_ | refine PickK.t ?_ | refine PickK.f ?_); (conv => whnf))
  intro b1
  (conv => whnf); repeat ((first | refine RngK.mk (by omega) (by omega) ?_ | refine NzK.mk (by omega) ?_ | refine NnK.mk (by omega) ?_ | refine BdK.mk (by omega) (by omega) (by omega) ?_ | refine InsK.lit (by omega) (by omega) ?_ | refine SpK.lit ?_ | refine GrdK.same ?_ | refine GrdK.tf ?_ | refine GrdK.ft ?_ | refine PickK.t ?_ | refine PickK.f ?_); (conv => whnf))
  refine CallK.of [] (tooLong_spec (some ⟨b1, 0, none⟩) 1 1 [(zs.length : Int)] (by intro x hx; rcases List.mem_singleton.1 hx with rfl; omega)) rfl (fun w hw => ⟨Rd.ofOwn hw 0 rfl, by decide⟩) ?_
  rintro _ _ ⟨rfl, rfl⟩
  rw [tooLong_one]
  (conv => whnf); repeat ((first | refine RngK.mk (by omega) (by omega) ?_ | refine NzK.mk (by omega) ?_ | refine NnK.mk (by omega) ?_ | refine BdK.mk (by omega) (by omega) (by omega) ?_ | refine InsK.lit (by omega) (by omega) ?_ | refine SpK.lit ?_ | refine GrdK.same ?_ | refine GrdK.tf ?_ | refine GrdK.ft ?_ | refine PickK.t ?_ | refine PickK.f ?_); (conv => whnf))
  refine Wp.cond rfl (fun g2 => ?_) (fun g2 => ?_)
  · (conv => whnf); repeat ((first | refine RngK.mk (by omega) (by omega) ?_ | refine NzK.mk (by omega) ?_ | refine NnK.mk (by omega) ?_ | refine BdK.mk (by omega) (by omega) (by omega) ?_ | refine InsK.lit (by omega) (by omega) ?_ | refine SpK.lit ?_ | refine GrdK.same ?_ | refine GrdK.tf ?_ | refine GrdK.ft ?_ | refine PickK.t ?_ | refine PickK.f ?_); (conv => whnf))
    exact ⟨[], HSub.nil _, rfl, rfl⟩
  clear g2
  (conv => whnf); repeat ((first | refine RngK.mk (by omega) (by omega) ?_ | refine NzK.mk (by omega) ?_ | refine NnK.mk (by omega) ?_ | refine BdK.mk (by omega) (by omega) (by omega) ?_ | refine InsK.lit (by omega) (by omega) ?_ | refine SpK.lit ?_ | refine GrdK.same ?_ | refine GrdK.tf ?_ | refine GrdK.ft ?_ | refine PickK.t ?_ | refine PickK.f ?_); (conv => whnf))
  refine CallK.of [] (fills_spec A zs.length c b zs) rfl (fun w hw => ⟨hp.pass hw, by omega, hz64⟩) ?_
  rintro _ _ ⟨rfl, rfl⟩
  cases hfill : fillsN zs b with
  | false =>
    (conv => whnf); repeat ((first | refine RngK.mk (by omega) (by omega) ?_ | refine NzK.mk (by omega) ?_ | refine NnK.mk (by omega) ?_ | refine BdK.mk (by omega) (by omega) (by omega) ?_ | refine InsK.lit (by omega) (by omega) ?_ | refine SpK.lit ?_ | refine GrdK.same ?_ | refine GrdK.tf ?_ | refine GrdK.ft ?_ | refine PickK.t ?_ | refine PickK.f ?_); (conv => whnf))
    refine Wp.cond rfl (fun _ => ?_) (fun h => by cases h)
    (conv => whnf); repeat ((first | refine RngK.mk (by omega) (by omega) ?_ | refine NzK.mk (by omega) ?_ | refine NnK.mk (by omega) ?_ | refine BdK.mk (by omega) (by omega) (by omega) ?_ | refine InsK.lit (by omega) (by omega) ?_ | refine SpK.lit ?_ | refine GrdK.same ?_ | refine GrdK.tf ?_ | refine GrdK.ft ?_ | refine PickK.t ?_ | refine PickK.f ?_); (conv => whnf))
    refine CallK.of0 built_spec ?_
    rintro _ _ ⟨rfl, rfl⟩
    (conv => whnf); repeat ((first | refine RngK.mk (by omega) (by omega) ?_ | refine NzK.mk (by omega) ?_ | refine NnK.mk (by omega) ?_ | refine BdK.mk (by omega) (by omega) (by omega) ?_ | refine InsK.lit (by omega) (by omega) ?_ | refine SpK.lit ?_ | refine GrdK.same ?_ | refine GrdK.tf ?_ | refine GrdK.ft ?_ | refine PickK.t ?_ | refine PickK.f ?_); (conv => whnf))
    exact ⟨[], HSub.nil _, rfl, rfl⟩
  | true =>
    obtain ⟨b, rfl, hc, hc1, hs⟩ := fillsN_facts hfill
    obtain ⟨hM1, hM2⟩ := hc.M
    have b5 := hc.b5
    have b9 := hc.b9
    have hlen := hc.len
    have hbl := build_len hc hs
    (conv => whnf); repeat ((first | refine RngK.mk (by omega) (by omega) ?_ | refine NzK.mk (by omega) ?_ | refine NnK.mk (by omega) ?_ | refine BdK.mk (by omega) (by omega) (by omega) ?_ | refine InsK.lit (by omega) (by omega) ?_ | refine SpK.lit ?_ | refine GrdK.same ?_ | refine GrdK.tf ?_ | refine GrdK.ft ?_ | refine PickK.t ?_ | refine PickK.f ?_); (conv => whnf))
    refine Wp.cond rfl (fun h => by cases h) (fun _ => ?_)
    (conv => whnf); repeat ((first | refine RngK.mk (by omega) (by omega) ?_ | refine NzK.mk (by omega) ?_ | refine NnK.mk (by omega) ?_ | refine BdK.mk (by omega) (by omega) (by omega) ?_ | refine InsK.lit (by omega) (by omega) ?_ | refine SpK.lit ?_ | refine GrdK.same ?_ | refine GrdK.tf ?_ | refine GrdK.ft ?_ | refine PickK.t ?_ | refine PickK.f ?_); (conv => whnf))
    refine CallK.ofA [] (bstates_spec A zs.length c b zs hc hs) rfl (fun w hw => hp.pass hw) ?_
    rintro _ _ ⟨A1, c1, rfl, rfl⟩ hA1
    have hO1 := hA1 _ _ _ _ _ _ List.mem_cons_self
    clear hA1
    have hcount := build_count hc hs
    have hhits := fun s y (hs1 : s < zs.length) => build_hits (s := s) (y := y) hc hs hs1
    have hmem := fun x (h : x ∈ buildN zs b) => build_mem hc hs h
    have hrow3 : ∀ r ∈ (buildN zs b).map rowS, r.length = 3 := fun r hr => by obtain ⟨x, _, rfl⟩ := List.mem_map.1 hr; rfl
    generalize buildN zs b = F at *
    (conv => whnf); repeat ((first | refine RngK.mk (by omega) (by omega) ?_ | refine NzK.mk (by omega) ?_ | refine NnK.mk (by omega) ?_ | refine BdK.mk (by omega) (by omega) (by omega) ?_ | refine InsK.lit (by omega) (by omega) ?_ | refine SpK.lit ?_ | refine GrdK.same ?_ | refine GrdK.tf ?_ | refine GrdK.ft ?_ | refine PickK.t ?_ | refine PickK.f ?_); (conv => whnf))
    have e0 : ishl .i64 1 (b : Int) = ((2 ^ b : Nat) : Int) := by
      have := ishl_i64 (x := 1) (n := b) (by omega) (by omega)
      rw [Nat.one_mul] at this
      exact this
    rw [e0]
    (conv => whnf); repeat ((first | refine RngK.mk (by omega) (by omega) ?_ | refine NzK.mk (by omega) ?_ | refine NnK.mk (by omega) ?_ | refine BdK.mk (by omega) (by omega) (by omega) ?_ | refine InsK.lit (by omega) (by omega) ?_ | refine SpK.lit ?_ | refine GrdK.same ?_ | refine GrdK.tf ?_ | refine GrdK.ft ?_ | refine PickK.t ?_ | refine PickK.f ?_); (conv => whnf))
    rw [show (((2 ^ b : Nat) : Int) != ((2 ^ b : Nat) : Int)) = false by simp]
    (conv => whnf); repeat ((first | refine RngK.mk (by omega) (by omega) ?_ | refine NzK.mk (by omega) ?_ | refine NnK.mk (by omega) ?_ | refine BdK.mk (by omega) (by omega) (by omega) ?_ | refine InsK.lit (by omega) (by omega) ?_ | refine SpK.lit ?_ | refine GrdK.same ?_ | refine GrdK.tf ?_ | refine GrdK.ft ?_ | refine PickK.t ?_ | refine PickK.f ?_); (conv => whnf))
    refine Wp.cond rfl (fun h => by cases h) (fun _ => ?_)
    (conv => whnf); repeat ((first | refine RngK.mk (by omega) (by omega) ?_ | refine NzK.mk (by omega) ?_ | refine NnK.mk (by omega) ?_ | refine BdK.mk (by omega) (by omega) (by omega) ?_ | refine InsK.lit (by omega) (by omega) ?_ | refine SpK.lit ?_ | refine GrdK.same ?_ | refine GrdK.tf ?_ | refine GrdK.ft ?_ | refine PickK.t ?_ | refine PickK.f ?_); (conv => whnf))
    refine Wp.loop (fun s : Nat => [(5, .slice A1 (2 ^ b) c1), (42, .slice A zs.length c), (43, vN zs.length), (44, vN s)])
      (fun s => [.own A1 (2 ^ b) c1 32 3 (flat (F.map rowS))])
      (fun s => s ≤ zs.length) (fun s => zs.length - s) 0 ⟨rfl, rfl, rfl, rfl, trivial⟩ (HSub.of [0] rfl) (Nat.zero_le _) fun s hs' => ?_
    (conv => whnf); repeat ((first | refine RngK.mk (by omega) (by omega) ?_ | refine NzK.mk (by omega) ?_ | refine NnK.mk (by omega) ?_ | refine BdK.mk (by omega) (by omega) (by omega) ?_ | refine InsK.lit (by omega) (by omega) ?_ | refine SpK.lit ?_ | refine GrdK.same ?_ | refine GrdK.tf ?_ | refine GrdK.ft ?_ | refine PickK.t ?_ | refine PickK.f ?_); (conv => whnf))
    refine Wp.cond rfl (fun h => ?_) (fun h => ?_)
    · have h := dT h
      have hsl : s < zs.length := by omega
      (conv => whnf); repeat ((first | refine RngK.mk (by omega) (by omega) ?_ | refine NzK.mk (by omega) ?_ | refine NnK.mk (by omega) ?_ | refine BdK.mk (by omega) (by omega) (by omega) ?_ | refine InsK.lit (by omega) (by omega) ?_ | refine SpK.lit ?_ | refine GrdK.same ?_ | refine GrdK.tf ?_ | refine GrdK.ft ?_ | refine PickK.t ?_ | refine PickK.f ?_); (conv => whnf))
      refine InsK.rd hp (by omega) (by omega) ?_
      (conv => whnf); repeat ((first | refine RngK.mk (by omega) (by omega) ?_ | refine NzK.mk (by omega) ?_ | refine NnK.mk (by omega) ?_ | refine BdK.mk (by omega) (by omega) (by omega) ?_ | refine InsK.lit (by omega) (by omega) ?_ | refine SpK.lit ?_ | refine GrdK.same ?_ | refine GrdK.tf ?_ | refine GrdK.ft ?_ | refine PickK.t ?_ | refine PickK.f ?_); (conv => whnf))
      refine LdK.rd (v := vI zs[s]) hp s rfl rfl rfl (by simp [hsl]) ?_
      (conv => whnf); repeat ((first | refine RngK.mk (by omega) (by omega) ?_ | refine NzK.mk (by omega) ?_ | refine NnK.mk (by omega) ?_ | refine BdK.mk (by omega) (by omega) (by omega) ?_ | refine InsK.lit (by omega) (by omega) ?_ | refine SpK.lit ?_ | refine GrdK.same ?_ | refine GrdK.tf ?_ | refine GrdK.ft ?_ | refine PickK.t ?_ | refine PickK.f ?_); (conv => whnf))
      refine EffK.made1 (2 ^ b) rfl rfl rfl rfl rfl rfl (by show 8 * _ ≤ _; omega) (by simp [maxLen]; omega) fun b9' => ?_
      (conv => whnf); repeat ((first | refine RngK.mk (by omega) (by omega) ?_ | refine NzK.mk (by omega) ?_ | refine NnK.mk (by omega) ?_ | refine BdK.mk (by omega) (by omega) (by omega) ?_ | refine InsK.lit (by omega) (by omega) ?_ | refine SpK.lit ?_ | refine GrdK.same ?_ | refine GrdK.tf ?_ | refine GrdK.ft ?_ | refine PickK.t ?_ | refine PickK.f ?_); (conv => whnf))
      refine Wp.cutEx 2 (fun _ : Unit => [(5, .slice A1 (2 ^ b) c1), (42, .slice A zs.length c), (43, vN zs.length), (44, vN s), (8, vI zs[s]), (9, .slice (some ⟨b9', 0, none⟩) (2 ^ b) (2 ^ b))])
        (fun _ => [.own (some ⟨b9', 0, none⟩) (2 ^ b) (2 ^ b) 3 1 ((tab (2 ^ b) fun y => F.countP (hitB s y)).map vN), .own A1 (2 ^ b) c1 32 3 (flat (F.map rowS))]) (fun _ => True) ?_ fun _ _ => ?_
      · refine Wp.loop (fun i : Nat => [(5, .slice A1 (2 ^ b) c1), (42, .slice A zs.length c), (43, vN zs.length), (44, vN s), (7, vN s), (8, vI zs[s]), (9, .slice (some ⟨b9', 0, none⟩) (2 ^ b) (2 ^ b)), (52, .slice A1 (2 ^ b) c1), (53, vN (2 ^ b)), (54, vN i)])
          (fun i => [.own (some ⟨b9', 0, none⟩) (2 ^ b) (2 ^ b) 3 1 ((tab (2 ^ b) fun y => (F.take i).countP (hitB s y)).map vN), .own A1 (2 ^ b) c1 32 3 (flat (F.map rowS))])
          (fun i => i ≤ 2 ^ b) (fun i => 2 ^ b - i) 0 ⟨rfl, rfl, rfl, rfl, rfl, rfl, rfl, rfl, rfl, rfl, trivial⟩ ?_ (Nat.zero_le _) fun i hi => ?_
        · have : (tab (2 ^ b) fun y => (F.take 0).countP (hitB s y)).map vN = List.replicate (2 ^ b) (vN 0) := by
            rw [show (fun y => (F.take 0).countP (hitB s y)) = fun _ => 0 by funext y; simp, tab_zero, List.map_replicate]
          rw [this]
          exact HSub.of [0, 0] rfl
        (conv => whnf); repeat ((first | refine RngK.mk (by omega) (by omega) ?_ | refine NzK.mk (by omega) ?_ | refine NnK.mk (by omega) ?_ | refine BdK.mk (by omega) (by omega) (by omega) ?_ | refine InsK.lit (by omega) (by omega) ?_ | refine SpK.lit ?_ | refine GrdK.same ?_ | refine GrdK.tf ?_ | refine GrdK.ft ?_ | refine PickK.t ?_ | refine PickK.f ?_); (conv => whnf))
        refine Wp.cond rfl (fun h => ?_) (fun h => ?_)
        · have h := dT h
          have hi' : i < F.length := by omega
          have hkr : i < (F.map rowS).length := by simpa using hi'
          have hcell : ∀ q v, (stCells F[i])[q]? = some v → (flat (F.map rowS))[i * 3 + q]? = some v := fun q v hv => flat_at hkr hrow3 (by rw [List.getElem_map]; exact hv)
          obtain ⟨x1, x2, x3, x4⟩ := hmem _ (List.getElem_mem hi')
          have hyes := rch_next (s := s) hi'
          have hno := cnt_next (s := s) hi'
          generalize F[i] = x at *
          obtain ⟨xs, xr, xb⟩ := x
          dsimp only at x1 x2 x3 x4 hyes hno
          obtain ⟨xb, rfl⟩ := Int.eq_ofNat_of_zero_le x3
          have hp2 : 2 ^ xr ≤ 2 ^ b := Nat.pow_le_pow_right (by omega) x2
          have ex : ishl .i64 1 (xr : Int) = ((2 ^ xr : Nat) : Int) := by
            have := ishl_i64 (x := 1) (n := xr) (by omega) (by omega)
            rw [Nat.one_mul] at this
            exact this
          (conv => whnf); repeat ((first | refine RngK.mk (by omega) (by omega) ?_ | refine NzK.mk (by omega) ?_ | refine NnK.mk (by omega) ?_ | refine BdK.mk (by omega) (by omega) (by omega) ?_ | refine InsK.lit (by omega) (by omega) ?_ | refine SpK.lit ?_ | refine GrdK.same ?_ | refine GrdK.tf ?_ | refine GrdK.ft ?_ | refine PickK.t ?_ | refine PickK.f ?_); (conv => whnf))
          refine InsK.own hO1 (by omega) (by omega) ?_
          (conv => whnf); repeat ((first | refine RngK.mk (by omega) (by omega) ?_ | refine NzK.mk (by omega) ?_ | refine NnK.mk (by omega) ?_ | refine BdK.mk (by omega) (by omega) (by omega) ?_ | refine InsK.lit (by omega) (by omega) ?_ | refine SpK.lit ?_ | refine GrdK.same ?_ | refine GrdK.tf ?_ | refine GrdK.ft ?_ | refine PickK.t ?_ | refine PickK.f ?_); (conv => whnf))
          refine LdK.ownN (cs := stCells (xs, xr, (xb : Int))) 1 (i * 3) rfl rfl rfl rfl rfl rfl rfl hcell ?_
          (conv => whnf); repeat ((first | refine RngK.mk (by omega) (by omega) ?_ | refine NzK.mk (by omega) ?_ | refine NnK.mk (by omega) ?_ | refine BdK.mk (by omega) (by omega) (by omega) ?_ | refine InsK.lit (by omega) (by omega) ?_ | refine SpK.lit ?_ | refine GrdK.same ?_ | refine GrdK.tf ?_ | refine GrdK.ft ?_ | refine PickK.t ?_ | refine PickK.f ?_); (conv => whnf))
          refine ⟨_, _, rfl, rfl, ?_⟩
          intro b11
          (conv => whnf); repeat ((first | refine RngK.mk (by omega) (by omega) ?_ | refine NzK.mk (by omega) ?_ | refine NnK.mk (by omega) ?_ | refine BdK.mk (by omega) (by omega) (by omega) ?_ | refine InsK.lit (by omega) (by omega) ?_ | refine SpK.lit ?_ | refine GrdK.same ?_ | refine GrdK.tf ?_ | refine GrdK.ft ?_ | refine PickK.t ?_ | refine PickK.f ?_); (conv => whnf))
          refine StK.blkNE 0 (stCells (xs, xr, (xb : Int))) rfl rfl rfl rfl rfl rfl ?_
          (conv => whnf); repeat ((first | refine RngK.mk (by omega) (by omega) ?_ | refine NzK.mk (by omega) ?_ | refine NnK.mk (by omega) ?_ | refine BdK.mk (by omega) (by omega) (by omega) ?_ | refine InsK.lit (by omega) (by omega) ?_ | refine SpK.lit ?_ | refine GrdK.same ?_ | refine GrdK.tf ?_ | refine GrdK.ft ?_ | refine PickK.t ?_ | refine PickK.f ?_); (conv => whnf))
          refine Wp.cutEx 4 (fun _ : Unit => [(5, .slice A1 (2 ^ b) c1), (42, .slice A zs.length c), (43, vN zs.length), (44, vN s), (7, vN s), (8, vI zs[s]), (9, .slice (some ⟨b9', 0, none⟩) (2 ^ b) (2 ^ b)), (52, .slice A1 (2 ^ b) c1), (53, vN (2 ^ b)), (54, vN i)])
            (fun _ => [.own (some ⟨b9', 0, none⟩) (2 ^ b) (2 ^ b) 3 1 ((tab (2 ^ b) fun y => (F.take (i + 1)).countP (hitB s y)).map vN), .own A1 (2 ^ b) c1 32 3 (flat (F.map rowS))]) (fun _ => True) ?_ fun _ _ => ?_
          · refine Wp.loop (fun k : Nat => [(5, .slice A1 (2 ^ b) c1), (42, .slice A zs.length c), (43, vN zs.length), (44, vN s), (7, vN s), (8, vI zs[s]), (9, .slice (some ⟨b9', 0, none⟩) (2 ^ b) (2 ^ b)), (52, .slice A1 (2 ^ b) c1), (53, vN (2 ^ b)), (54, vN i), (11, .pointer (some ⟨b11, 0, none⟩)), (12, vN k)])
              (fun k => [.own (some ⟨b9', 0, none⟩) (2 ^ b) (2 ^ b) 3 1 ((tab (2 ^ b) fun y => rch F s i k xb y).map vN), .own A1 (2 ^ b) c1 32 3 (flat (F.map rowS)), .blk b11 32 (stCells (xs, xr, (xb : Int)))])
              (fun k => k ≤ 2 ^ xr ∧ (k = 0 ∨ xs = s)) (fun k => 2 ^ xr - k) 0 ⟨rfl, rfl, rfl, rfl, rfl, rfl, rfl, rfl, rfl, rfl, rfl, rfl, trivial⟩ ?_ ⟨Nat.zero_le _, .inl rfl⟩ fun k ⟨hk1, hk2⟩ => ?_
            · have : (tab (2 ^ b) fun y => rch F s i 0 xb y) = tab (2 ^ b) fun y => (F.take i).countP (hitB s y) := tab_congr fun y _ => rch_zero F s i xb y
              rw [this]
              exact HSub.of [1, 1, 0] rfl
            (conv => whnf); repeat ((first | refine RngK.mk (by omega) (by omega) ?_ | refine NzK.mk (by omega) ?_ | refine NnK.mk (by omega) ?_ | refine BdK.mk (by omega) (by omega) (by omega) ?_ | refine InsK.lit (by omega) (by omega) ?_ | refine SpK.lit ?_ | refine GrdK.same ?_ | refine GrdK.tf ?_ | refine GrdK.ft ?_ | refine PickK.t ?_ | refine PickK.f ?_); (conv => whnf))
            refine LdK.blk (v := vN xs) 2 rfl rfl rfl rfl ?_
            (conv => whnf); repeat ((first | refine RngK.mk (by omega) (by omega) ?_ | refine NzK.mk (by omega) ?_ | refine NnK.mk (by omega) ?_ | refine BdK.mk (by omega) (by omega) (by omega) ?_ | refine InsK.lit (by omega) (by omega) ?_ | refine SpK.lit ?_ | refine GrdK.same ?_ | refine GrdK.tf ?_ | refine GrdK.ft ?_ | refine PickK.t ?_ | refine PickK.f ?_); (conv => whnf))
            by_cases hxs : xs = s
            · rw [show (((xs : Nat) : Int) == ((s : Nat) : Int)) = true by rw [hxs]; simp]
              (conv => whnf); repeat ((first | refine RngK.mk (by omega) (by omega) ?_ | refine NzK.mk (by omega) ?_ | refine NnK.mk (by omega) ?_ | refine BdK.mk (by omega) (by omega) (by omega) ?_ | refine InsK.lit (by omega) (by omega) ?_ | refine SpK.lit ?_ | refine GrdK.same ?_ | refine GrdK.tf ?_ | refine GrdK.ft ?_ | refine PickK.t ?_ | refine PickK.f ?_); (conv => whnf))
              refine LdK.blk (v := vN xr) 2 rfl rfl rfl rfl ?_
              (conv => whnf); repeat ((first | refine RngK.mk (by omega) (by omega) ?_ | refine NzK.mk (by omega) ?_ | refine NnK.mk (by omega) ?_ | refine BdK.mk (by omega) (by omega) (by omega) ?_ | refine InsK.lit (by omega) (by omega) ?_ | refine SpK.lit ?_ | refine GrdK.same ?_ | refine GrdK.tf ?_ | refine GrdK.ft ?_ | refine PickK.t ?_ | refine PickK.f ?_); (conv => whnf))
              rw [ex]
              refine Wp.cond rfl (fun h => ?_) (fun h => ?_)
              · have h : ((k : Nat) : Int) < ((2 ^ xr : Nat) : Int) := dT h
                have hyl : xb + k < 2 ^ b := by omega
                have hbound := rch_le F s i k xb (xb + k)
                (conv => whnf); repeat ((first | refine RngK.mk (by omega) (by omega) ?_ | refine NzK.mk (by omega) ?_ | refine NnK.mk (by omega) ?_ | refine BdK.mk (by omega) (by omega) (by omega) ?_ | refine InsK.lit (by omega) (by omega) ?_ | refine SpK.lit ?_ | refine GrdK.same ?_ | refine GrdK.tf ?_ | refine GrdK.ft ?_ | refine PickK.t ?_ | refine PickK.f ?_); (conv => whnf))
                refine LdK.blk (v := vN xb) 2 rfl rfl rfl rfl ?_
                (conv => whnf); repeat ((first | refine RngK.mk (by omega) (by omega) ?_ | refine NzK.mk (by omega) ?_ | refine NnK.mk (by omega) ?_ | refine BdK.mk (by omega) (by omega) (by omega) ?_ | refine InsK.lit (by omega) (by omega) ?_ | refine SpK.lit ?_ | refine GrdK.same ?_ | refine GrdK.tf ?_ | refine GrdK.ft ?_ | refine PickK.t ?_ | refine PickK.f ?_); (conv => whnf))
                rw [decide_eq_false (show ¬ ((xb : Nat) : Int) + ((k : Nat) : Int) < 0 by omega)]
                (conv => whnf); repeat ((first | refine RngK.mk (by omega) (by omega) ?_ | refine NzK.mk (by omega) ?_ | refine NnK.mk (by omega) ?_ | refine BdK.mk (by omega) (by omega) (by omega) ?_ | refine InsK.lit (by omega) (by omega) ?_ | refine SpK.lit ?_ | refine GrdK.same ?_ | refine GrdK.tf ?_ | refine GrdK.ft ?_ | refine PickK.t ?_ | refine PickK.f ?_); (conv => whnf))
                refine LdK.blk (v := vN xb) 2 rfl rfl rfl rfl ?_
                (conv => whnf); repeat ((first | refine RngK.mk (by omega) (by omega) ?_ | refine NzK.mk (by omega) ?_ | refine NnK.mk (by omega) ?_ | refine BdK.mk (by omega) (by omega) (by omega) ?_ | refine InsK.lit (by omega) (by omega) ?_ | refine SpK.lit ?_ | refine GrdK.same ?_ | refine GrdK.tf ?_ | refine GrdK.ft ?_ | refine PickK.t ?_ | refine PickK.f ?_); (conv => whnf))
                rw [decide_eq_false (show ¬ ((xb : Nat) : Int) + ((k : Nat) : Int) ≥ ((2 ^ b : Nat) : Int) by omega)]
                (conv => whnf); repeat ((first | refine RngK.mk (by omega) (by omega) ?_ | refine NzK.mk (by omega) ?_ | refine NnK.mk (by omega) ?_ | refine BdK.mk (by omega) (by omega) (by omega) ?_ | refine InsK.lit (by omega) (by omega) ?_ | refine SpK.lit ?_ | refine GrdK.same ?_ | refine GrdK.tf ?_ | refine GrdK.ft ?_ | refine PickK.t ?_ | refine PickK.f ?_); (conv => whnf))
                refine Wp.cond rfl (fun h => by cases h) (fun _ => ?_)
                (conv => whnf); repeat ((first | refine RngK.mk (by omega) (by omega) ?_ | refine NzK.mk (by omega) ?_ | refine NnK.mk (by omega) ?_ | refine BdK.mk (by omega) (by omega) (by omega) ?_ | refine InsK.lit (by omega) (by omega) ?_ | refine SpK.lit ?_ | refine GrdK.same ?_ | refine GrdK.tf ?_ | refine GrdK.ft ?_ | refine PickK.t ?_ | refine PickK.f ?_); (conv => whnf))
                refine LdK.blk (v := vN xb) 2 rfl rfl rfl rfl ?_
                (conv => whnf); repeat ((first | refine RngK.mk (by omega) (by omega) ?_ | refine NzK.mk (by omega) ?_ | refine NnK.mk (by omega) ?_ | refine BdK.mk (by omega) (by omega) (by omega) ?_ | refine InsK.lit (by omega) (by omega) ?_ | refine SpK.lit ?_ | refine GrdK.same ?_ | refine GrdK.tf ?_ | refine GrdK.ft ?_ | refine PickK.t ?_ | refine PickK.f ?_); (conv => whnf))
                refine LdK.own 0 (xb + k) rfl rfl rfl rfl (tab_map (2 ^ b) _ hyl) ?_
                (conv => whnf); repeat ((first | refine RngK.mk (by omega) (by omega) ?_ | refine NzK.mk (by omega) ?_ | refine NnK.mk (by omega) ?_ | refine BdK.mk (by omega) (by omega) (by omega) ?_ | refine InsK.lit (by omega) (by omega) ?_ | refine SpK.lit ?_ | refine GrdK.same ?_ | refine GrdK.tf ?_ | refine GrdK.ft ?_ | refine PickK.t ?_ | refine PickK.f ?_); (conv => whnf))
                refine StK.own 0 (xb + k) rfl ⟨b9', rfl⟩ rfl rfl rfl rfl (by simp [tab_len']; omega) ?_
                have es : ((tab (2 ^ b) fun y => rch F s i k xb y).map vN).set (xb + k) (Value.int .i64 (((rch F s i k xb (xb + k) : Nat) : Int) + 1)) = (tab (2 ^ b) fun y => rch F s i (k + 1) xb y).map vN := by
                  have hset := tab_set (n := 2 ^ b) (k := xb + k) (v := rch F s i k xb (xb + k) + 1) (f := fun y => rch F s i k xb y) (g := fun y => rch F s i (k + 1) xb y)
                    (by unfold rch; rw [if_pos (by omega), if_neg (by omega)]) (fun y _ hy => by
                      unfold rch
                      by_cases hc : (xb : Int) ≤ (y : Int) ∧ (y : Int) < (xb : Int) + (k : Int)
                      · rw [if_pos hc, if_pos (by omega)]
                      · rw [if_neg hc, if_neg (by omega)])
                  rw [← hset, List.map_set]
                  rfl
                rw [es]
                (conv => whnf); repeat ((first | refine RngK.mk (by omega) (by omega) ?_ | refine NzK.mk (by omega) ?_ | refine NnK.mk (by omega) ?_ | refine BdK.mk (by omega) (by omega) (by omega) ?_ | refine InsK.lit (by omega) (by omega) ?_ | refine SpK.lit ?_ | refine GrdK.same ?_ | refine GrdK.tf ?_ | refine GrdK.ft ?_ | refine PickK.t ?_ | refine PickK.f ?_); (conv => whnf))
                exact ⟨k + 1, ⟨rfl, rfl, rfl, rfl, rfl, rfl, rfl, rfl, rfl, rfl, rfl, rfl, trivial⟩, HSub.refl _, ⟨by omega, .inr hxs⟩, by omega⟩
              · have h : ¬ ((k : Nat) : Int) < ((2 ^ xr : Nat) : Int) := dF h
                have hkx : k = 2 ^ xr := by omega
                have : (tab (2 ^ b) fun y => rch F s i k xb y) = tab (2 ^ b) fun y => (F.take (i + 1)).countP (hitB s y) := tab_congr fun y _ => by rw [hkx]; exact hyes hxs y
                rw [this]
                (conv => whnf); repeat ((first | refine RngK.mk (by omega) (by omega) ?_ | refine NzK.mk (by omega) ?_ | refine NnK.mk (by omega) ?_ | refine BdK.mk (by omega) (by omega) (by omega) ?_ | refine InsK.lit (by omega) (by omega) ?_ | refine SpK.lit ?_ | refine GrdK.same ?_ | refine GrdK.tf ?_ | refine GrdK.ft ?_ | refine PickK.t ?_ | refine PickK.f ?_); (conv => whnf))
                exact ⟨(), ⟨rfl, rfl, rfl, rfl, rfl, rfl, rfl, rfl, rfl, rfl, trivial⟩, HSub.of [0, 0] rfl, trivial⟩
            · have hk0 : k = 0 := hk2.resolve_right hxs
              subst hk0
              have : (tab (2 ^ b) fun y => rch F s i 0 xb y) = tab (2 ^ b) fun y => (F.take (i + 1)).countP (hitB s y) := tab_congr fun y _ => by rw [rch_zero]; exact hno hxs y
              rw [show (((xs : Nat) : Int) == ((s : Nat) : Int)) = false by simp; omega, this]
              (conv => whnf); repeat ((first | refine RngK.mk (by omega) (by omega) ?_ | refine NzK.mk (by omega) ?_ | refine NnK.mk (by omega) ?_ | refine BdK.mk (by omega) (by omega) (by omega) ?_ | refine InsK.lit (by omega) (by omega) ?_ | refine SpK.lit ?_ | refine GrdK.same ?_ | refine GrdK.tf ?_ | refine GrdK.ft ?_ | refine PickK.t ?_ | refine PickK.f ?_); (conv => whnf))
              refine Wp.cond rfl (fun h => by cases h) (fun _ => ?_)
              (conv => whnf); repeat ((first | refine RngK.mk (by omega) (by omega) ?_ | refine NzK.mk (by omega) ?_ | refine NnK.mk (by omega) ?_ | refine BdK.mk (by omega) (by omega) (by omega) ?_ | refine InsK.lit (by omega) (by omega) ?_ | refine SpK.lit ?_ | refine GrdK.same ?_ | refine GrdK.tf ?_ | refine GrdK.ft ?_ | refine PickK.t ?_ | refine PickK.f ?_); (conv => whnf))
              exact ⟨(), ⟨rfl, rfl, rfl, rfl, rfl, rfl, rfl, rfl, rfl, rfl, trivial⟩, HSub.of [0, 0] rfl, trivial⟩
          · (conv => whnf); repeat ((first | refine RngK.mk (by omega) (by omega) ?_ | refine NzK.mk (by omega) ?_ | refine NnK.mk (by omega) ?_ | refine BdK.mk (by omega) (by omega) (by omega) ?_ | refine InsK.lit (by omega) (by omega) ?_ | refine SpK.lit ?_ | refine GrdK.same ?_ | refine GrdK.tf ?_ | refine GrdK.ft ?_ | refine PickK.t ?_ | refine PickK.f ?_); (conv => whnf))
            exact ⟨i + 1, ⟨rfl, rfl, rfl, rfl, rfl, rfl, rfl, rfl, rfl, rfl, trivial⟩, HSub.refl _, by omega, by omega⟩
        · have h := dF h
          have hF : F.take i = F := List.take_of_length_le (by omega)
          rw [hF]
          (conv => whnf); repeat ((first | refine RngK.mk (by omega) (by omega) ?_ | refine NzK.mk (by omega) ?_ | refine NnK.mk (by omega) ?_ | refine BdK.mk (by omega) (by omega) (by omega) ?_ | refine InsK.lit (by omega) (by omega) ?_ | refine SpK.lit ?_ | refine GrdK.same ?_ | refine GrdK.tf ?_ | refine GrdK.ft ?_ | refine PickK.t ?_ | refine PickK.f ?_); (conv => whnf))
          exact ⟨(), ⟨rfl, rfl, rfl, rfl, rfl, rfl, trivial⟩, HSub.refl _, trivial⟩
      · (conv => whnf); repeat ((first | refine RngK.mk (by omega) (by omega) ?_ | refine NzK.mk (by omega) ?_ | refine NnK.mk (by omega) ?_ | refine BdK.mk (by omega) (by omega) (by omega) ?_ | refine InsK.lit (by omega) (by omega) ?_ | refine SpK.lit ?_ | refine GrdK.same ?_ | refine GrdK.tf ?_ | refine GrdK.ft ?_ | refine PickK.t ?_ | refine PickK.f ?_); (conv => whnf))
        refine Wp.cutEx 6 (fun _ : Unit => [(5, .slice A1 (2 ^ b) c1), (42, .slice A zs.length c), (43, vN zs.length), (44, vN s)])
          (fun _ => [.own A1 (2 ^ b) c1 32 3 (flat (F.map rowS))]) (fun _ => True) ?_ fun _ _ => ?_
        · refine Wp.loop (fun y : Nat => [(5, .slice A1 (2 ^ b) c1), (42, .slice A zs.length c), (43, vN zs.length), (44, vN s), (8, vI zs[s]), (95, .slice (some ⟨b9', 0, none⟩) (2 ^ b) (2 ^ b)), (96, vN (2 ^ b)), (97, vN y)])
            (fun _ => [.own (some ⟨b9', 0, none⟩) (2 ^ b) (2 ^ b) 3 1 ((tab (2 ^ b) fun y => F.countP (hitB s y)).map vN), .own A1 (2 ^ b) c1 32 3 (flat (F.map rowS))])
            (fun y => y ≤ 2 ^ b) (fun y => 2 ^ b - y) 0 ⟨rfl, rfl, rfl, rfl, rfl, rfl, rfl, rfl, trivial⟩ (HSub.refl _) (Nat.zero_le _) fun y hy => ?_
          (conv => whnf); repeat ((first | refine RngK.mk (by omega) (by omega) ?_ | refine NzK.mk (by omega) ?_ | refine NnK.mk (by omega) ?_ | refine BdK.mk (by omega) (by omega) (by omega) ?_ | refine InsK.lit (by omega) (by omega) ?_ | refine SpK.lit ?_ | refine GrdK.same ?_ | refine GrdK.tf ?_ | refine GrdK.ft ?_ | refine PickK.t ?_ | refine PickK.f ?_); (conv => whnf))
          refine Wp.cond rfl (fun h => ?_) (fun h => ?_)
          · have h := dT h
            have hyl : y < 2 ^ b := by omega
            (conv => whnf); repeat ((first | refine RngK.mk (by omega) (by omega) ?_ | refine NzK.mk (by omega) ?_ | refine NnK.mk (by omega) ?_ | refine BdK.mk (by omega) (by omega) (by omega) ?_ | refine InsK.lit (by omega) (by omega) ?_ | refine SpK.lit ?_ | refine GrdK.same ?_ | refine GrdK.tf ?_ | refine GrdK.ft ?_ | refine PickK.t ?_ | refine PickK.f ?_); (conv => whnf))
            refine LdK.own 0 y rfl rfl rfl rfl (tab_map (2 ^ b) _ hyl) ?_
            (conv => whnf); repeat ((first | refine RngK.mk (by omega) (by omega) ?_ | refine NzK.mk (by omega) ?_ | refine NnK.mk (by omega) ?_ | refine BdK.mk (by omega) (by omega) (by omega) ?_ | refine InsK.lit (by omega) (by omega) ?_ | refine SpK.lit ?_ | refine GrdK.same ?_ | refine GrdK.tf ?_ | refine GrdK.ft ?_ | refine PickK.t ?_ | refine PickK.f ?_); (conv => whnf))
            by_cases hz : zs[s] = 0
            · rw [hz]
              (conv => whnf); repeat ((first | refine RngK.mk (by omega) (by omega) ?_ | refine NzK.mk (by omega) ?_ | refine NnK.mk (by omega) ?_ | refine BdK.mk (by omega) (by omega) (by omega) ?_ | refine InsK.lit (by omega) (by omega) ?_ | refine SpK.lit ?_ | refine GrdK.same ?_ | refine GrdK.tf ?_ | refine GrdK.ft ?_ | refine PickK.t ?_ | refine PickK.f ?_); (conv => whnf))
              refine Wp.cond rfl (fun h => by cases h) (fun _ => ?_)
              (conv => whnf); repeat ((first | refine RngK.mk (by omega) (by omega) ?_ | refine NzK.mk (by omega) ?_ | refine NnK.mk (by omega) ?_ | refine BdK.mk (by omega) (by omega) (by omega) ?_ | refine InsK.lit (by omega) (by omega) ?_ | refine SpK.lit ?_ | refine GrdK.same ?_ | refine GrdK.tf ?_ | refine GrdK.ft ?_ | refine PickK.t ?_ | refine PickK.f ?_); (conv => whnf))
              exact ⟨y + 1, ⟨rfl, rfl, rfl, rfl, rfl, rfl, rfl, rfl, trivial⟩, HSub.refl _, by omega, by omega⟩
            · rw [show ((zs[s] : Int) != 0) = true by simpa using hz]
              (conv => whnf); repeat ((first | refine RngK.mk (by omega) (by omega) ?_ | refine NzK.mk (by omega) ?_ | refine NnK.mk (by omega) ?_ | refine BdK.mk (by omega) (by omega) (by omega) ?_ | refine InsK.lit (by omega) (by omega) ?_ | refine SpK.lit ?_ | refine GrdK.same ?_ | refine GrdK.tf ?_ | refine GrdK.ft ?_ | refine PickK.t ?_ | refine PickK.f ?_); (conv => whnf))
              rw [hhits s y hsl (by rw [getD_at hsl]; exact hz) hyl]
              refine Wp.cond rfl (fun h => by cases h) (fun _ => ?_)
              (conv => whnf); repeat ((first | refine RngK.mk (by omega) (by omega) ?_ | refine NzK.mk (by omega) ?_ | refine NnK.mk (by omega) ?_ | refine BdK.mk (by omega) (by omega) (by omega) ?_ | refine InsK.lit (by omega) (by omega) ?_ | refine SpK.lit ?_ | refine GrdK.same ?_ | refine GrdK.tf ?_ | refine GrdK.ft ?_ | refine PickK.t ?_ | refine PickK.f ?_); (conv => whnf))
              exact ⟨y + 1, ⟨rfl, rfl, rfl, rfl, rfl, rfl, rfl, rfl, trivial⟩, HSub.refl _, by omega, by omega⟩
          · (conv => whnf); repeat ((first | refine RngK.mk (by omega) (by omega) ?_ | refine NzK.mk (by omega) ?_ | refine NnK.mk (by omega) ?_ | refine BdK.mk (by omega) (by omega) (by omega) ?_ | refine InsK.lit (by omega) (by omega) ?_ | refine SpK.lit ?_ | refine GrdK.same ?_ | refine GrdK.tf ?_ | refine GrdK.ft ?_ | refine PickK.t ?_ | refine PickK.f ?_); (conv => whnf))
            exact ⟨(), ⟨rfl, rfl, rfl, rfl, trivial⟩, HSub.of [1] rfl, trivial⟩
        · (conv => whnf); repeat ((first | refine RngK.mk (by omega) (by omega) ?_ | refine NzK.mk (by omega) ?_ | refine NnK.mk (by omega) ?_ | refine BdK.mk (by omega) (by omega) (by omega) ?_ | refine InsK.lit (by omega) (by omega) ?_ | refine SpK.lit ?_ | refine GrdK.same ?_ | refine GrdK.tf ?_ | refine GrdK.ft ?_ | refine PickK.t ?_ | refine PickK.f ?_); (conv => whnf))
          exact ⟨s + 1, ⟨rfl, rfl, rfl, rfl, trivial⟩, HSub.refl _, by omega, by omega⟩
    · (conv => whnf); repeat ((first | refine RngK.mk (by omega) (by omega) ?_ | refine NzK.mk (by omega) ?_ | refine NnK.mk (by omega) ?_ | refine BdK.mk (by omega) (by omega) (by omega) ?_ | refine InsK.lit (by omega) (by omega) ?_ | refine SpK.lit ?_ | refine GrdK.same ?_ | refine GrdK.tf ?_ | refine GrdK.ft ?_ | refine PickK.t ?_ | refine PickK.f ?_); (conv => whnf))
      exact ⟨[], HSub.nil _, rfl, rfl⟩
end Go.Proofs.YtccmihdpgpgbaaaDoor
