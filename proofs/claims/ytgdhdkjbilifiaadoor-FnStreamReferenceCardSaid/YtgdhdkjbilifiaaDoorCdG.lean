/- Tables of codes as the package takes them, and a Reader that has one. -/
import Derived.Test.YtgdhdkjbilifiaaDoorCdE
namespace Go.Proofs.YtgdhdkjbilifiaaDoor
open Go Go.Sx
set_option maxRecDepth 100000
theorem cdE_at {l : List Cd} {k : Nat} (hk : k < l.length) : ∀ q v, (cdC l[k])[q]? = some v → (cdE l)[k * 2 + q]? = some v := by
  induction l generalizing k with
  | nil => simp at hk
  | cons x l ih =>
    intro q v hv
    cases k with
    | zero =>
      have hq : q < 2 := by
        have := (List.getElem?_eq_some_iff.1 hv).1
        simpa [cdC] using this
      show ((cdC x) ++ cdE l)[0 * 2 + q]? = some v
      rw [Nat.zero_mul, Nat.zero_add, List.getElem?_append_left (by simpa [cdC] using hq)]
      exact hv
    | succ k =>
      show ((cdC x) ++ cdE l)[(k + 1) * 2 + q]? = some v
      have : (cdC x).length = 2 := rfl
      rw [List.getElem?_append_right (by omega), this, show (k + 1) * 2 + q - 2 = k * 2 + q by omega]
      exact ih (by simpa using hk) q v hv
theorem pairsOf_spec (A : Option Addr) (n c : Nat) (l : List Cd) (hn : n ≤ 1000000) (hl : l.length = n) (hx : ∀ x ∈ l, x.1 < 256 ∧ x.2 < 256) : FnS Tryd.prog 42 [.slice A n c] [] (fun w => Rd w (blocks []) A n 2 (cdE l))
    (fun v H => ∃ A1 c1, v = .slice A1 l.length c1 ∧ H = [.own A1 l.length c1 109 1 ((l.map pk).map vU16)]) := by
  refine FnS.introD Tryd.func42 rfl (by kernel_rfl) rfl fun w hH hp => ?_
  (conv => whnf); repeat ((first | refine RngK.mk (by omega) (by omega) ?_ | refine NzK.mk (by omega) ?_ | refine NnK.mk (by omega) ?_ | refine BdK.mk (by omega) (by omega) (by omega) ?_ | refine InsK.lit (by omega) (by omega) ?_ | refine SpK.lit ?_ | refine GrdK.same ?_ | refine GrdK.tf ?_ | refine GrdK.ft ?_ | refine PickK.t ?_ | refine PickK.f ?_); (conv => whnf))
  refine EffK.lit0 rfl rfl fun b => ?_
  (conv => whnf); repeat ((first | refine RngK.mk (by omega) (by omega) ?_ | refine NzK.mk (by omega) ?_ | refine NnK.mk (by omega) ?_ | refine BdK.mk (by omega) (by omega) (by omega) ?_ | refine InsK.lit (by omega) (by omega) ?_ | refine SpK.lit ?_ | refine GrdK.same ?_ | refine GrdK.tf ?_ | refine GrdK.ft ?_ | refine PickK.t ?_ | refine PickK.f ?_); (conv => whnf))
  refine Wp.loop (fun t : Nat × Option Addr × Nat => [(7, .slice A n c), (8, vN n), (9, vN t.1), (3, .slice t.2.1 (l.take t.1).length t.2.2)]) (fun t => [.own t.2.1 (l.take t.1).length t.2.2 109 1 (((l.take t.1).map pk).map vU16)])
    (fun t => t.1 ≤ n) (fun t => n - t.1) (0, some ⟨b, 0, none⟩, 0) ⟨rfl, rfl, rfl, rfl, trivial⟩ (HSub.refl _) (Nat.zero_le _) fun ⟨k, A1, c1⟩ hk => ?_
  dsimp only at hk ⊢
  (conv => whnf); repeat ((first | refine RngK.mk (by omega) (by omega) ?_ | refine NzK.mk (by omega) ?_ | refine NnK.mk (by omega) ?_ | refine BdK.mk (by omega) (by omega) (by omega) ?_ | refine InsK.lit (by omega) (by omega) ?_ | refine SpK.lit ?_ | refine GrdK.same ?_ | refine GrdK.tf ?_ | refine GrdK.ft ?_ | refine PickK.t ?_ | refine PickK.f ?_); (conv => whnf))
  refine Wp.cond rfl (fun h => ?_) (fun h => ?_)
  · have h := dT h
    have hk' : k < l.length := by omega
    have hcell := cdE_at hk'
    have htk := List.take_succ_eq_append_getElem hk'
    have htl : (l.take k).length = k := by simp; omega
    obtain ⟨x1, x2⟩ := hx _ (List.getElem_mem hk')
    obtain ⟨x, hxx⟩ : ∃ x, l[k] = x := ⟨_, rfl⟩
    rw [hxx] at hcell htk x1 x2
    have e1 : ishl .i64 (x.1 : Int) 8 = ((x.1 * 256 : Nat) : Int) := ishl_i64 (x := x.1) (n := 8) (by omega) (by omega)
    have e2 : ior .i64 ((x.1 * 256 : Nat) : Int) (x.2 : Int) = ((pk x : Nat) : Int) := by
      rw [ior_i64 (by omega) (by omega), Nat.or_comm]
      have := or_add (x := x.2) (y := x.1) (i := 8) (by omega)
      rw [show x.1 * 256 = x.1 * 2 ^ 8 by rfl, this]
      unfold pk
      omega
    have hpk : pk x < 65536 := by unfold pk; omega
    have e3 : IntKind.u16.wrap ((pk x : Nat) : Int) = ((pk x : Nat) : Int) := wrap_u_lt rfl (by show _ < 65536; omega)
    (conv => whnf); repeat ((first | refine RngK.mk (by omega) (by omega) ?_ | refine NzK.mk (by omega) ?_ | refine NnK.mk (by omega) ?_ | refine BdK.mk (by omega) (by omega) (by omega) ?_ | refine InsK.lit (by omega) (by omega) ?_ | refine SpK.lit ?_ | refine GrdK.same ?_ | refine GrdK.tf ?_ | refine GrdK.ft ?_ | refine PickK.t ?_ | refine PickK.f ?_); (conv => whnf))
    refine InsK.rd hp (by omega) (by omega) ?_
    (conv => whnf); repeat ((first | refine RngK.mk (by omega) (by omega) ?_ | refine NzK.mk (by omega) ?_ | refine NnK.mk (by omega) ?_ | refine BdK.mk (by omega) (by omega) (by omega) ?_ | refine InsK.lit (by omega) (by omega) ?_ | refine SpK.lit ?_ | refine GrdK.same ?_ | refine GrdK.tf ?_ | refine GrdK.ft ?_ | refine PickK.t ?_ | refine PickK.f ?_); (conv => whnf))
    refine LdK.rdN (cs := cdC x) hp (k * 2) rfl rfl rfl rfl rfl rfl hcell ?_
    (conv => whnf); repeat ((first | refine RngK.mk (by omega) (by omega) ?_ | refine NzK.mk (by omega) ?_ | refine NnK.mk (by omega) ?_ | refine BdK.mk (by omega) (by omega) (by omega) ?_ | refine InsK.lit (by omega) (by omega) ?_ | refine SpK.lit ?_ | refine GrdK.same ?_ | refine GrdK.tf ?_ | refine GrdK.ft ?_ | refine PickK.t ?_ | refine PickK.f ?_); (conv => whnf))
    refine ⟨_, _, rfl, rfl, ?_⟩
    intro b8
    (conv => whnf); repeat ((first | refine RngK.mk (by omega) (by omega) ?_ | refine NzK.mk (by omega) ?_ | refine NnK.mk (by omega) ?_ | refine BdK.mk (by omega) (by omega) (by omega) ?_ | refine InsK.lit (by omega) (by omega) ?_ | refine SpK.lit ?_ | refine GrdK.same ?_ | refine GrdK.tf ?_ | refine GrdK.ft ?_ | refine PickK.t ?_ | refine PickK.f ?_); (conv => whnf))
    refine StK.blkNE 0 (cdC x) rfl rfl rfl rfl rfl rfl ?_
    (conv => whnf); repeat ((first | refine RngK.mk (by omega) (by omega) ?_ | refine NzK.mk (by omega) ?_ | refine NnK.mk (by omega) ?_ | refine BdK.mk (by omega) (by omega) (by omega) ?_ | refine InsK.lit (by omega) (by omega) ?_ | refine SpK.lit ?_ | refine GrdK.same ?_ | refine GrdK.tf ?_ | refine GrdK.ft ?_ | refine PickK.t ?_ | refine PickK.f ?_); (conv => whnf))
    refine LdK.blk 0 rfl rfl rfl rfl ?_
    (conv => whnf); repeat ((first | refine RngK.mk (by omega) (by omega) ?_ | refine NzK.mk (by omega) ?_ | refine NnK.mk (by omega) ?_ | refine BdK.mk (by omega) (by omega) (by omega) ?_ | refine InsK.lit (by omega) (by omega) ?_ | refine SpK.lit ?_ | refine GrdK.same ?_ | refine GrdK.tf ?_ | refine GrdK.ft ?_ | refine PickK.t ?_ | refine PickK.f ?_); (conv => whnf))
    refine LdK.blk 0 rfl rfl rfl rfl ?_
    (conv => whnf); repeat ((first | refine RngK.mk (by omega) (by omega) ?_ | refine NzK.mk (by omega) ?_ | refine NnK.mk (by omega) ?_ | refine BdK.mk (by omega) (by omega) (by omega) ?_ | refine InsK.lit (by omega) (by omega) ?_ | refine SpK.lit ?_ | refine GrdK.same ?_ | refine GrdK.tf ?_ | refine GrdK.ft ?_ | refine PickK.t ?_ | refine PickK.f ?_); (conv => whnf))
    rw [e1, e2, e3]
    refine EffK.litV rfl rfl rfl rfl rfl rfl rfl rfl rfl ?_
    (conv => whnf); repeat ((first | refine RngK.mk (by omega) (by omega) ?_ | refine NzK.mk (by omega) ?_ | refine NnK.mk (by omega) ?_ | refine BdK.mk (by omega) (by omega) (by omega) ?_ | refine InsK.lit (by omega) (by omega) ?_ | refine SpK.lit ?_ | refine GrdK.same ?_ | refine GrdK.tf ?_ | refine GrdK.ft ?_ | refine PickK.t ?_ | refine PickK.f ?_); (conv => whnf))
    intro b3
    (conv => whnf); repeat ((first | refine RngK.mk (by omega) (by omega) ?_ | refine NzK.mk (by omega) ?_ | refine NnK.mk (by omega) ?_ | refine BdK.mk (by omega) (by omega) (by omega) ?_ | refine InsK.lit (by omega) (by omega) ?_ | refine SpK.lit ?_ | refine GrdK.same ?_ | refine GrdK.tf ?_ | refine GrdK.ft ?_ | refine PickK.t ?_ | refine PickK.f ?_); (conv => whnf))
    refine EffK.append 2 (news := [vU16 (pk x)]) rfl rfl rfl rfl rfl rfl rfl rfl (Src.ownW (k := 0) rfl rfl) (by intro u hu; rcases List.mem_singleton.1 hu with rfl; rfl) (by simp [maxLen]; omega) (by show (_ + _) * 2 ≤ _; omega) fun A' cap' => ?_
    (conv => whnf); repeat ((first | refine RngK.mk (by omega) (by omega) ?_ | refine NzK.mk (by omega) ?_ | refine NnK.mk (by omega) ?_ | refine BdK.mk (by omega) (by omega) (by omega) ?_ | refine InsK.lit (by omega) (by omega) ?_ | refine SpK.lit ?_ | refine GrdK.same ?_ | refine GrdK.tf ?_ | refine GrdK.ft ?_ | refine PickK.t ?_ | refine PickK.f ?_); (conv => whnf))
    refine ⟨(k + 1, A', cap'), ⟨rfl, rfl, rfl, ?_, trivial⟩, ?_, by simp only; omega, by simp only; omega⟩
    · show some _ = some _
      rw [htk]
      simp
    · dsimp only
      rw [htk, List.length_append, List.map_append, List.map_append]
      exact HSub.of [2] rfl
  · have h := dF h
    rw [List.take_of_length_le (by omega)]
    (conv => whnf); repeat ((first | refine RngK.mk (by omega) (by omega) ?_ | refine NzK.mk (by omega) ?_ | refine NnK.mk (by omega) ?_ | refine BdK.mk (by omega) (by omega) (by omega) ?_ | refine InsK.lit (by omega) (by omega) ?_ | refine SpK.lit ?_ | refine GrdK.same ?_ | refine GrdK.tf ?_ | refine GrdK.ft ?_ | refine PickK.t ?_ | refine PickK.f ?_); (conv => whnf))
    exact ⟨_, HSub.refl _, A1, c1, rfl, rfl⟩
end Go.Proofs.YtgdhdkjbilifiaaDoor
