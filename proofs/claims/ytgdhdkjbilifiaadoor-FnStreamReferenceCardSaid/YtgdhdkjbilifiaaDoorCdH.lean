/- A Reader that has a table of codes. -/
import Derived.Test.YtgdhdkjbilifiaaDoorCdG
namespace Go.Proofs.YtgdhdkjbilifiaaDoor
open Go Go.Sx
set_option maxRecDepth 100000
theorem zzReader_spec (A : Option Addr) (n c : Nat) (ts : List Nat) (b : Nat) (hl : ts.length = n) (hn : n ≤ 2048) : FnS Tryd.prog 54 [.slice A n c, vN b] [] (fun w => Rd w (blocks []) A n 1 (ts.map vU16))
    (fun v H => ∃ rb tb cs, H = [.blk rb 107 cs, .own (some ⟨tb, 0, none⟩) 2048 2048 109 1 ((ts ++ List.replicate (2048 - ts.length) 0).map vU16)] ∧ v = .pointer (some ⟨rb, 0, none⟩) ∧ cs[6]? = some (vI 0) ∧ cs[12]? = some (.slice (some ⟨tb, 0, none⟩) 2048 2048) ∧ cs[13]? = some (vN b)) := by
  refine FnS.introD Tryd.func54 rfl (by kernel_rfl) rfl fun w hH hp => ?_
  (conv => whnf); repeat ((first | refine RngK.mk (by omega) (by omega) ?_ | refine NzK.mk (by omega) ?_ | refine NnK.mk (by omega) ?_ | refine BdK.mk (by omega) (by omega) (by omega) ?_ | refine InsK.lit (by omega) (by omega) ?_ | refine SpK.lit ?_ | refine GrdK.same ?_ | refine GrdK.tf ?_ | refine GrdK.ft ?_ | refine PickK.t ?_ | refine PickK.f ?_); (conv => whnf))
  refine EffK.made1 2048 rfl rfl rfl rfl rfl rfl (by show 2 * _ ≤ _; omega) (by simp [maxLen]) fun b1 => ?_
  (conv => whnf); repeat ((first | refine RngK.mk (by omega) (by omega) ?_ | refine NzK.mk (by omega) ?_ | refine NnK.mk (by omega) ?_ | refine BdK.mk (by omega) (by omega) (by omega) ?_ | refine InsK.lit (by omega) (by omega) ?_ | refine SpK.lit ?_ | refine GrdK.same ?_ | refine GrdK.tf ?_ | refine GrdK.ft ?_ | refine PickK.t ?_ | refine PickK.f ?_); (conv => whnf))
  refine ValK.build rfl ?_
  (conv => whnf); repeat ((first | refine RngK.mk (by omega) (by omega) ?_ | refine NzK.mk (by omega) ?_ | refine NnK.mk (by omega) ?_ | refine BdK.mk (by omega) (by omega) (by omega) ?_ | refine InsK.lit (by omega) (by omega) ?_ | refine SpK.lit ?_ | refine GrdK.same ?_ | refine GrdK.tf ?_ | refine GrdK.ft ?_ | refine PickK.t ?_ | refine PickK.f ?_); (conv => whnf))
  intro b2
  (conv => whnf); repeat ((first | refine RngK.mk (by omega) (by omega) ?_ | refine NzK.mk (by omega) ?_ | refine NnK.mk (by omega) ?_ | refine BdK.mk (by omega) (by omega) (by omega) ?_ | refine InsK.lit (by omega) (by omega) ?_ | refine SpK.lit ?_ | refine GrdK.same ?_ | refine GrdK.tf ?_ | refine GrdK.ft ?_ | refine PickK.t ?_ | refine PickK.f ?_); (conv => whnf))
  refine LdK.blk 0 rfl rfl rfl rfl ?_
  (conv => whnf); repeat ((first | refine RngK.mk (by omega) (by omega) ?_ | refine NzK.mk (by omega) ?_ | refine NnK.mk (by omega) ?_ | refine BdK.mk (by omega) (by omega) (by omega) ?_ | refine InsK.lit (by omega) (by omega) ?_ | refine SpK.lit ?_ | refine GrdK.same ?_ | refine GrdK.tf ?_ | refine GrdK.ft ?_ | refine PickK.t ?_ | refine PickK.f ?_); (conv => whnf))
  by_cases h0 : n = 0
  · subst h0
    obtain rfl : ts = [] := List.length_eq_zero_iff.1 hl
    refine EffK.copy0 rfl rfl (by omega) ?_
    (conv => whnf); repeat ((first | refine RngK.mk (by omega) (by omega) ?_ | refine NzK.mk (by omega) ?_ | refine NnK.mk (by omega) ?_ | refine BdK.mk (by omega) (by omega) (by omega) ?_ | refine InsK.lit (by omega) (by omega) ?_ | refine SpK.lit ?_ | refine GrdK.same ?_ | refine GrdK.tf ?_ | refine GrdK.ft ?_ | refine PickK.t ?_ | refine PickK.f ?_); (conv => whnf))
    have hx : List.replicate 2048 (Value.int .u16 0) = (([] : List Nat) ++ List.replicate (2048 - ([] : List Nat).length) 0).map vU16 := by rw [List.nil_append, List.map_replicate]; rfl
    rw [hx]
    exact ⟨_, HSub.of [0, 0] rfl, b2, b1, _, rfl, rfl, rfl, rfl, rfl⟩
  refine EffK.copyOwn (news := ts.map vU16) 1 n rfl ⟨b1, rfl⟩ (o := 0) rfl rfl rfl rfl (by omega) (by omega) (Src.rd hp) (by intro u hu; obtain ⟨z, _, rfl⟩ := List.mem_map.1 hu; rfl) (by simp; omega) ?_
  (conv => whnf); repeat ((first | refine RngK.mk (by omega) (by omega) ?_ | refine NzK.mk (by omega) ?_ | refine NnK.mk (by omega) ?_ | refine BdK.mk (by omega) (by omega) (by omega) ?_ | refine InsK.lit (by omega) (by omega) ?_ | refine SpK.lit ?_ | refine GrdK.same ?_ | refine GrdK.tf ?_ | refine GrdK.ft ?_ | refine PickK.t ?_ | refine PickK.f ?_); (conv => whnf))
  have hx : (List.replicate 2048 (Value.int .u16 0)).take 0 ++ ts.map vU16 ++ (List.replicate 2048 (Value.int .u16 0)).drop (0 + n) = (ts ++ List.replicate (2048 - ts.length) 0).map vU16 := by
    rw [List.take_zero, List.nil_append, List.drop_replicate, List.map_append, List.map_replicate, Nat.zero_add, hl]
    rfl
  rw [hx]
  exact ⟨_, HSub.of [0, 0] rfl, b2, b1, _, rfl, rfl, rfl, rfl, rfl⟩
end Go.Proofs.YtgdhdkjbilifiaaDoor
