/- Copies out of a window, whole; the reference. -/
import Derived.Test.YtkdfminibmdkgaaDoorCpA
import Derived.Test.YtkdfminibmdkgaaDoorOwn3
namespace Go.Proofs.YtkdfminibmdkgaaDoor
open Go Go.Sx
set_option maxRecDepth 100000
theorem joined_take {ps : List Piece} {k : Nat} (hk : k < ps.length) : joined (ps.take (k + 1)) = joined (ps.take k) ++ ps[k].bs := by
  unfold joined; rw [List.take_succ_eq_append_getElem hk, List.flatMap_append]; simp
theorem joined_le {ps : List Piece} {k : Nat} (hk : k < ps.length) : ps[k].bs.length ≤ (joined ps).length := by
  have e : joined ps = joined (ps.take (k + 1)) ++ joined (ps.drop (k + 1)) := by
    simp only [joined, ← List.flatMap_append, List.take_append_drop]
  rw [e, joined_take hk]
  simp
  omega
/-- what comes of a copy: the buffer, and whether it was done -/
def cpOut (before bs : List UInt8) (o m : Nat) : List UInt8 × Bool := if o = 0 ∨ (before ++ bs).length < o then (bs, false) else (bs ++ per (before ++ bs) o m, true)
theorem zzcopy_spec (A : Option Addr) (n c : Nat) (ps : List Piece) (s : Nat) (B : Option Addr) (bl bc : Nat) (bs : List UInt8) (o m : Nat) (e : Addr) (hs1 : 1 ≤ s) (hs : s ≤ 1000000) (hj : (joined ps).length ≤ 1000000) (hbl : bl ≤ 1000000) (hm : m ≤ 100000) (ho : o ≤ 2147483647) :
    FnS Tryd.prog 10 [vI s, .slice A n c, .slice B bl bc, .int .u32 o, .int .u32 m] [] (fun w => Pieces w (blocks []) A n c ps ∧ Bytes w (blocks []) B bl bc bs ∧ LaidE w (blocks []) e)
      (fun v H => ∃ A1 c1 err, v = .tuple #[.slice A1 (cpOut (lastN s (joined ps)) bs o m).1.length c1, err] ∧ H = [.own A1 (cpOut (lastN s (joined ps)) bs o m).1.length c1 5 1 ((cpOut (lastN s (joined ps)) bs o m).1.map vU8)] ∧
        (((cpOut (lastN s (joined ps)) bs o m).2 = true ∧ err = .nilIface) ∨ ((cpOut (lastN s (joined ps)) bs o m).2 = false ∧ ∃ T x, err = .iface T x))) := by
  refine FnS.introD Tryd.func10 rfl (by kernel_rfl) rfl fun w hH ⟨hp, hB, hL⟩ => ?_
  obtain rfl : bs.length = bl := hB.len
  have hl := hp.len
  have hm1 := hp.le
  have hm2 := hp.max
  simp only [maxLen] at hm2
  (conv => whnf); repeat ((first | refine RngK.mk (by omega) (by omega) ?_ | refine NzK.mk (by omega) ?_ | refine NnK.mk (by omega) ?_ | refine BdK.mk (by omega) (by omega) (by omega) ?_ | refine InsK.lit (by omega) (by omega) ?_ | refine SpK.lit ?_ | refine GrdK.same ?_ | refine GrdK.tf ?_ | refine GrdK.ft ?_ | refine PickK.t ?_ | refine PickK.f ?_); (conv => whnf))
  refine NewK.rep (rC (.slice none 0 0) 0 (.slice none 0 0) 0) rfl rfl (by kernel_rfl) ?_
  intro r
  (conv => whnf); repeat ((first | refine RngK.mk (by omega) (by omega) ?_ | refine NzK.mk (by omega) ?_ | refine NnK.mk (by omega) ?_ | refine BdK.mk (by omega) (by omega) (by omega) ?_ | refine InsK.lit (by omega) (by omega) ?_ | refine SpK.lit ?_ | refine GrdK.same ?_ | refine GrdK.tf ?_ | refine GrdK.ft ?_ | refine PickK.t ?_ | refine PickK.f ?_); (conv => whnf))
  refine CallK.nil 5 1 ?_
  refine CallK.of [1, 0] (reset_spec (.slice none 0 0) r 0 s none 0 [] 0 hs) rfl (fun _ _ => trivial) ?_
  rintro _ _ ⟨rfl, D, dc, rfl⟩
  (conv => whnf); repeat ((first | refine RngK.mk (by omega) (by omega) ?_ | refine NzK.mk (by omega) ?_ | refine NnK.mk (by omega) ?_ | refine BdK.mk (by omega) (by omega) (by omega) ?_ | refine InsK.lit (by omega) (by omega) ?_ | refine SpK.lit ?_ | refine GrdK.same ?_ | refine GrdK.tf ?_ | refine GrdK.ft ?_ | refine PickK.t ?_ | refine PickK.f ?_); (conv => whnf))
  refine Wp.cutEx 0 (fun t : Option Addr × Nat × List UInt8 × Nat => [(2, .slice B bs.length bc), (3, .int .u32 o), (4, .int .u32 m), (12, .pointer (some ⟨r, 0, none⟩))])
    (fun t => wH (.slice none 0 0) r s t.1 t.2.1 t.2.2.1 t.2.2.2) (fun t => Win s t.2.2.1 t.2.2.2 ∧ rot t.2.2.1 t.2.2.2 = lastN s (joined ps)) ?_ fun ⟨D, dc, data, off⟩ ⟨hw, hrot⟩ => ?_
  · refine Wp.loop (fun t : Nat × Option Addr × Nat × List UInt8 × Nat => [(2, .slice B bs.length bc), (3, .int .u32 o), (4, .int .u32 m), (12, .pointer (some ⟨r, 0, none⟩)), (22, .slice A n c), (23, vI n), (24, vI t.1)])
      (fun t => wH (.slice none 0 0) r s t.2.1 t.2.2.1 t.2.2.2.1 t.2.2.2.2) (fun t => t.1 ≤ n ∧ Win s t.2.2.2.1 t.2.2.2.2 ∧ rot t.2.2.2.1 t.2.2.2.2 = lastN s (joined (ps.take t.1))) (fun t => n - t.1) (0, D, dc, [], 0)
      ⟨rfl, rfl, rfl, rfl, rfl, rfl, rfl, trivial⟩ (HSub.refl _) ⟨Nat.zero_le _, ⟨Nat.zero_le _, Nat.le_refl _, fun _ => rfl⟩, by simp [rot, lastN, joined]⟩ fun ⟨k, D, dc, data, off⟩ ⟨hk, hw, hrot⟩ => ?_
    dsimp only at hk hw hrot ⊢
    (conv => whnf); repeat ((first | refine RngK.mk (by omega) (by omega) ?_ | refine NzK.mk (by omega) ?_ | refine NnK.mk (by omega) ?_ | refine BdK.mk (by omega) (by omega) (by omega) ?_ | refine InsK.lit (by omega) (by omega) ?_ | refine SpK.lit ?_ | refine GrdK.same ?_ | refine GrdK.tf ?_ | refine GrdK.ft ?_ | refine PickK.t ?_ | refine PickK.f ?_); (conv => whnf))
    refine Wp.cond rfl (fun h => ?_) (fun h => ?_)
    · have h := dT h
      have hk' : k < ps.length := by omega
      have hb := hp.each _ (List.getElem_mem hk')
      have hjl := joined_le hk'
      have hbl := hb.len
      (conv => whnf); repeat ((first | refine RngK.mk (by omega) (by omega) ?_ | refine NzK.mk (by omega) ?_ | refine NnK.mk (by omega) ?_ | refine BdK.mk (by omega) (by omega) (by omega) ?_ | refine InsK.lit (by omega) (by omega) ?_ | refine SpK.lit ?_ | refine GrdK.same ?_ | refine GrdK.tf ?_ | refine GrdK.ft ?_ | refine PickK.t ?_ | refine PickK.f ?_); (conv => whnf))
      refine InsK.rd hp.rd (by omega) (by omega) ?_
      (conv => whnf); repeat ((first | refine RngK.mk (by omega) (by omega) ?_ | refine NzK.mk (by omega) ?_ | refine NnK.mk (by omega) ?_ | refine BdK.mk (by omega) (by omega) (by omega) ?_ | refine InsK.lit (by omega) (by omega) ?_ | refine SpK.lit ?_ | refine GrdK.same ?_ | refine GrdK.tf ?_ | refine GrdK.ft ?_ | refine PickK.t ?_ | refine PickK.f ?_); (conv => whnf))
      refine LdK.rd hp.rd k rfl rfl rfl (piece_at hk') ?_
      (conv => whnf); repeat ((first | refine RngK.mk (by omega) (by omega) ?_ | refine NzK.mk (by omega) ?_ | refine NnK.mk (by omega) ?_ | refine BdK.mk (by omega) (by omega) (by omega) ?_ | refine InsK.lit (by omega) (by omega) ?_ | refine SpK.lit ?_ | refine GrdK.same ?_ | refine GrdK.tf ?_ | refine GrdK.ft ?_ | refine PickK.t ?_ | refine PickK.f ?_); (conv => whnf))
      refine CallK.of [0, 0] (save_spec (.slice none 0 0) r s D dc data off ps[k].A ps[k].n ps[k].c ps[k].bs hw (by omega) (by omega) (by omega)) rfl (fun w hw => hb.pass hw) ?_
      rintro _ _ ⟨rfl, D', dc', data', off', w1, w2, rfl⟩
      rw [hrot, lastN_app, ← joined_take hk'] at w2
      (conv => whnf); repeat ((first | refine RngK.mk (by omega) (by omega) ?_ | refine NzK.mk (by omega) ?_ | refine NnK.mk (by omega) ?_ | refine BdK.mk (by omega) (by omega) (by omega) ?_ | refine InsK.lit (by omega) (by omega) ?_ | refine SpK.lit ?_ | refine GrdK.same ?_ | refine GrdK.tf ?_ | refine GrdK.ft ?_ | refine PickK.t ?_ | refine PickK.f ?_); (conv => whnf))
      exact ⟨(k + 1, D', dc', data', off'), ⟨rfl, rfl, rfl, rfl, rfl, rfl, rfl, trivial⟩, HSub.refl _, ⟨by simp only; omega, w1, w2⟩, by simp only; omega⟩
    · have h := dF h
      rw [List.take_of_length_le (by omega)] at hrot
      (conv => whnf); repeat ((first | refine RngK.mk (by omega) (by omega) ?_ | refine NzK.mk (by omega) ?_ | refine NnK.mk (by omega) ?_ | refine BdK.mk (by omega) (by omega) (by omega) ?_ | refine InsK.lit (by omega) (by omega) ?_ | refine SpK.lit ?_ | refine GrdK.same ?_ | refine GrdK.tf ?_ | refine GrdK.ft ?_ | refine PickK.t ?_ | refine PickK.f ?_); (conv => whnf))
      exact ⟨(D, dc, data, off), ⟨rfl, rfl, rfl, rfl, trivial⟩, HSub.refl _, hw, hrot⟩
  dsimp only at hw hrot ⊢
  have hdl := hw.len
  have hle := hw.le
  have hon := hw.on
  have hlast := lastN_len s (joined ps)
  (conv => whnf); repeat ((first | refine RngK.mk (by omega) (by omega) ?_ | refine NzK.mk (by omega) ?_ | refine NnK.mk (by omega) ?_ | refine BdK.mk (by omega) (by omega) (by omega) ?_ | refine InsK.lit (by omega) (by omega) ?_ | refine SpK.lit ?_ | refine GrdK.same ?_ | refine GrdK.tf ?_ | refine GrdK.ft ?_ | refine PickK.t ?_ | refine PickK.f ?_); (conv => whnf))
  refine EffK.nil 5 1 ?_
  refine EffK.append 0 (news := bs.map vU8) rfl rfl rfl rfl rfl rfl rfl rfl (Src.rd hB.rd) vU8_one (by simp [maxLen]; omega) (by show (_ + _) * 1 ≤ _; omega) fun A5 c5 => ?_
  rw [Nat.zero_add, List.nil_append]
  (conv => whnf); repeat ((first | refine RngK.mk (by omega) (by omega) ?_ | refine NzK.mk (by omega) ?_ | refine NnK.mk (by omega) ?_ | refine BdK.mk (by omega) (by omega) (by omega) ?_ | refine InsK.lit (by omega) (by omega) ?_ | refine SpK.lit ?_ | refine GrdK.same ?_ | refine GrdK.tf ?_ | refine GrdK.ft ?_ | refine PickK.t ?_ | refine PickK.f ?_); (conv => whnf))
  refine StK.blkE 1 (rC (.slice A5 bs.length c5) s (.slice D data.length dc) off) rfl rfl rfl rfl (Nat.le_of_ble_eq_true rfl) rfl ?_
  (conv => whnf); repeat ((first | refine RngK.mk (by omega) (by omega) ?_ | refine NzK.mk (by omega) ?_ | refine NnK.mk (by omega) ?_ | refine BdK.mk (by omega) (by omega) (by omega) ?_ | refine InsK.lit (by omega) (by omega) ?_ | refine SpK.lit ?_ | refine GrdK.same ?_ | refine GrdK.tf ?_ | refine GrdK.ft ?_ | refine PickK.t ?_ | refine PickK.f ?_); (conv => whnf))
  refine ValK.build rfl ?_
  (conv => whnf); repeat ((first | refine RngK.mk (by omega) (by omega) ?_ | refine NzK.mk (by omega) ?_ | refine NnK.mk (by omega) ?_ | refine BdK.mk (by omega) (by omega) (by omega) ?_ | refine InsK.lit (by omega) (by omega) ?_ | refine SpK.lit ?_ | refine GrdK.same ?_ | refine GrdK.tf ?_ | refine GrdK.ft ?_ | refine PickK.t ?_ | refine PickK.f ?_); (conv => whnf))
  intro q
  (conv => whnf); repeat ((first | refine RngK.mk (by omega) (by omega) ?_ | refine NzK.mk (by omega) ?_ | refine NnK.mk (by omega) ?_ | refine BdK.mk (by omega) (by omega) (by omega) ?_ | refine InsK.lit (by omega) (by omega) ?_ | refine SpK.lit ?_ | refine GrdK.same ?_ | refine GrdK.tf ?_ | refine GrdK.ft ?_ | refine PickK.t ?_ | refine PickK.f ?_); (conv => whnf))
  refine CallK.of [0, 1, 1, 0] (copyW_spec q r s D dc data off A5 c5 bs o m e (by omega) hon hbl hm ho) rfl (fun w hw => hL.pass hw) ?_
  rintro v _ ⟨B', bc', out, rfl, hcase⟩
  rw [hrot] at hcase
  (conv => whnf); repeat ((first | refine RngK.mk (by omega) (by omega) ?_ | refine NzK.mk (by omega) ?_ | refine NnK.mk (by omega) ?_ | refine BdK.mk (by omega) (by omega) (by omega) ?_ | refine InsK.lit (by omega) (by omega) ?_ | refine SpK.lit ?_ | refine GrdK.same ?_ | refine GrdK.tf ?_ | refine GrdK.ft ?_ | refine PickK.t ?_ | refine PickK.f ?_); (conv => whnf))
  refine LdK.blk 0 rfl rfl rfl rfl ?_
  (conv => whnf); repeat ((first | refine RngK.mk (by omega) (by omega) ?_ | refine NzK.mk (by omega) ?_ | refine NnK.mk (by omega) ?_ | refine BdK.mk (by omega) (by omega) (by omega) ?_ | refine InsK.lit (by omega) (by omega) ?_ | refine SpK.lit ?_ | refine GrdK.same ?_ | refine GrdK.tf ?_ | refine GrdK.ft ?_ | refine PickK.t ?_ | refine PickK.f ?_); (conv => whnf))
  unfold cpOut
  rcases hcase with ⟨g1, ⟨T, x, rfl⟩, rfl⟩ | ⟨g1, g2, rfl, rfl⟩
  · rw [if_pos g1]
    exact ⟨_, HSub.of [1] rfl, B', bc', .iface T x, rfl, rfl, .inr ⟨rfl, T, x, rfl⟩⟩
  · rw [if_neg (by omega)]
    exact ⟨_, HSub.of [1] rfl, B', bc', .nilIface, rfl, rfl, .inl ⟨rfl, rfl⟩⟩
theorem cmatch_spec (A : Option Addr) (n c : Nat) (ps : List Piece) (s : Nat) (B : Option Addr) (bl bc : Nat) (bs : List UInt8) (o m : Nat) (e : Addr) (hs1 : 1 ≤ s) (hs : s ≤ 1000000) (hj : (joined ps).length ≤ 1000000) (hbl : bl ≤ 1000000) (hm : m ≤ 100000) (ho : o ≤ 2147483647) :
    FnS Tryd.prog 7 [vI s, .slice A n c, .slice B bl bc, vI o, vI m] [] (fun w => Pieces w (blocks []) A n c ps ∧ Bytes w (blocks []) B bl bc bs ∧ LaidE w (blocks []) e)
      (fun v H => ∃ A1 c1, v = .tuple #[.slice A1 (cpOut (lastN s (joined ps)) bs o m).1.length c1, vB (cpOut (lastN s (joined ps)) bs o m).2] ∧ H = [.own A1 (cpOut (lastN s (joined ps)) bs o m).1.length c1 5 1 ((cpOut (lastN s (joined ps)) bs o m).1.map vU8)]) := by
  refine FnS.introD Tryd.func7 rfl (by kernel_rfl) rfl fun w hH ⟨hp, hB, hL⟩ => ?_
  obtain rfl : bs.length = bl := hB.len
  have e1 : IntKind.u32.wrap ((o : Nat) : Int) = ((o : Nat) : Int) := IntWalk.u32_in _ (by omega)
  have e2 : IntKind.u32.wrap ((m : Nat) : Int) = ((m : Nat) : Int) := IntWalk.u32_in _ (by omega)
  have hol : (cpOut (lastN s (joined ps)) bs o m).1.length ≤ 1100000 := by
    unfold cpOut
    split
    · dsimp only; omega
    · simp only [List.length_append, per_len]; omega
  (conv => whnf); repeat ((first | refine RngK.mk (by omega) (by omega) ?_ | refine NzK.mk (by omega) ?_ | refine NnK.mk (by omega) ?_ | refine BdK.mk (by omega) (by omega) (by omega) ?_ | refine InsK.lit (by omega) (by omega) ?_ | refine SpK.lit ?_ | refine GrdK.same ?_ | refine GrdK.tf ?_ | refine GrdK.ft ?_ | refine PickK.t ?_ | refine PickK.f ?_); (conv => whnf))
  refine EffK.lit0 rfl rfl fun b1 => ?_
  (conv => whnf); repeat ((first | refine RngK.mk (by omega) (by omega) ?_ | refine NzK.mk (by omega) ?_ | refine NnK.mk (by omega) ?_ | refine BdK.mk (by omega) (by omega) (by omega) ?_ | refine InsK.lit (by omega) (by omega) ?_ | refine SpK.lit ?_ | refine GrdK.same ?_ | refine GrdK.tf ?_ | refine GrdK.ft ?_ | refine PickK.t ?_ | refine PickK.f ?_); (conv => whnf))
  refine EffK.append 0 (news := bs.map vU8) rfl rfl rfl rfl rfl rfl rfl rfl (Src.rd hB.rd) vU8_one (by simp [maxLen]; omega) (by show (_ + _) * 1 ≤ _; omega) fun A5 c5 => ?_
  rw [Nat.zero_add, List.nil_append]
  (conv => whnf); repeat ((first | refine RngK.mk (by omega) (by omega) ?_ | refine NzK.mk (by omega) ?_ | refine NnK.mk (by omega) ?_ | refine BdK.mk (by omega) (by omega) (by omega) ?_ | refine InsK.lit (by omega) (by omega) ?_ | refine SpK.lit ?_ | refine GrdK.same ?_ | refine GrdK.tf ?_ | refine GrdK.ft ?_ | refine PickK.t ?_ | refine PickK.f ?_); (conv => whnf))
  rw [e1, e2]
  refine CallK.of [] (zzcopy_spec A n c ps s A5 bs.length c5 bs o m e hs1 hs hj hbl hm ho) rfl (fun w hw => ⟨hp.pass hw, Bytes.ofOwn hw 0 rfl, hL.pass hw⟩) ?_
  rintro _ _ ⟨A1, c1, err, rfl, rfl, herr⟩
  obtain ⟨⟨out, ok⟩, hout⟩ : ∃ x, cpOut (lastN s (joined ps)) bs o m = x := ⟨_, rfl⟩
  rw [hout] at herr hol ⊢
  dsimp only at herr hol ⊢
  (conv => whnf); repeat ((first | refine RngK.mk (by omega) (by omega) ?_ | refine NzK.mk (by omega) ?_ | refine NnK.mk (by omega) ?_ | refine BdK.mk (by omega) (by omega) (by omega) ?_ | refine InsK.lit (by omega) (by omega) ?_ | refine SpK.lit ?_ | refine GrdK.same ?_ | refine GrdK.tf ?_ | refine GrdK.ft ?_ | refine PickK.t ?_ | refine PickK.f ?_); (conv => whnf))
  refine DrwK.ord (by kernel_rfl) [1, 3, 4, 0, 2, 5, 6] (by kernel_rfl) ?_; conv => whnf
  (conv => whnf); repeat ((first | refine RngK.mk (by omega) (by omega) ?_ | refine NzK.mk (by omega) ?_ | refine NnK.mk (by omega) ?_ | refine BdK.mk (by omega) (by omega) (by omega) ?_ | refine InsK.lit (by omega) (by omega) ?_ | refine SpK.lit ?_ | refine GrdK.same ?_ | refine GrdK.tf ?_ | refine GrdK.ft ?_ | refine PickK.t ?_ | refine PickK.f ?_); (conv => whnf))
  rcases herr with ⟨rfl, rfl⟩ | ⟨rfl, T, x, rfl⟩
  · refine ValK.eqNil rfl ?_
    (conv => whnf); repeat ((first | refine RngK.mk (by omega) (by omega) ?_ | refine NzK.mk (by omega) ?_ | refine NnK.mk (by omega) ?_ | refine BdK.mk (by omega) (by omega) (by omega) ?_ | refine InsK.lit (by omega) (by omega) ?_ | refine SpK.lit ?_ | refine GrdK.same ?_ | refine GrdK.tf ?_ | refine GrdK.ft ?_ | refine PickK.t ?_ | refine PickK.f ?_); (conv => whnf))
    refine EffK.lit0 rfl rfl fun b2 => ?_
    (conv => whnf); repeat ((first | refine RngK.mk (by omega) (by omega) ?_ | refine NzK.mk (by omega) ?_ | refine NnK.mk (by omega) ?_ | refine BdK.mk (by omega) (by omega) (by omega) ?_ | refine InsK.lit (by omega) (by omega) ?_ | refine SpK.lit ?_ | refine GrdK.same ?_ | refine GrdK.tf ?_ | refine GrdK.ft ?_ | refine PickK.t ?_ | refine PickK.f ?_); (conv => whnf))
    refine EffK.append 0 (news := out.map vU8) rfl rfl rfl rfl rfl rfl rfl rfl (Src.ownW (k := 1) (sz := 1) rfl (by simp)) vU8_one (by simp [maxLen]; omega) (by show (_ + _) * 1 ≤ _; omega) fun A6 c6 => ?_
    rw [Nat.zero_add, List.nil_append]
    (conv => whnf); repeat ((first | refine RngK.mk (by omega) (by omega) ?_ | refine NzK.mk (by omega) ?_ | refine NnK.mk (by omega) ?_ | refine BdK.mk (by omega) (by omega) (by omega) ?_ | refine InsK.lit (by omega) (by omega) ?_ | refine SpK.lit ?_ | refine GrdK.same ?_ | refine GrdK.tf ?_ | refine GrdK.ft ?_ | refine PickK.t ?_ | refine PickK.f ?_); (conv => whnf))
    exact ⟨_, HSub.of [0] rfl, A6, c6, rfl, rfl⟩
  · refine ValK.eqIface rfl ?_
    (conv => whnf); repeat ((first | refine RngK.mk (by omega) (by omega) ?_ | refine NzK.mk (by omega) ?_ | refine NnK.mk (by omega) ?_ | refine BdK.mk (by omega) (by omega) (by omega) ?_ | refine InsK.lit (by omega) (by omega) ?_ | refine SpK.lit ?_ | refine GrdK.same ?_ | refine GrdK.tf ?_ | refine GrdK.ft ?_ | refine PickK.t ?_ | refine PickK.f ?_); (conv => whnf))
    refine EffK.lit0 rfl rfl fun b2 => ?_
    (conv => whnf); repeat ((first | refine RngK.mk (by omega) (by omega) ?_ | refine NzK.mk (by omega) ?_ | refine NnK.mk (by omega) ?_ | refine BdK.mk (by omega) (by omega) (by omega) ?_ | refine InsK.lit (by omega) (by omega) ?_ | refine SpK.lit ?_ | refine GrdK.same ?_ | refine GrdK.tf ?_ | refine GrdK.ft ?_ | refine PickK.t ?_ | refine PickK.f ?_); (conv => whnf))
    refine EffK.append 0 (news := out.map vU8) rfl rfl rfl rfl rfl rfl rfl rfl (Src.ownW (k := 1) (sz := 1) rfl (by simp)) vU8_one (by simp [maxLen]; omega) (by show (_ + _) * 1 ≤ _; omega) fun A6 c6 => ?_
    rw [Nat.zero_add, List.nil_append]
    (conv => whnf); repeat ((first | refine RngK.mk (by omega) (by omega) ?_ | refine NzK.mk (by omega) ?_ | refine NnK.mk (by omega) ?_ | refine BdK.mk (by omega) (by omega) (by omega) ?_ | refine InsK.lit (by omega) (by omega) ?_ | refine SpK.lit ?_ | refine GrdK.same ?_ | refine GrdK.tf ?_ | refine GrdK.ft ?_ | refine PickK.t ?_ | refine PickK.f ?_); (conv => whnf))
    exact ⟨_, HSub.of [0] rfl, A6, c6, rfl, rfl⟩
end Go.Proofs.YtkdfminibmdkgaaDoor
