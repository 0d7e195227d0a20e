/- What a window holds behind pieces. -/
import Derived.Test.YtkdfminibmdkgaaWb
import Derived.Test.YtkdfminibmdkgaaBa
namespace Go.Proofs.Ytkdfminibmdkgaa
open Go Go.Sx
set_option maxRecDepth 100000
theorem Src.ownAt {w0 : World} {W : Nat → Prop} {H : Hp} {k : Nat} {A B : Option Addr} {m cap : Nat} {E : TypeId} {sz : Nat} {xs news : List Value} {l q : Nat} (hk : H[k]? = some (.own A m cap E sz xs)) (hx : xs.length = m * sz) (hB : 0 < q → B = adv A (l * sz)) (hl : l + q ≤ m) (hn : news = (xs.drop (l * sz)).take (q * sz)) :
    Src w0 W H B q sz news := by
  rcases Nat.eq_zero_or_pos q with h0 | h0
  · subst h0
    refine ⟨by rw [hn]; simp, fun _ _ h => absurd h (by omega)⟩
  · have hB := hB h0
    refine Src.ownCut (l := l) (c := m) hk hx ?_ hl (Nat.le_refl _) hn
    unfold cutA
    rw [if_neg (by omega), hB]
theorem joined_take {ps : List Piece} {k : Nat} (hk : k < ps.length) : joined (ps.take (k + 1)) = joined (ps.take k) ++ ps[k].bs := by
  unfold joined; rw [List.take_succ_eq_append_getElem hk, List.flatMap_append]; simp
theorem joined_le {ps : List Piece} {k : Nat} (hk : k < ps.length) : ps[k].bs.length ≤ (joined ps).length := by
  have e : joined ps = joined (ps.take (k + 1)) ++ joined (ps.drop (k + 1)) := by
    simp only [joined, ← List.flatMap_append, List.take_append_drop]
  rw [e, joined_take hk]
  simp
  omega
def ownAll (H : Hp) : Prop := ∀ A m cap E sz xs, Chunk.own A m cap E sz xs ∈ H → OwnA A m cap
/-- a call by its contract; of the slices of its own that it leaves it is known how they lie -/
theorem CallK.ofA {P : Program} {w0 : World} {W : Nat → Prop} {H : Hp} (ks : List Nat) {f : FuncId} {args : List Value} {Hin Hr : Hp} {pre : World → Prop} {Q : Value → Hp → Prop} {K : Value → Hp → Prop} (hf : FnS P f args Hin pre Q) (hk : picks H ks = some (Hin, Hr))
    (hp : ∀ w, HInv w0 W (Hin ++ Hr) w → pre w) (h : ∀ v H', Q v H' → ownAll H' → restK H ks fun Hr => appK H' Hr fun H'' => K v H'') : CallK P w0 W H f args K :=
  CallK.of (Q := fun v H' => Q v H' ∧ ownAll H') ks (fun w h1 h2 => (hf w h1 h2).mono fun _ _ ⟨v, H', e, h3, h4⟩ => ⟨v, H', e, h3, h4, fun _ _ _ _ _ _ hm => OwnA.of (h3.hok.ok _ hm)⟩) hk hp fun v H' hq => h v H' hq.1 hq.2
theorem kept_spec (A : Option Addr) (n c : Nat) (ps : List Piece) (s : Nat) (hs : s ≤ 1000000) (hj : (joined ps).length ≤ 1000000) : FnS Try.prog 11 [vI s, .slice A n c] [] (fun w => Pieces w (blocks []) A n c ps)
    (fun v H => ∃ A0 c0, OwnA A0 (joined ps).length c0 ∧ v = .slice (cutA A0 ((joined ps).length - s) c0 1) ((joined ps).length - ((joined ps).length - s)) (c0 - ((joined ps).length - s)) ∧ H = [.own A0 (joined ps).length c0 5 1 ((joined ps).map vU8)]) := by
  refine FnS.introD Try.func11 rfl (by kernel_rfl) rfl fun w hH hp => ?_
  (conv => whnf); repeat ((first | refine RngK.mk (by omega) (by omega) ?_ | refine NzK.mk (by omega) ?_ | refine NnK.mk (by omega) ?_ | refine BdK.mk (by omega) (by omega) (by omega) ?_ | refine InsK.lit (by omega) (by omega) ?_ | refine SpK.lit ?_ | refine GrdK.same ?_ | refine GrdK.tf ?_ | refine GrdK.ft ?_ | refine PickK.t ?_ | refine PickK.f ?_); (conv => whnf))
  refine CallK.ofA [] (joined_spec A n c ps hj) rfl (fun w hw => hp.pass hw) ?_
  rintro _ _ ⟨A1, c1, rfl, rfl⟩ hA
  have hA := hA _ _ _ _ _ _ List.mem_cons_self
  have hAc := hA.1
  (conv => whnf); repeat ((first | refine RngK.mk (by omega) (by omega) ?_ | refine NzK.mk (by omega) ?_ | refine NnK.mk (by omega) ?_ | refine BdK.mk (by omega) (by omega) (by omega) ?_ | refine InsK.lit (by omega) (by omega) ?_ | refine SpK.lit ?_ | refine GrdK.same ?_ | refine GrdK.tf ?_ | refine GrdK.ft ?_ | refine PickK.t ?_ | refine PickK.f ?_); (conv => whnf))
  have em : (if ((joined ps).length : Int) - (s : Int) > 0 then ((joined ps).length : Int) - (s : Int) else 0) = (((joined ps).length - s : Nat) : Int) := by split <;> omega
  rw [em]
  (conv => whnf); repeat ((first | refine RngK.mk (by omega) (by omega) ?_ | refine NzK.mk (by omega) ?_ | refine NnK.mk (by omega) ?_ | refine BdK.mk (by omega) (by omega) (by omega) ?_ | refine InsK.lit (by omega) (by omega) ?_ | refine SpK.lit ?_ | refine GrdK.same ?_ | refine GrdK.tf ?_ | refine GrdK.ft ?_ | refine PickK.t ?_ | refine PickK.f ?_); (conv => whnf))
  refine SpK.own hA ?_
  rw [Int.toNat_natCast, Int.toNat_natCast]
  (conv => whnf); repeat ((first | refine RngK.mk (by omega) (by omega) ?_ | refine NzK.mk (by omega) ?_ | refine NnK.mk (by omega) ?_ | refine BdK.mk (by omega) (by omega) (by omega) ?_ | refine InsK.lit (by omega) (by omega) ?_ | refine SpK.lit ?_ | refine GrdK.same ?_ | refine GrdK.tf ?_ | refine GrdK.ft ?_ | refine PickK.t ?_ | refine PickK.f ?_); (conv => whnf))
  exact ⟨_, HSub.refl _, A1, c1, hA, rfl, rfl⟩
theorem saved_spec (A : Option Addr) (n c : Nat) (ps : List Piece) (s : Nat) (x y : Int) (hs1 : 1 ≤ s) (hs : s ≤ 1000000) (hj : (joined ps).length ≤ 1000000) :
    FnS Try.prog 9 [vI s, .slice A n c, vI x, vI y] [] (fun w => Pieces w (blocks []) A n c ps)
    (fun v H => ∃ A' c' L, L = 120 :: sub (lastN s (joined ps)) (min (x % (((lastN s (joined ps)).length : Nat) + 1)).toNat (y % (((lastN s (joined ps)).length : Nat) + 1)).toNat) (max (x % (((lastN s (joined ps)).length : Nat) + 1)).toNat (y % (((lastN s (joined ps)).length : Nat) + 1)).toNat) ∧
      v = .tuple #[vI (lastN s (joined ps)).length, .slice A' L.length c'] ∧ H = [.own A' L.length c' 5 1 (L.map vU8)]) := by
  refine FnS.introD Try.func9 rfl (by kernel_rfl) rfl fun w hH hp => ?_
  have hl := hp.len
  have hm1 := hp.le
  have hm2 := hp.max
  simp only [maxLen] at hm2
  (conv => whnf); repeat ((first | refine RngK.mk (by omega) (by omega) ?_ | refine NzK.mk (by omega) ?_ | refine NnK.mk (by omega) ?_ | refine BdK.mk (by omega) (by omega) (by omega) ?_ | refine InsK.lit (by omega) (by omega) ?_ | refine SpK.lit ?_ | refine GrdK.same ?_ | refine GrdK.tf ?_ | refine GrdK.ft ?_ | refine PickK.t ?_ | refine PickK.f ?_); (conv => whnf))
  refine CallK.of0 (New_spec s hs) ?_
  rintro _ _ ⟨b, D, dc, rfl, rfl⟩
  (conv => whnf); repeat ((first | refine RngK.mk (by omega) (by omega) ?_ | refine NzK.mk (by omega) ?_ | refine NnK.mk (by omega) ?_ | refine BdK.mk (by omega) (by omega) (by omega) ?_ | refine InsK.lit (by omega) (by omega) ?_ | refine SpK.lit ?_ | refine GrdK.same ?_ | refine GrdK.tf ?_ | refine GrdK.ft ?_ | refine PickK.t ?_ | refine PickK.f ?_); (conv => whnf))
  refine Wp.loop (fun t : Nat × Option Addr × Nat × List UInt8 × Nat => [(10, .pointer (some ⟨b, 0, none⟩)), (18, .slice A n c), (19, vI n), (20, vI t.1), (2, vI x), (3, vI y)])
    (fun t => wH b s t.2.1 t.2.2.1 t.2.2.2.1 t.2.2.2.2) (fun t => t.1 ≤ n ∧ Win s t.2.2.2.1 t.2.2.2.2 ∧ rot t.2.2.2.1 t.2.2.2.2 = lastN s (joined (ps.take t.1))) (fun t => n - t.1) (0, D, dc, [], 0)
    ⟨rfl, rfl, rfl, rfl, rfl, rfl, trivial⟩ (HSub.refl _) ⟨Nat.zero_le _, ⟨Nat.zero_le _, Nat.le_refl _, fun _ => rfl⟩, by simp [rot, lastN, joined]⟩ fun ⟨k, D, dc, data, off⟩ ⟨hk, hw, hrot⟩ => ?_
  dsimp only at hk hw hrot ⊢
  (conv => whnf); repeat ((first | refine RngK.mk (by omega) (by omega) ?_ | refine NzK.mk (by omega) ?_ | refine NnK.mk (by omega) ?_ | refine BdK.mk (by omega) (by omega) (by omega) ?_ | refine InsK.lit (by omega) (by omega) ?_ | refine SpK.lit ?_ | refine GrdK.same ?_ | refine GrdK.tf ?_ | refine GrdK.ft ?_ | refine PickK.t ?_ | refine PickK.f ?_); (conv => whnf))
  refine Wp.cond rfl (fun h => ?_) (fun h => ?_)
  · have h := dT h
    have hk' : k < ps.length := by omega
    have hb := hp.each _ (List.getElem_mem hk')
    have hjl := joined_le hk'
    have hbl := hb.len
    (conv => whnf); repeat ((first | refine RngK.mk (by omega) (by omega) ?_ | refine NzK.mk (by omega) ?_ | refine NnK.mk (by omega) ?_ | refine BdK.mk (by omega) (by omega) (by omega) ?_ | refine InsK.lit (by omega) (by omega) ?_ | refine SpK.lit ?_ | refine GrdK.same ?_ | refine GrdK.tf ?_ | refine GrdK.ft ?_ | refine PickK.t ?_ | refine PickK.f ?_); (conv => whnf))
    refine InsK.rd hp.rd (by omega) (by omega) ?_
    (conv => whnf); repeat ((first | refine RngK.mk (by omega) (by omega) ?_ | refine NzK.mk (by omega) ?_ | refine NnK.mk (by omega) ?_ | refine BdK.mk (by omega) (by omega) (by omega) ?_ | refine InsK.lit (by omega) (by omega) ?_ | refine SpK.lit ?_ | refine GrdK.same ?_ | refine GrdK.tf ?_ | refine GrdK.ft ?_ | refine PickK.t ?_ | refine PickK.f ?_); (conv => whnf))
    refine LdK.rd hp.rd k rfl rfl rfl (piece_at hk') ?_
    (conv => whnf); repeat ((first | refine RngK.mk (by omega) (by omega) ?_ | refine NzK.mk (by omega) ?_ | refine NnK.mk (by omega) ?_ | refine BdK.mk (by omega) (by omega) (by omega) ?_ | refine InsK.lit (by omega) (by omega) ?_ | refine SpK.lit ?_ | refine GrdK.same ?_ | refine GrdK.tf ?_ | refine GrdK.ft ?_ | refine PickK.t ?_ | refine PickK.f ?_); (conv => whnf))
    refine CallK.of [0, 0] (Save_spec b s D dc data off ps[k].A ps[k].n ps[k].c ps[k].bs hw (by omega) (by omega) (by omega)) rfl (fun w hw => hb.pass hw) ?_
    rintro _ _ ⟨rfl, D', dc', data', off', w1, w2, rfl⟩
    rw [hrot, lastN_app, ← joined_take hk'] at w2
    (conv => whnf); repeat ((first | refine RngK.mk (by omega) (by omega) ?_ | refine NzK.mk (by omega) ?_ | refine NnK.mk (by omega) ?_ | refine BdK.mk (by omega) (by omega) (by omega) ?_ | refine InsK.lit (by omega) (by omega) ?_ | refine SpK.lit ?_ | refine GrdK.same ?_ | refine GrdK.tf ?_ | refine GrdK.ft ?_ | refine PickK.t ?_ | refine PickK.f ?_); (conv => whnf))
    exact ⟨(k + 1, D', dc', data', off'), ⟨rfl, rfl, rfl, rfl, rfl, rfl, trivial⟩, HSub.refl _, ⟨by simp only; omega, w1, w2⟩, by simp only; omega⟩
  · have h := dF h
    (conv => whnf); repeat ((first | refine RngK.mk (by omega) (by omega) ?_ | refine NzK.mk (by omega) ?_ | refine NnK.mk (by omega) ?_ | refine BdK.mk (by omega) (by omega) (by omega) ?_ | refine InsK.lit (by omega) (by omega) ?_ | refine SpK.lit ?_ | refine GrdK.same ?_ | refine GrdK.tf ?_ | refine GrdK.ft ?_ | refine PickK.t ?_ | refine PickK.f ?_); (conv => whnf))
    rw [List.take_of_length_le (by omega)] at hrot
    have hdl := hw.len
    have hle := hw.le
    have hon := hw.on
    rw [hrot] at hdl
    obtain ⟨K, hK⟩ : ∃ K, lastN s (joined ps) = K := ⟨_, rfl⟩
    rw [hK] at hrot hdl ⊢
    refine CallK.of [0, 0] (Len_spec b s D dc data off (by omega)) rfl (fun _ _ => trivial) ?_
    rintro _ _ ⟨rfl, rfl⟩
    (conv => whnf); repeat ((first | refine RngK.mk (by omega) (by omega) ?_ | refine NzK.mk (by omega) ?_ | refine NnK.mk (by omega) ?_ | refine BdK.mk (by omega) (by omega) (by omega) ?_ | refine InsK.lit (by omega) (by omega) ?_ | refine SpK.lit ?_ | refine GrdK.same ?_ | refine GrdK.tf ?_ | refine GrdK.ft ?_ | refine PickK.t ?_ | refine PickK.f ?_); (conv => whnf))
    rw [← hdl]
    have hKl : K.length ≤ 1000000 := by omega
    have hk0 : (0 : Int) < (K.length : Int) + 1 := by omega
    have hx1 := Int.tmod_lt_of_pos x hk0
    have hx2 := Int.lt_tmod_of_pos x hk0
    have hy1 := Int.tmod_lt_of_pos y hk0
    have hy2 := Int.lt_tmod_of_pos y hk0
    have hx3 := Int.emod_nonneg x (show (K.length : Int) + 1 ≠ 0 by omega)
    have hx4 := Int.emod_lt_of_pos x hk0
    have hy3 := Int.emod_nonneg y (show (K.length : Int) + 1 ≠ 0 by omega)
    have hy4 := Int.emod_lt_of_pos y hk0
    have ex : (x.tmod ((K.length : Int) + 1) + (K.length : Int) + 1).tmod ((K.length : Int) + 1) = x % ((K.length : Int) + 1) := by rw [Int.add_assoc]; exact mod17 x _ hk0
    have ey : (y.tmod ((K.length : Int) + 1) + (K.length : Int) + 1).tmod ((K.length : Int) + 1) = y % ((K.length : Int) + 1) := by rw [Int.add_assoc]; exact mod17 y _ hk0
    refine DrwK.ord (by kernel_rfl) [0, 1, 2, 3, 4, 5, 6, 7, 8, 9, 10, 11, 12, 13, 14, 15, 16, 17, 18, 19, 20, 21] (by kernel_rfl) ?_; conv => whnf
    (conv => whnf); repeat ((first | refine RngK.mk (by omega) (by omega) ?_ | refine NzK.mk (by omega) ?_ | refine NnK.mk (by omega) ?_ | refine BdK.mk (by omega) (by omega) (by omega) ?_ | refine InsK.lit (by omega) (by omega) ?_ | refine SpK.lit ?_ | refine GrdK.same ?_ | refine GrdK.tf ?_ | refine GrdK.ft ?_ | refine PickK.t ?_ | refine PickK.f ?_); (conv => whnf))
    rw [ex, ey]
    refine EffK.litV rfl rfl rfl rfl rfl rfl rfl rfl rfl ?_
    clear hx1 hx2 hy1 hy2 ex ey
    obtain ⟨a0, ha0⟩ := Int.eq_ofNat_of_zero_le hx3
    obtain ⟨b0, hb0⟩ := Int.eq_ofNat_of_zero_le hy3
    rw [ha0] at hx4
    rw [hb0] at hy4
    rw [ha0, hb0]
    have et1 : ((a0 : Nat) : Int).toNat = a0 := by omega
    have et2 : ((b0 : Nat) : Int).toNat = b0 := by omega
    rw [et1, et2]
    (conv => whnf); repeat ((first | refine RngK.mk (by omega) (by omega) ?_ | refine NzK.mk (by omega) ?_ | refine NnK.mk (by omega) ?_ | refine BdK.mk (by omega) (by omega) (by omega) ?_ | refine InsK.lit (by omega) (by omega) ?_ | refine SpK.lit ?_ | refine GrdK.same ?_ | refine GrdK.tf ?_ | refine GrdK.ft ?_ | refine PickK.t ?_ | refine PickK.f ?_); (conv => whnf))
    intro b1
    (conv => whnf); repeat ((first | refine RngK.mk (by omega) (by omega) ?_ | refine NzK.mk (by omega) ?_ | refine NnK.mk (by omega) ?_ | refine BdK.mk (by omega) (by omega) (by omega) ?_ | refine InsK.lit (by omega) (by omega) ?_ | refine SpK.lit ?_ | refine GrdK.same ?_ | refine GrdK.tf ?_ | refine GrdK.ft ?_ | refine PickK.t ?_ | refine PickK.f ?_); (conv => whnf))
    have emin : IntKind.u32.wrap (if (b0 : Int) < (a0 : Int) then (b0 : Int) else (a0 : Int)) = ((min a0 b0 : Nat) : Int) := by
      split
      · rw [IntWalk.u32_in _ (by omega)]; omega
      · rw [IntWalk.u32_in _ (by omega)]; omega
    have emax : IntKind.u32.wrap (if (b0 : Int) > (a0 : Int) then (b0 : Int) else (a0 : Int)) = ((max a0 b0 : Nat) : Int) := by
      split
      · rw [IntWalk.u32_in _ (by omega)]; omega
      · rw [IntWalk.u32_in _ (by omega)]; omega
    rw [emin, emax, hdl]
    refine CallK.of [1, 1, 0] (AppendTo_spec b s D dc data off (some ⟨b1, 0, none⟩) 1 1 [120] (min a0 b0) (max a0 b0) (by omega) hon rfl (by omega) (by omega) (by omega)) rfl (fun _ _ => trivial) ?_
    rintro _ _ ⟨A', c', rfl, rfl⟩
    rw [hrot]
    (conv => whnf); repeat ((first | refine RngK.mk (by omega) (by omega) ?_ | refine NzK.mk (by omega) ?_ | refine NnK.mk (by omega) ?_ | refine BdK.mk (by omega) (by omega) (by omega) ?_ | refine InsK.lit (by omega) (by omega) ?_ | refine SpK.lit ?_ | refine GrdK.same ?_ | refine GrdK.tf ?_ | refine GrdK.ft ?_ | refine PickK.t ?_ | refine PickK.f ?_); (conv => whnf))
    exact ⟨_, HSub.of [0] rfl, A', c', _, rfl, rfl, rfl⟩
theorem again_spec (A : Option Addr) (n c : Nat) (ps : List Piece) (B : Option Addr) (m c' : Nat) (qs : List Piece) (s0 s : Nat) (h01 : 1 ≤ s0) (h0 : s0 ≤ 1000000) (hs1 : 1 ≤ s) (hs : s ≤ 1000000) (hj : (joined ps).length ≤ 1000000) (hj2 : (joined qs).length ≤ 1000000) :
    FnS Try.prog 13 [vI s0, .slice A n c, vI s, .slice B m c'] [] (fun w => Pieces w (blocks []) A n c ps ∧ Pieces w (blocks []) B m c' qs)
    (OwnU8 5 (lastN s (joined qs))) := by
  refine FnS.introD Try.func13 rfl (by kernel_rfl) rfl fun w hH ⟨hp, hp2⟩ => ?_
  have hl := hp.len
  have hl2 := hp2.len
  have hm1 := hp.le
  have hm2 := hp.max
  have hm3 := hp2.le
  have hm4 := hp2.max
  simp only [maxLen] at hm2 hm4
  (conv => whnf); repeat ((first | refine RngK.mk (by omega) (by omega) ?_ | refine NzK.mk (by omega) ?_ | refine NnK.mk (by omega) ?_ | refine BdK.mk (by omega) (by omega) (by omega) ?_ | refine InsK.lit (by omega) (by omega) ?_ | refine SpK.lit ?_ | refine GrdK.same ?_ | refine GrdK.tf ?_ | refine GrdK.ft ?_ | refine PickK.t ?_ | refine PickK.f ?_); (conv => whnf))
  refine CallK.of0 (New_spec s0 h0) ?_
  rintro _ _ ⟨b, D, dc, rfl, rfl⟩
  (conv => whnf); repeat ((first | refine RngK.mk (by omega) (by omega) ?_ | refine NzK.mk (by omega) ?_ | refine NnK.mk (by omega) ?_ | refine BdK.mk (by omega) (by omega) (by omega) ?_ | refine InsK.lit (by omega) (by omega) ?_ | refine SpK.lit ?_ | refine GrdK.same ?_ | refine GrdK.tf ?_ | refine GrdK.ft ?_ | refine PickK.t ?_ | refine PickK.f ?_); (conv => whnf))
  refine Wp.loop (fun t : Nat × Option Addr × Nat × List UInt8 × Nat => [(9, .pointer (some ⟨b, 0, none⟩)), (16, .slice A n c), (17, vI n), (18, vI t.1), (2, vI s), (3, .slice B m c')])
    (fun t => wH b s0 t.2.1 t.2.2.1 t.2.2.2.1 t.2.2.2.2) (fun t => t.1 ≤ n ∧ Win s0 t.2.2.2.1 t.2.2.2.2 ∧ rot t.2.2.2.1 t.2.2.2.2 = lastN s0 (joined (ps.take t.1))) (fun t => n - t.1) (0, D, dc, [], 0)
    ⟨rfl, rfl, rfl, rfl, rfl, rfl, trivial⟩ (HSub.refl _) ⟨Nat.zero_le _, ⟨Nat.zero_le _, Nat.le_refl _, fun _ => rfl⟩, by simp [rot, lastN, joined]⟩ fun ⟨k, D, dc, data, off⟩ ⟨hk, hw, hrot⟩ => ?_
  dsimp only at hk hw hrot ⊢
  (conv => whnf); repeat ((first | refine RngK.mk (by omega) (by omega) ?_ | refine NzK.mk (by omega) ?_ | refine NnK.mk (by omega) ?_ | refine BdK.mk (by omega) (by omega) (by omega) ?_ | refine InsK.lit (by omega) (by omega) ?_ | refine SpK.lit ?_ | refine GrdK.same ?_ | refine GrdK.tf ?_ | refine GrdK.ft ?_ | refine PickK.t ?_ | refine PickK.f ?_); (conv => whnf))
  refine Wp.cond rfl (fun h => ?_) (fun h => ?_)
  · have h := dT h
    have hk' : k < ps.length := by omega
    have hb := hp.each _ (List.getElem_mem hk')
    have hjl := joined_le hk'
    have hbl := hb.len
    (conv => whnf); repeat ((first | refine RngK.mk (by omega) (by omega) ?_ | refine NzK.mk (by omega) ?_ | refine NnK.mk (by omega) ?_ | refine BdK.mk (by omega) (by omega) (by omega) ?_ | refine InsK.lit (by omega) (by omega) ?_ | refine SpK.lit ?_ | refine GrdK.same ?_ | refine GrdK.tf ?_ | refine GrdK.ft ?_ | refine PickK.t ?_ | refine PickK.f ?_); (conv => whnf))
    refine InsK.rd hp.rd (by omega) (by omega) ?_
    (conv => whnf); repeat ((first | refine RngK.mk (by omega) (by omega) ?_ | refine NzK.mk (by omega) ?_ | refine NnK.mk (by omega) ?_ | refine BdK.mk (by omega) (by omega) (by omega) ?_ | refine InsK.lit (by omega) (by omega) ?_ | refine SpK.lit ?_ | refine GrdK.same ?_ | refine GrdK.tf ?_ | refine GrdK.ft ?_ | refine PickK.t ?_ | refine PickK.f ?_); (conv => whnf))
    refine LdK.rd hp.rd k rfl rfl rfl (piece_at hk') ?_
    (conv => whnf); repeat ((first | refine RngK.mk (by omega) (by omega) ?_ | refine NzK.mk (by omega) ?_ | refine NnK.mk (by omega) ?_ | refine BdK.mk (by omega) (by omega) (by omega) ?_ | refine InsK.lit (by omega) (by omega) ?_ | refine SpK.lit ?_ | refine GrdK.same ?_ | refine GrdK.tf ?_ | refine GrdK.ft ?_ | refine PickK.t ?_ | refine PickK.f ?_); (conv => whnf))
    refine CallK.of [0, 0] (Save_spec b s0 D dc data off ps[k].A ps[k].n ps[k].c ps[k].bs hw (by omega) (by omega) (by omega)) rfl (fun w hw => hb.pass hw) ?_
    rintro _ _ ⟨rfl, D', dc', data', off', w1, w2, rfl⟩
    rw [hrot, lastN_app, ← joined_take hk'] at w2
    (conv => whnf); repeat ((first | refine RngK.mk (by omega) (by omega) ?_ | refine NzK.mk (by omega) ?_ | refine NnK.mk (by omega) ?_ | refine BdK.mk (by omega) (by omega) (by omega) ?_ | refine InsK.lit (by omega) (by omega) ?_ | refine SpK.lit ?_ | refine GrdK.same ?_ | refine GrdK.tf ?_ | refine GrdK.ft ?_ | refine PickK.t ?_ | refine PickK.f ?_); (conv => whnf))
    exact ⟨(k + 1, D', dc', data', off'), ⟨rfl, rfl, rfl, rfl, rfl, rfl, trivial⟩, HSub.refl _, ⟨by simp only; omega, w1, w2⟩, by simp only; omega⟩
  · clear hw hrot
    (conv => whnf); repeat ((first | refine RngK.mk (by omega) (by omega) ?_ | refine NzK.mk (by omega) ?_ | refine NnK.mk (by omega) ?_ | refine BdK.mk (by omega) (by omega) (by omega) ?_ | refine InsK.lit (by omega) (by omega) ?_ | refine SpK.lit ?_ | refine GrdK.same ?_ | refine GrdK.tf ?_ | refine GrdK.ft ?_ | refine PickK.t ?_ | refine PickK.f ?_); (conv => whnf))
    refine CallK.of [0, 0] (Reset_spec b s0 s D dc data off hs) rfl (fun _ _ => trivial) ?_
    rintro _ _ ⟨rfl, D, dc, rfl⟩
    (conv => whnf); repeat ((first | refine RngK.mk (by omega) (by omega) ?_ | refine NzK.mk (by omega) ?_ | refine NnK.mk (by omega) ?_ | refine BdK.mk (by omega) (by omega) (by omega) ?_ | refine InsK.lit (by omega) (by omega) ?_ | refine SpK.lit ?_ | refine GrdK.same ?_ | refine GrdK.tf ?_ | refine GrdK.ft ?_ | refine PickK.t ?_ | refine PickK.f ?_); (conv => whnf))
    refine Wp.loop (fun t : Nat × Option Addr × Nat × List UInt8 × Nat => [(9, .pointer (some ⟨b, 0, none⟩)), (29, .slice B m c'), (30, vI m), (31, vI t.1)])
      (fun t => wH b s t.2.1 t.2.2.1 t.2.2.2.1 t.2.2.2.2) (fun t => t.1 ≤ m ∧ Win s t.2.2.2.1 t.2.2.2.2 ∧ rot t.2.2.2.1 t.2.2.2.2 = lastN s (joined (qs.take t.1))) (fun t => m - t.1) (0, D, dc, [], 0)
      ⟨rfl, rfl, rfl, rfl, trivial⟩ (HSub.refl _) ⟨Nat.zero_le _, ⟨Nat.zero_le _, Nat.le_refl _, fun _ => rfl⟩, by simp [rot, lastN, joined]⟩ fun ⟨k, D, dc, data, off⟩ ⟨hk, hw, hrot⟩ => ?_
    dsimp only at hk hw hrot ⊢
    (conv => whnf); repeat ((first | refine RngK.mk (by omega) (by omega) ?_ | refine NzK.mk (by omega) ?_ | refine NnK.mk (by omega) ?_ | refine BdK.mk (by omega) (by omega) (by omega) ?_ | refine InsK.lit (by omega) (by omega) ?_ | refine SpK.lit ?_ | refine GrdK.same ?_ | refine GrdK.tf ?_ | refine GrdK.ft ?_ | refine PickK.t ?_ | refine PickK.f ?_); (conv => whnf))
    refine Wp.cond rfl (fun h => ?_) (fun h => ?_)
    · have h := dT h
      have hk' : k < qs.length := by omega
      have hb := hp2.each _ (List.getElem_mem hk')
      have hjl := joined_le hk'
      have hbl := hb.len
      (conv => whnf); repeat ((first | refine RngK.mk (by omega) (by omega) ?_ | refine NzK.mk (by omega) ?_ | refine NnK.mk (by omega) ?_ | refine BdK.mk (by omega) (by omega) (by omega) ?_ | refine InsK.lit (by omega) (by omega) ?_ | refine SpK.lit ?_ | refine GrdK.same ?_ | refine GrdK.tf ?_ | refine GrdK.ft ?_ | refine PickK.t ?_ | refine PickK.f ?_); (conv => whnf))
      refine InsK.rd hp2.rd (by omega) (by omega) ?_
      (conv => whnf); repeat ((first | refine RngK.mk (by omega) (by omega) ?_ | refine NzK.mk (by omega) ?_ | refine NnK.mk (by omega) ?_ | refine BdK.mk (by omega) (by omega) (by omega) ?_ | refine InsK.lit (by omega) (by omega) ?_ | refine SpK.lit ?_ | refine GrdK.same ?_ | refine GrdK.tf ?_ | refine GrdK.ft ?_ | refine PickK.t ?_ | refine PickK.f ?_); (conv => whnf))
      refine LdK.rd hp2.rd k rfl rfl rfl (piece_at hk') ?_
      (conv => whnf); repeat ((first | refine RngK.mk (by omega) (by omega) ?_ | refine NzK.mk (by omega) ?_ | refine NnK.mk (by omega) ?_ | refine BdK.mk (by omega) (by omega) (by omega) ?_ | refine InsK.lit (by omega) (by omega) ?_ | refine SpK.lit ?_ | refine GrdK.same ?_ | refine GrdK.tf ?_ | refine GrdK.ft ?_ | refine PickK.t ?_ | refine PickK.f ?_); (conv => whnf))
      refine CallK.of [0, 0] (Save_spec b s D dc data off qs[k].A qs[k].n qs[k].c qs[k].bs hw (by omega) (by omega) (by omega)) rfl (fun w hw => hb.pass hw) ?_
      rintro _ _ ⟨rfl, D', dc', data', off', w1, w2, rfl⟩
      rw [hrot, lastN_app, ← joined_take hk'] at w2
      (conv => whnf); repeat ((first | refine RngK.mk (by omega) (by omega) ?_ | refine NzK.mk (by omega) ?_ | refine NnK.mk (by omega) ?_ | refine BdK.mk (by omega) (by omega) (by omega) ?_ | refine InsK.lit (by omega) (by omega) ?_ | refine SpK.lit ?_ | refine GrdK.same ?_ | refine GrdK.tf ?_ | refine GrdK.ft ?_ | refine PickK.t ?_ | refine PickK.f ?_); (conv => whnf))
      exact ⟨(k + 1, D', dc', data', off'), ⟨rfl, rfl, rfl, rfl, trivial⟩, HSub.refl _, ⟨by simp only; omega, w1, w2⟩, by simp only; omega⟩
    · have h := dF h
      rw [List.take_of_length_le (by omega)] at hrot
      have hdl := hw.len
      have hle := hw.le
      have hon := hw.on
      rw [hrot] at hdl
      (conv => whnf); repeat ((first | refine RngK.mk (by omega) (by omega) ?_ | refine NzK.mk (by omega) ?_ | refine NnK.mk (by omega) ?_ | refine BdK.mk (by omega) (by omega) (by omega) ?_ | refine InsK.lit (by omega) (by omega) ?_ | refine SpK.lit ?_ | refine GrdK.same ?_ | refine GrdK.tf ?_ | refine GrdK.ft ?_ | refine PickK.t ?_ | refine PickK.f ?_); (conv => whnf))
      refine CallK.of [0, 0] (Len_spec b s D dc data off (by omega)) rfl (fun _ _ => trivial) ?_
      rintro _ _ ⟨rfl, rfl⟩
      (conv => whnf); repeat ((first | refine RngK.mk (by omega) (by omega) ?_ | refine NzK.mk (by omega) ?_ | refine NnK.mk (by omega) ?_ | refine BdK.mk (by omega) (by omega) (by omega) ?_ | refine InsK.lit (by omega) (by omega) ?_ | refine SpK.lit ?_ | refine GrdK.same ?_ | refine GrdK.tf ?_ | refine GrdK.ft ?_ | refine PickK.t ?_ | refine PickK.f ?_); (conv => whnf))
      refine CallK.nil 5 1 ?_
      refine CallK.of [1, 1, 0] (AppendTo_spec b s D dc data off none 0 0 [] 0 data.length (by omega) hon rfl (by omega) (by omega) (by omega)) rfl (fun _ _ => trivial) ?_
      rintro _ _ ⟨A', c'', rfl, rfl⟩
      have e : [] ++ sub (rot data off) 0 data.length = lastN s (joined qs) := by
        rw [hrot, ← hdl, List.nil_append]
        simp [sub]
      rw [e]
      (conv => whnf); repeat ((first | refine RngK.mk (by omega) (by omega) ?_ | refine NzK.mk (by omega) ?_ | refine NnK.mk (by omega) ?_ | refine BdK.mk (by omega) (by omega) (by omega) ?_ | refine InsK.lit (by omega) (by omega) ?_ | refine SpK.lit ?_ | refine GrdK.same ?_ | refine GrdK.tf ?_ | refine GrdK.ft ?_ | refine PickK.t ?_ | refine PickK.f ?_); (conv => whnf))
      exact ⟨_, HSub.of [0] rfl, A', c'', rfl, rfl⟩
end Go.Proofs.Ytkdfminibmdkgaa
