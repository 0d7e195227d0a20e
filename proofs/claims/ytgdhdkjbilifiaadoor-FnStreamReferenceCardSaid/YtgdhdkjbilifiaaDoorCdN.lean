/- The reference's tables of codes: the lowest weight, the table, tables that are the same. -/
import Derived.Test.YtgdhdkjbilifiaaDoorCdK
import Derived.Test.YtgdhdkjbilifiaaDoorStD
namespace Go.Proofs.YtgdhdkjbilifiaaDoor
open Go Go.Sx
set_option maxRecDepth 100000
theorem cdE_flat (l : List Cd) : cdE l = flat (l.map fun x => [(x.1 : Int), (x.2 : Int)]) := by
  unfold cdE flat
  rw [List.flatMap_map]
  rfl
theorem pair_inj : Function.Injective (fun x : Cd => [(x.1 : Int), (x.2 : Int)]) := by
  rintro ⟨a, b⟩ ⟨c, d⟩ h
  simp only [List.cons.injEq, and_true] at h
  obtain ⟨h1, h2⟩ := h
  have h1 : a = c := by omega
  have h2 : b = d := by omega
  rw [h1, h2]
theorem map_inj {α β : Type} {f : α → β} (hf : ∀ a b, f a = f b → a = b) : ∀ {x y : List α}, x.map f = y.map f → x = y
  | [], [], _ => rfl
  | [], _ :: _, h => by cases h
  | _ :: _, [], h => by cases h
  | a :: x, b :: y, h => by
    simp only [List.map_cons, List.cons.injEq] at h
    rw [hf _ _ h.1, map_inj hf h.2]
theorem sameCodes_spec (A B : Option Addr) (c c' : Nat) (xs ys : List Cd) : FnS Tryd.prog 20 [.slice A xs.length c, .slice B ys.length c'] []
    (fun w => Rd w (blocks []) A xs.length 2 (cdE xs) ∧ Rd w (blocks []) B ys.length 2 (cdE ys) ∧ xs.length ≤ 1000000) (Is (vB (decide (xs = ys)))) := by
  have h := sameFlat_spec A B xs.length ys.length c c' (xs.map fun x => [(x.1 : Int), (x.2 : Int)]) (ys.map fun x => [(x.1 : Int), (x.2 : Int)]) (fun r hr => by obtain ⟨x, _, rfl⟩ := List.mem_map.1 hr; rfl) (fun r hr => by obtain ⟨x, _, rfl⟩ := List.mem_map.1 hr; rfl)
  rw [← cdE_flat, ← cdE_flat] at h
  refine h.mono (fun _ hw => hw) ?_
  rintro v H ⟨rfl, rfl⟩
  refine ⟨?_, rfl⟩
  by_cases e : xs = ys
  · rw [decide_eq_true e, decide_eq_true (by rw [e])]
  · rw [decide_eq_false e, decide_eq_false fun h => e (map_inj (fun a b h => pair_inj h) h)]
theorem lowest_spec (A : Option Addr) (c : Nat) (ws : List Nat) (hn : ws.length ≤ 2000000) : FnS Tryd.prog 18 [.slice A ws.length c] [] (fun w => Rd w (blocks []) A ws.length 1 (ws.map vN)) (Is (vB (decide (1 ∈ ws)))) := by
  refine FnS.introD Tryd.func18 rfl (by kernel_rfl) rfl fun w hH hp => ?_
  obtain ⟨R, hR⟩ : ∃ R, decide (1 ∈ ws) = R := ⟨_, rfl⟩
  rw [hR]
  (conv => whnf); repeat ((first | refine RngK.mk (by omega) (by omega) ?_ | refine NzK.mk (by omega) ?_ | refine NnK.mk (by omega) ?_ | refine BdK.mk (by omega) (by omega) (by omega) ?_ | refine InsK.lit (by omega) (by omega) ?_ | refine SpK.lit ?_ | refine GrdK.same ?_ | refine GrdK.tf ?_ | refine GrdK.ft ?_ | refine PickK.t ?_ | refine PickK.f ?_); (conv => whnf))
  refine Wp.loop (fun k : Nat => [(5, .slice A ws.length c), (6, vN ws.length), (7, vN k)]) (fun _ => []) (fun k => k ≤ ws.length ∧ decide (1 ∈ ws.drop k) = R) (fun k => ws.length - k) 0
    ⟨rfl, rfl, rfl, trivial⟩ (HSub.refl _) ⟨Nat.zero_le _, hR⟩ fun k ⟨hk, hd⟩ => ?_
  (conv => whnf); repeat ((first | refine RngK.mk (by omega) (by omega) ?_ | refine NzK.mk (by omega) ?_ | refine NnK.mk (by omega) ?_ | refine BdK.mk (by omega) (by omega) (by omega) ?_ | refine InsK.lit (by omega) (by omega) ?_ | refine SpK.lit ?_ | refine GrdK.same ?_ | refine GrdK.tf ?_ | refine GrdK.ft ?_ | refine PickK.t ?_ | refine PickK.f ?_); (conv => whnf))
  refine Wp.cond rfl (fun h => ?_) (fun h => ?_)
  · have h := dT h
    have hk' : k < ws.length := by omega
    have hcell : (ws.map vN)[k]? = some (vN ws[k]) := by simp [hk']
    rw [drop_at hk'] at hd
    obtain ⟨x, hx⟩ : ∃ x, ws[k] = x := ⟨_, rfl⟩
    rw [hx] at hcell hd
    (conv => whnf); repeat ((first | refine RngK.mk (by omega) (by omega) ?_ | refine NzK.mk (by omega) ?_ | refine NnK.mk (by omega) ?_ | refine BdK.mk (by omega) (by omega) (by omega) ?_ | refine InsK.lit (by omega) (by omega) ?_ | refine SpK.lit ?_ | refine GrdK.same ?_ | refine GrdK.tf ?_ | refine GrdK.ft ?_ | refine PickK.t ?_ | refine PickK.f ?_); (conv => whnf))
    refine InsK.rd hp (by omega) (by omega) ?_
    (conv => whnf); repeat ((first | refine RngK.mk (by omega) (by omega) ?_ | refine NzK.mk (by omega) ?_ | refine NnK.mk (by omega) ?_ | refine BdK.mk (by omega) (by omega) (by omega) ?_ | refine InsK.lit (by omega) (by omega) ?_ | refine SpK.lit ?_ | refine GrdK.same ?_ | refine GrdK.tf ?_ | refine GrdK.ft ?_ | refine PickK.t ?_ | refine PickK.f ?_); (conv => whnf))
    refine LdK.rd (v := vN x) hp k rfl rfl rfl hcell ?_
    (conv => whnf); repeat ((first | refine RngK.mk (by omega) (by omega) ?_ | refine NzK.mk (by omega) ?_ | refine NnK.mk (by omega) ?_ | refine BdK.mk (by omega) (by omega) (by omega) ?_ | refine InsK.lit (by omega) (by omega) ?_ | refine SpK.lit ?_ | refine GrdK.same ?_ | refine GrdK.tf ?_ | refine GrdK.ft ?_ | refine PickK.t ?_ | refine PickK.f ?_); (conv => whnf))
    refine Wp.cond rfl (fun h => ?_) (fun h => ?_)
    · have h : ((x : Nat) : Int) = 1 := eqT h
      obtain rfl : x = 1 := by omega
      (conv => whnf); repeat ((first | refine RngK.mk (by omega) (by omega) ?_ | refine NzK.mk (by omega) ?_ | refine NnK.mk (by omega) ?_ | refine BdK.mk (by omega) (by omega) (by omega) ?_ | refine InsK.lit (by omega) (by omega) ?_ | refine SpK.lit ?_ | refine GrdK.same ?_ | refine GrdK.tf ?_ | refine GrdK.ft ?_ | refine PickK.t ?_ | refine PickK.f ?_); (conv => whnf))
      exact ⟨[], HSub.nil _, by rw [← hd]; simp, rfl⟩
    · have h : ((x : Nat) : Int) ≠ 1 := eqF h
      (conv => whnf); repeat ((first | refine RngK.mk (by omega) (by omega) ?_ | refine NzK.mk (by omega) ?_ | refine NnK.mk (by omega) ?_ | refine BdK.mk (by omega) (by omega) (by omega) ?_ | refine InsK.lit (by omega) (by omega) ?_ | refine SpK.lit ?_ | refine GrdK.same ?_ | refine GrdK.tf ?_ | refine GrdK.ft ?_ | refine PickK.t ?_ | refine PickK.f ?_); (conv => whnf))
      refine ⟨k + 1, ⟨rfl, rfl, rfl, trivial⟩, HSub.refl _, ⟨by omega, ?_⟩, by omega⟩
      rw [← hd]
      have : ¬ 1 = x := by omega
      simp [this]
  · have h := dF h
    rw [List.drop_of_length_le (by omega)] at hd
    (conv => whnf); repeat ((first | refine RngK.mk (by omega) (by omega) ?_ | refine NzK.mk (by omega) ?_ | refine NnK.mk (by omega) ?_ | refine BdK.mk (by omega) (by omega) (by omega) ?_ | refine InsK.lit (by omega) (by omega) ?_ | refine SpK.lit ?_ | refine GrdK.same ?_ | refine GrdK.tf ?_ | refine GrdK.ft ?_ | refine PickK.t ?_ | refine PickK.f ?_); (conv => whnf))
    exact ⟨[], HSub.nil _, by rw [← hd]; rfl, rfl⟩
set_option maxHeartbeats 1000000 in
theorem codeTable_spec (A : Option Addr) (c : Nat) (ws all : List Nat) (b : Nat) (hW : Whl ws all b) (hn : all.length ≤ 2000000) : FnS Tryd.prog 21 [.slice A all.length c, vN b] [] (fun w => Rd w (blocks []) A all.length 1 (all.map vN))
    (fun v H => ∃ A1 c1, v = .slice A1 (tabC all b b).length c1 ∧ H = [OwnC (tabC all b b) A1 c1]) := by
  refine FnS.introD Tryd.func21 rfl (by kernel_rfl) rfl fun w hH hp => ?_
  have hb1 := hW.b1
  have hbase := hW.base
  have h2b : 2 ^ b ≤ 2 ^ 11 := Nat.pow_le_pow_right (by omega) hb1
  (conv => whnf); repeat ((first | refine RngK.mk (by omega) (by omega) ?_ | refine NzK.mk (by omega) ?_ | refine NnK.mk (by omega) ?_ | refine BdK.mk (by omega) (by omega) (by omega) ?_ | refine InsK.lit (by omega) (by omega) ?_ | refine SpK.lit ?_ | refine GrdK.same ?_ | refine GrdK.tf ?_ | refine GrdK.ft ?_ | refine PickK.t ?_ | refine PickK.f ?_); (conv => whnf))
  refine EffK.lit0 rfl rfl fun bk => ?_
  (conv => whnf); repeat ((first | refine RngK.mk (by omega) (by omega) ?_ | refine NzK.mk (by omega) ?_ | refine NnK.mk (by omega) ?_ | refine BdK.mk (by omega) (by omega) (by omega) ?_ | refine InsK.lit (by omega) (by omega) ?_ | refine SpK.lit ?_ | refine GrdK.same ?_ | refine GrdK.tf ?_ | refine GrdK.ft ?_ | refine PickK.t ?_ | refine PickK.f ?_); (conv => whnf))
  refine Wp.cutEx 0 (fun t : Option Addr × Nat => [(5, .slice t.1 (tabC all b b).length t.2)]) (fun t => [OwnC (tabC all b b) t.1 t.2]) (fun _ => True) ?_ fun ⟨A1, c1⟩ _ => ?_
  rotate_left
  · (conv => whnf); repeat ((first | refine RngK.mk (by omega) (by omega) ?_ | refine NzK.mk (by omega) ?_ | refine NnK.mk (by omega) ?_ | refine BdK.mk (by omega) (by omega) (by omega) ?_ | refine InsK.lit (by omega) (by omega) ?_ | refine SpK.lit ?_ | refine GrdK.same ?_ | refine GrdK.tf ?_ | refine GrdK.ft ?_ | refine PickK.t ?_ | refine PickK.f ?_); (conv => whnf))
    exact ⟨_, HSub.refl _, A1, c1, rfl, rfl⟩
  refine Wp.loop (fun t : Nat × Option Addr × Nat => [(0, .slice A all.length c), (1, vN b), (5, .slice t.2.1 (tabC all b t.1).length t.2.2), (6, vN (t.1 + 1))]) (fun t => [OwnC (tabC all b t.1) t.2.1 t.2.2]) (fun t => t.1 ≤ b) (fun t => b - t.1) (0, some ⟨bk, 0, none⟩, 0)
    ⟨rfl, rfl, rfl, rfl, trivial⟩ (HSub.refl _) (Nat.zero_le _) fun ⟨k, A1, c1⟩ hk => ?_
  dsimp only at hk ⊢
  (conv => whnf); repeat ((first | refine RngK.mk (by omega) (by omega) ?_ | refine NzK.mk (by omega) ?_ | refine NnK.mk (by omega) ?_ | refine BdK.mk (by omega) (by omega) (by omega) ?_ | refine InsK.lit (by omega) (by omega) ?_ | refine SpK.lit ?_ | refine GrdK.same ?_ | refine GrdK.tf ?_ | refine GrdK.ft ?_ | refine PickK.t ?_ | refine PickK.f ?_); (conv => whnf))
  refine Wp.cond rfl (fun h => ?_) (fun h => ?_)
  rotate_left
  · have h := dF h
    obtain rfl : k = b := by omega
    (conv => whnf); repeat ((first | refine RngK.mk (by omega) (by omega) ?_ | refine NzK.mk (by omega) ?_ | refine NnK.mk (by omega) ?_ | refine BdK.mk (by omega) (by omega) (by omega) ?_ | refine InsK.lit (by omega) (by omega) ?_ | refine SpK.lit ?_ | refine GrdK.same ?_ | refine GrdK.tf ?_ | refine GrdK.ft ?_ | refine PickK.t ?_ | refine PickK.f ?_); (conv => whnf))
    exact ⟨(A1, c1), ⟨rfl, trivial⟩, HSub.refl _, trivial⟩
  have h := dT h
  have hkb : k < b := by omega
  obtain ⟨T0, hT0⟩ : ∃ T0, tabC all b k = T0 := ⟨_, rfl⟩
  have hT1 : tabC all b (k + 1) = T0 ++ segC b (k + 1) 0 all := by rw [tabC, hT0]
  have hT0l : T0.length = baseC all k := by rw [← hT0, tabC_len]
  rw [hT0]
  have hmono := baseC_mono all (show k + 1 ≤ b by omega)
  (conv => whnf); repeat ((first | refine RngK.mk (by omega) (by omega) ?_ | refine NzK.mk (by omega) ?_ | refine NnK.mk (by omega) ?_ | refine BdK.mk (by omega) (by omega) (by omega) ?_ | refine InsK.lit (by omega) (by omega) ?_ | refine SpK.lit ?_ | refine GrdK.same ?_ | refine GrdK.tf ?_ | refine GrdK.ft ?_ | refine PickK.t ?_ | refine PickK.f ?_); (conv => whnf))
  refine Wp.cutEx 2 (fun t : Option Addr × Nat => [(0, .slice A all.length c), (1, vN b), (5, .slice t.1 (tabC all b (k + 1)).length t.2), (6, vN (k + 1))]) (fun t => [OwnC (tabC all b (k + 1)) t.1 t.2]) (fun _ => True) ?_ fun ⟨A1, c1⟩ _ => ?_
  rotate_left
  · (conv => whnf); repeat ((first | refine RngK.mk (by omega) (by omega) ?_ | refine NzK.mk (by omega) ?_ | refine NnK.mk (by omega) ?_ | refine BdK.mk (by omega) (by omega) (by omega) ?_ | refine InsK.lit (by omega) (by omega) ?_ | refine SpK.lit ?_ | refine GrdK.same ?_ | refine GrdK.tf ?_ | refine GrdK.ft ?_ | refine PickK.t ?_ | refine PickK.f ?_); (conv => whnf))
    exact ⟨(k + 1, A1, c1), ⟨rfl, rfl, rfl, rfl, trivial⟩, HSub.refl _, by simp only; omega, by simp only; omega⟩
  have e0 : T0 ++ segC b (k + 1) 0 (all.take 0) = T0 := by simp [segC]
  refine Wp.loop (fun t : Nat × Option Addr × Nat => [(0, .slice A all.length c), (1, vN b), (5, .slice t.2.1 (T0 ++ segC b (k + 1) 0 (all.take t.1)).length t.2.2), (6, vN (k + 1)), (15, .slice A all.length c), (16, vN all.length), (17, vN t.1)])
    (fun t => [OwnC (T0 ++ segC b (k + 1) 0 (all.take t.1)) t.2.1 t.2.2]) (fun t => t.1 ≤ all.length) (fun t => all.length - t.1) (0, A1, c1)
    ⟨rfl, rfl, by show some (Value.slice A1 _ c1) = some (Value.slice A1 _ c1); rw [e0], rfl, rfl, rfl, rfl, trivial⟩ (by dsimp only; rw [e0]; exact HSub.refl _) (Nat.zero_le _) fun ⟨i, A1, c1⟩ hi => ?_
  dsimp only at hi ⊢
  (conv => whnf); repeat ((first | refine RngK.mk (by omega) (by omega) ?_ | refine NzK.mk (by omega) ?_ | refine NnK.mk (by omega) ?_ | refine BdK.mk (by omega) (by omega) (by omega) ?_ | refine InsK.lit (by omega) (by omega) ?_ | refine SpK.lit ?_ | refine GrdK.same ?_ | refine GrdK.tf ?_ | refine GrdK.ft ?_ | refine PickK.t ?_ | refine PickK.f ?_); (conv => whnf))
  refine Wp.cond rfl (fun h => ?_) (fun h => ?_)
  rotate_left
  · have h := dF h
    have hia : i = all.length := by omega
    subst hia
    rw [List.take_length, ← hT1]
    (conv => whnf); repeat ((first | refine RngK.mk (by omega) (by omega) ?_ | refine NzK.mk (by omega) ?_ | refine NnK.mk (by omega) ?_ | refine BdK.mk (by omega) (by omega) (by omega) ?_ | refine InsK.lit (by omega) (by omega) ?_ | refine SpK.lit ?_ | refine GrdK.same ?_ | refine GrdK.tf ?_ | refine GrdK.ft ?_ | refine PickK.t ?_ | refine PickK.f ?_); (conv => whnf))
    exact ⟨(A1, c1), ⟨rfl, rfl, rfl, rfl, trivial⟩, HSub.refl _, trivial⟩
  have h := dT h
  have hi' : i < all.length := by omega
  have hsn := seg_next (b := b) hi' k
  have hrm := seg_room all b k (i + 1)
  have hsl := congrArg List.length hsn
  have hcell : (all.map vN)[i]? = some (vN all[i]) := by simp [hi']
  obtain ⟨x, hx⟩ : ∃ x, all[i] = x := ⟨_, rfl⟩
  rw [hx] at hsn hcell hsl
  (conv => whnf); repeat ((first | refine RngK.mk (by omega) (by omega) ?_ | refine NzK.mk (by omega) ?_ | refine NnK.mk (by omega) ?_ | refine BdK.mk (by omega) (by omega) (by omega) ?_ | refine InsK.lit (by omega) (by omega) ?_ | refine SpK.lit ?_ | refine GrdK.same ?_ | refine GrdK.tf ?_ | refine GrdK.ft ?_ | refine PickK.t ?_ | refine PickK.f ?_); (conv => whnf))
  refine InsK.rd hp (by omega) (by omega) ?_
  (conv => whnf); repeat ((first | refine RngK.mk (by omega) (by omega) ?_ | refine NzK.mk (by omega) ?_ | refine NnK.mk (by omega) ?_ | refine BdK.mk (by omega) (by omega) (by omega) ?_ | refine InsK.lit (by omega) (by omega) ?_ | refine SpK.lit ?_ | refine GrdK.same ?_ | refine GrdK.tf ?_ | refine GrdK.ft ?_ | refine PickK.t ?_ | refine PickK.f ?_); (conv => whnf))
  refine LdK.rd (v := vN x) hp i rfl rfl rfl hcell ?_
  (conv => whnf); repeat ((first | refine RngK.mk (by omega) (by omega) ?_ | refine NzK.mk (by omega) ?_ | refine NnK.mk (by omega) ?_ | refine BdK.mk (by omega) (by omega) (by omega) ?_ | refine InsK.lit (by omega) (by omega) ?_ | refine SpK.lit ?_ | refine GrdK.same ?_ | refine GrdK.tf ?_ | refine GrdK.ft ?_ | refine PickK.t ?_ | refine PickK.f ?_); (conv => whnf))
  refine Wp.cond rfl (fun h => ?_) (fun h => ?_)
  · have h : ((x : Nat) : Int) ≠ ((k + 1 : Nat) : Int) := neT h
    rw [if_neg (by omega), List.append_nil] at hsn
    rw [← hsn]
    (conv => whnf); repeat ((first | refine RngK.mk (by omega) (by omega) ?_ | refine NzK.mk (by omega) ?_ | refine NnK.mk (by omega) ?_ | refine BdK.mk (by omega) (by omega) (by omega) ?_ | refine InsK.lit (by omega) (by omega) ?_ | refine SpK.lit ?_ | refine GrdK.same ?_ | refine GrdK.tf ?_ | refine GrdK.ft ?_ | refine PickK.t ?_ | refine PickK.f ?_); (conv => whnf))
    exact ⟨(i + 1, A1, c1), ⟨rfl, rfl, rfl, rfl, rfl, rfl, rfl, trivial⟩, HSub.refl _, by simp only; omega, by simp only; omega⟩
  have h : ((x : Nat) : Int) = ((k + 1 : Nat) : Int) := neF h
  obtain rfl : x = k + 1 := by omega
  rw [if_pos rfl] at hsn hsl
  rw [List.length_append, List.length_replicate] at hsl
  obtain ⟨T1, hT1'⟩ : ∃ T1, T0 ++ segC b (k + 1) 0 (all.take i) = T1 := ⟨_, rfl⟩
  have hT2 : T0 ++ segC b (k + 1) 0 (all.take (i + 1)) = T1 ++ List.replicate (2 ^ k) (i, b - k) := by rw [hsn, ← hT1', List.append_assoc]
  have hT1l : T1.length + 2 ^ k ≤ 2 ^ b := by rw [← hT1', List.length_append]; omega
  rw [hT1']
  have ek : ((k + 1 : Nat) : Int) - 1 = ((k : Nat) : Int) := by omega
  have es : ishl .i64 1 ((k : Nat) : Int) = ((2 ^ k : Nat) : Int) := by
    have h2k : 2 ^ k ≤ 2 ^ 11 := Nat.pow_le_pow_right (by omega) (by omega)
    have := ishl_i64 (x := 1) (n := k) (by omega) (by omega)
    rw [Nat.one_mul] at this
    exact this
  have ebk : ((b : Nat) : Int) + 1 - ((k + 1 : Nat) : Int) = ((b - k : Nat) : Int) := by omega
  (conv => whnf); repeat ((first | refine RngK.mk (by omega) (by omega) ?_ | refine NzK.mk (by omega) ?_ | refine NnK.mk (by omega) ?_ | refine BdK.mk (by omega) (by omega) (by omega) ?_ | refine InsK.lit (by omega) (by omega) ?_ | refine SpK.lit ?_ | refine GrdK.same ?_ | refine GrdK.tf ?_ | refine GrdK.ft ?_ | refine PickK.t ?_ | refine PickK.f ?_); (conv => whnf))
  rw [ek, es]
  refine Wp.cutEx 4 (fun t : Option Addr × Nat => [(0, .slice A all.length c), (1, vN b), (5, .slice t.1 (T1 ++ List.replicate (2 ^ k) (i, b - k)).length t.2), (6, vN (k + 1)), (15, .slice A all.length c), (16, vN all.length), (17, vN i)]) (fun t => [OwnC (T1 ++ List.replicate (2 ^ k) (i, b - k)) t.1 t.2]) (fun _ => True) ?_ fun ⟨A1, c1⟩ _ => ?_
  rotate_left
  · (conv => whnf); repeat ((first | refine RngK.mk (by omega) (by omega) ?_ | refine NzK.mk (by omega) ?_ | refine NnK.mk (by omega) ?_ | refine BdK.mk (by omega) (by omega) (by omega) ?_ | refine InsK.lit (by omega) (by omega) ?_ | refine SpK.lit ?_ | refine GrdK.same ?_ | refine GrdK.tf ?_ | refine GrdK.ft ?_ | refine PickK.t ?_ | refine PickK.f ?_); (conv => whnf))
    refine ⟨(i + 1, A1, c1), ⟨rfl, rfl, ?_, rfl, rfl, rfl, rfl, trivial⟩, ?_, by simp only; omega, by simp only; omega⟩
    · show some (Value.slice A1 _ c1) = some (Value.slice A1 _ c1)
      rw [hT2]
    · dsimp only
      rw [hT2]
      exact HSub.refl _
  refine Wp.loop (fun t : Nat × Option Addr × Nat => [(0, .slice A all.length c), (1, vN b), (5, .slice t.2.1 (T1.length + t.1) t.2.2), (6, vN (k + 1)), (7, vN i), (8, vN (k + 1)), (15, .slice A all.length c), (16, vN all.length), (17, vN i), (27, vN (2 ^ k)), (28, vN t.1)])
    (fun t => [.own t.2.1 (T1.length + t.1) t.2.2 65 2 (cdE (T1 ++ List.replicate t.1 (i, b - k)))]) (fun t => t.1 ≤ 2 ^ k) (fun t => 2 ^ k - t.1) (0, A1, c1)
    ⟨rfl, rfl, rfl, rfl, rfl, rfl, rfl, rfl, rfl, rfl, rfl, trivial⟩ (by dsimp only; rw [List.replicate_zero, List.append_nil]; exact HSub.refl _) (Nat.zero_le _) fun ⟨j, A1, c1⟩ hj => ?_
  dsimp only at hj ⊢
  (conv => whnf); repeat ((first | refine RngK.mk (by omega) (by omega) ?_ | refine NzK.mk (by omega) ?_ | refine NnK.mk (by omega) ?_ | refine BdK.mk (by omega) (by omega) (by omega) ?_ | refine InsK.lit (by omega) (by omega) ?_ | refine SpK.lit ?_ | refine GrdK.same ?_ | refine GrdK.tf ?_ | refine GrdK.ft ?_ | refine PickK.t ?_ | refine PickK.f ?_); (conv => whnf))
  refine Wp.cond rfl (fun h => ?_) (fun h => ?_)
  rotate_left
  · have h := dF h
    have hj2 : j = 2 ^ k := by omega
    subst hj2
    (conv => whnf); repeat ((first | refine RngK.mk (by omega) (by omega) ?_ | refine NzK.mk (by omega) ?_ | refine NnK.mk (by omega) ?_ | refine BdK.mk (by omega) (by omega) (by omega) ?_ | refine InsK.lit (by omega) (by omega) ?_ | refine SpK.lit ?_ | refine GrdK.same ?_ | refine GrdK.tf ?_ | refine GrdK.ft ?_ | refine PickK.t ?_ | refine PickK.f ?_); (conv => whnf))
    refine ⟨(A1, c1), ⟨rfl, rfl, ?_, rfl, rfl, rfl, rfl, trivial⟩, ?_, trivial⟩
    · show some (Value.slice A1 _ c1) = some (Value.slice A1 _ c1)
      rw [List.length_append, List.length_replicate]
    · dsimp only
      rw [OwnC, List.length_append, List.length_replicate]
      exact HSub.refl _
  have h := dT h
  (conv => whnf); repeat ((first | refine RngK.mk (by omega) (by omega) ?_ | refine NzK.mk (by omega) ?_ | refine NnK.mk (by omega) ?_ | refine BdK.mk (by omega) (by omega) (by omega) ?_ | refine InsK.lit (by omega) (by omega) ?_ | refine SpK.lit ?_ | refine GrdK.same ?_ | refine GrdK.tf ?_ | refine GrdK.ft ?_ | refine PickK.t ?_ | refine PickK.f ?_); (conv => whnf))
  rw [ebk]
  refine ValK.buildS 2 rfl rfl rfl rfl rfl rfl rfl ?_
  (conv => whnf); repeat ((first | refine RngK.mk (by omega) (by omega) ?_ | refine NzK.mk (by omega) ?_ | refine NnK.mk (by omega) ?_ | refine BdK.mk (by omega) (by omega) (by omega) ?_ | refine InsK.lit (by omega) (by omega) ?_ | refine SpK.lit ?_ | refine GrdK.same ?_ | refine GrdK.tf ?_ | refine GrdK.ft ?_ | refine PickK.t ?_ | refine PickK.f ?_); (conv => whnf))
  refine EffK.litN 2 rfl rfl rfl rfl rfl rfl rfl rfl rfl rfl rfl ?_
  (conv => whnf); repeat ((first | refine RngK.mk (by omega) (by omega) ?_ | refine NzK.mk (by omega) ?_ | refine NnK.mk (by omega) ?_ | refine BdK.mk (by omega) (by omega) (by omega) ?_ | refine InsK.lit (by omega) (by omega) ?_ | refine SpK.lit ?_ | refine GrdK.same ?_ | refine GrdK.tf ?_ | refine GrdK.ft ?_ | refine PickK.t ?_ | refine PickK.f ?_); (conv => whnf))
  intro b3
  (conv => whnf); repeat ((first | refine RngK.mk (by omega) (by omega) ?_ | refine NzK.mk (by omega) ?_ | refine NnK.mk (by omega) ?_ | refine BdK.mk (by omega) (by omega) (by omega) ?_ | refine InsK.lit (by omega) (by omega) ?_ | refine SpK.lit ?_ | refine GrdK.same ?_ | refine GrdK.tf ?_ | refine GrdK.ft ?_ | refine PickK.t ?_ | refine PickK.f ?_); (conv => whnf))
  refine EffK.append 1 (news := cdC (i, b - k)) rfl rfl rfl rfl rfl rfl rfl rfl (Src.ownW (k := 0) rfl rfl) (cd_one _) (by simp [maxLen]; omega) (by show (_ + _) * 16 ≤ _; omega) fun A' cap' => ?_
  (conv => whnf); repeat ((first | refine RngK.mk (by omega) (by omega) ?_ | refine NzK.mk (by omega) ?_ | refine NnK.mk (by omega) ?_ | refine BdK.mk (by omega) (by omega) (by omega) ?_ | refine InsK.lit (by omega) (by omega) ?_ | refine SpK.lit ?_ | refine GrdK.same ?_ | refine GrdK.tf ?_ | refine GrdK.ft ?_ | refine PickK.t ?_ | refine PickK.f ?_); (conv => whnf))
  refine ⟨(j + 1, A', cap'), ⟨rfl, rfl, rfl, rfl, rfl, rfl, rfl, rfl, rfl, rfl, rfl, trivial⟩, ?_, by simp only; omega, by simp only; omega⟩
  dsimp only
  rw [List.replicate_succ', ← List.append_assoc, cdE_snoc]
  exact HSub.of [1] rfl
end Go.Proofs.YtgdhdkjbilifiaaDoor
