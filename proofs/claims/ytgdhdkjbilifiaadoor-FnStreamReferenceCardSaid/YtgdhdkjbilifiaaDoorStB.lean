/- The reference's table of states: spec.Build. -/
import Derived.Test.YtgdhdkjbilifiaaDoorStA
import Derived.Test.YtgdhdkjbilifiaaDoorOwn3
namespace Go.Proofs.YtgdhdkjbilifiaaDoor
open Go Go.Sx
set_option maxRecDepth 100000
theorem take_set_self {α : Type} : ∀ {l : List α} {k : Nat} {v : α}, k < l.length → (l.set k v).take (k + 1) = l.take k ++ [v]
  | _ :: _, 0, _, _ => rfl
  | x :: l, k + 1, v, h => by
    have := take_set_self (l := l) (k := k) (v := v) (by simpa using h)
    simp only [List.set_cons_succ, List.take_succ_cons, this, List.cons_append]
def rN (z : Int) : Nat := if z = -1 then 1 else z.toNat
abbrev St := Nat × Nat × Int
def stCells (x : St) : List Value := [vN x.1, vN x.2.1, vI x.2.2]
def readOf (b n : Nat) : Nat := b + 1 - wd n
def bd (b : Nat) : List Nat → List Nat → List St
  | _, [] => []
  | next, s :: r => (s, readOf b (next.getD s 0), ((next.getD s 0 * 2 ^ readOf b (next.getD s 0) : Nat) : Int) - ((2 ^ b : Nat) : Int)) :: bd b (next.set s (next.getD s 0 + 1)) r
def buildN (zs : List Int) (b : Nat) : List St := bd b (zs.map rN) (spreadN zs b)
abbrev OwnS (T : TypeId) (l : List St) (A : Option Addr) (cap : Nat) : Chunk := .own A l.length cap T 3 (l.flatMap stCells)
theorem ownS_snoc (T : TypeId) (l : List St) (x : St) (A : Option Addr) (cap : Nat) : OwnS T (l ++ [x]) A cap = .own A (l.length + 1) cap T 3 (l.flatMap stCells ++ stCells x) := by
  simp [OwnS, List.flatMap_append]
theorem build_spec (A : Option Addr) (n c b : Nat) (zs : List Int) (hc : Counts zs b) (h1 : 1 ≤ n) :
    FnS Tryd.prog 51 [.slice A n c, vN b] [] (fun w => Rd w (blocks []) A n 1 (zs.map vI))
      (fun v H => ∃ A1 c1, v = .slice A1 (buildN zs b).length c1 ∧ H = [OwnS 89 (buildN zs b) A1 c1]) := by
  refine FnS.introD Tryd.func51 rfl (by kernel_rfl) rfl fun w hH hp => ?_
  obtain ⟨hM1, hM2⟩ := hc.M
  obtain rfl : zs.length = n := by simpa using hp.len
  have hlen := hc.len
  have hlim := hc.lim
  have b5 := hc.b5
  have b9 := hc.b9
  (conv => whnf); repeat ((first | refine RngK.mk (by omega) (by omega) ?_ | refine NzK.mk (by omega) ?_ | refine NnK.mk (by omega) ?_ | refine BdK.mk (by omega) (by omega) (by omega) ?_ | refine InsK.lit (by omega) (by omega) ?_ | refine SpK.lit ?_ | refine GrdK.same ?_ | refine GrdK.tf ?_ | refine GrdK.ft ?_ | refine PickK.t ?_ | refine PickK.f ?_); (conv => whnf))
  refine EffK.made1 zs.length rfl rfl rfl rfl rfl rfl (by show 8 * _ ≤ _; omega) (by simp [maxLen]; omega) fun b1 => ?_
  (conv => whnf); repeat ((first | refine RngK.mk (by omega) (by omega) ?_ | refine NzK.mk (by omega) ?_ | refine NnK.mk (by omega) ?_ | refine BdK.mk (by omega) (by omega) (by omega) ?_ | refine InsK.lit (by omega) (by omega) ?_ | refine SpK.lit ?_ | refine GrdK.same ?_ | refine GrdK.tf ?_ | refine GrdK.ft ?_ | refine PickK.t ?_ | refine PickK.f ?_); (conv => whnf))
  refine Wp.cutEx 0 (fun _ : Unit => [(0, .slice A zs.length c), (1, vN b), (5, .slice (some ⟨b1, 0, none⟩) zs.length zs.length)]) (fun _ => [.own (some ⟨b1, 0, none⟩) zs.length zs.length 3 1 ((zs.map rN).map vN)]) (fun _ => True) ?_ fun _ _ => ?_
  · refine Wp.loop (fun t : Nat × List Nat => [(0, .slice A zs.length c), (1, vN b), (16, .slice A zs.length c), (17, vN zs.length), (18, vN t.1), (5, .slice (some ⟨b1, 0, none⟩) zs.length zs.length)])
      (fun t => [.own (some ⟨b1, 0, none⟩) zs.length zs.length 3 1 (t.2.map vN)]) (fun t => t.1 ≤ zs.length ∧ t.2.length = zs.length ∧ t.2.take t.1 = (zs.map rN).take t.1) (fun t => zs.length - t.1) (0, List.replicate zs.length 0)
      ⟨rfl, rfl, rfl, rfl, rfl, rfl, trivial⟩ ?_ ⟨Nat.zero_le _, by simp, by simp⟩ fun ⟨k, nx⟩ ⟨hk, hnl, htk⟩ => ?_
    · dsimp only
      rw [List.map_replicate]
      exact HSub.refl _
    dsimp only at hk hnl htk ⊢
    (conv => whnf); repeat ((first | refine RngK.mk (by omega) (by omega) ?_ | refine NzK.mk (by omega) ?_ | refine NnK.mk (by omega) ?_ | refine BdK.mk (by omega) (by omega) (by omega) ?_ | refine InsK.lit (by omega) (by omega) ?_ | refine SpK.lit ?_ | refine GrdK.same ?_ | refine GrdK.tf ?_ | refine GrdK.ft ?_ | refine PickK.t ?_ | refine PickK.f ?_); (conv => whnf))
    refine Wp.cond rfl (fun h => ?_) (fun h => ?_)
    · have h := dT h
      have hk' : k < zs.length := by omega
      have hzl := hlim _ (List.getElem_mem hk')
      (conv => whnf); repeat ((first | refine RngK.mk (by omega) (by omega) ?_ | refine NzK.mk (by omega) ?_ | refine NnK.mk (by omega) ?_ | refine BdK.mk (by omega) (by omega) (by omega) ?_ | refine InsK.lit (by omega) (by omega) ?_ | refine SpK.lit ?_ | refine GrdK.same ?_ | refine GrdK.tf ?_ | refine GrdK.ft ?_ | refine PickK.t ?_ | refine PickK.f ?_); (conv => whnf))
      refine InsK.rd hp (by omega) (by omega) ?_
      (conv => whnf); repeat ((first | refine RngK.mk (by omega) (by omega) ?_ | refine NzK.mk (by omega) ?_ | refine NnK.mk (by omega) ?_ | refine BdK.mk (by omega) (by omega) (by omega) ?_ | refine InsK.lit (by omega) (by omega) ?_ | refine SpK.lit ?_ | refine GrdK.same ?_ | refine GrdK.tf ?_ | refine GrdK.ft ?_ | refine PickK.t ?_ | refine PickK.f ?_); (conv => whnf))
      refine LdK.rd (v := vI zs[k]) hp k rfl rfl rfl (by simp [hk']) ?_
      (conv => whnf); repeat ((first | refine RngK.mk (by omega) (by omega) ?_ | refine NzK.mk (by omega) ?_ | refine NnK.mk (by omega) ?_ | refine BdK.mk (by omega) (by omega) (by omega) ?_ | refine InsK.lit (by omega) (by omega) ?_ | refine SpK.lit ?_ | refine GrdK.same ?_ | refine GrdK.tf ?_ | refine GrdK.ft ?_ | refine PickK.t ?_ | refine PickK.f ?_); (conv => whnf))
      refine CallK.of0 (room_spec zs[k]) ?_
      rintro _ _ ⟨rfl, rfl⟩
      have er : roomN zs[k] = ((rN zs[k] : Nat) : Int) := by
        unfold roomN rN
        split <;> omega
      rw [er]
      (conv => whnf); repeat ((first | refine RngK.mk (by omega) (by omega) ?_ | refine NzK.mk (by omega) ?_ | refine NnK.mk (by omega) ?_ | refine BdK.mk (by omega) (by omega) (by omega) ?_ | refine InsK.lit (by omega) (by omega) ?_ | refine SpK.lit ?_ | refine GrdK.same ?_ | refine GrdK.tf ?_ | refine GrdK.ft ?_ | refine PickK.t ?_ | refine PickK.f ?_); (conv => whnf))
      refine StK.own 0 k rfl ⟨b1, rfl⟩ rfl rfl rfl rfl (by simp; omega) ?_
      have es : (nx.map vN).set k (Value.int .i64 ((rN zs[k] : Nat) : Int)) = (nx.set k (rN zs[k])).map vN := by rw [List.map_set]
      rw [es]
      (conv => whnf); repeat ((first | refine RngK.mk (by omega) (by omega) ?_ | refine NzK.mk (by omega) ?_ | refine NnK.mk (by omega) ?_ | refine BdK.mk (by omega) (by omega) (by omega) ?_ | refine InsK.lit (by omega) (by omega) ?_ | refine SpK.lit ?_ | refine GrdK.same ?_ | refine GrdK.tf ?_ | refine GrdK.ft ?_ | refine PickK.t ?_ | refine PickK.f ?_); (conv => whnf))
      refine ⟨(k + 1, nx.set k (rN zs[k])), ⟨rfl, rfl, rfl, rfl, rfl, rfl, trivial⟩, HSub.refl _, ⟨by simp only; omega, by simp only [List.length_set]; exact hnl, ?_⟩, by simp only; omega⟩
      dsimp only
      rw [take_set_self (by omega), htk, List.take_succ_eq_append_getElem (by simpa using hk')]
      simp
    · have h := dF h
      have hkn : k = zs.length := by omega
      subst hkn
      rw [List.take_of_length_le (by omega), List.take_of_length_le (by simp)] at htk
      subst htk
      (conv => whnf); repeat ((first | refine RngK.mk (by omega) (by omega) ?_ | refine NzK.mk (by omega) ?_ | refine NnK.mk (by omega) ?_ | refine BdK.mk (by omega) (by omega) (by omega) ?_ | refine InsK.lit (by omega) (by omega) ?_ | refine SpK.lit ?_ | refine GrdK.same ?_ | refine GrdK.tf ?_ | refine GrdK.ft ?_ | refine PickK.t ?_ | refine PickK.f ?_); (conv => whnf))
      exact ⟨(), ⟨rfl, rfl, rfl, trivial⟩, HSub.refl _, trivial⟩
  · (conv => whnf); repeat ((first | refine RngK.mk (by omega) (by omega) ?_ | refine NzK.mk (by omega) ?_ | refine NnK.mk (by omega) ?_ | refine BdK.mk (by omega) (by omega) (by omega) ?_ | refine InsK.lit (by omega) (by omega) ?_ | refine SpK.lit ?_ | refine GrdK.same ?_ | refine GrdK.tf ?_ | refine GrdK.ft ?_ | refine PickK.t ?_ | refine PickK.f ?_); (conv => whnf))
    refine EffK.lit0 rfl rfl fun b2 => ?_
    (conv => whnf); repeat ((first | refine RngK.mk (by omega) (by omega) ?_ | refine NzK.mk (by omega) ?_ | refine NnK.mk (by omega) ?_ | refine BdK.mk (by omega) (by omega) (by omega) ?_ | refine InsK.lit (by omega) (by omega) ?_ | refine SpK.lit ?_ | refine GrdK.same ?_ | refine GrdK.tf ?_ | refine GrdK.ft ?_ | refine PickK.t ?_ | refine PickK.f ?_); (conv => whnf))
    refine CallK.ofA [] (spread_spec A zs.length c b zs hc) rfl (fun w hw => hp.pass hw) ?_
    rintro _ _ ⟨A3, c3, rfl, rfl, hsl, hsy⟩ hA3
    have hO3 := hA3 _ _ _ _ _ _ List.mem_cons_self
    clear hA3
    have e1b : ishl .i64 1 (b : Int) = ((2 ^ b : Nat) : Int) := by
      have := ishl_i64 (x := 1) (n := b) (by omega) (by omega)
      rw [Nat.one_mul] at this
      exact this
    obtain ⟨F, hF⟩ : ∃ F, buildN zs b = F := ⟨_, rfl⟩
    have hF' := hF
    unfold buildN at hF'
    have hnl : (zs.map rN).length = zs.length := by simp
    have hnx : ∀ x ∈ zs.map rN, x ≤ 2 ^ b + 0 := fun x hx => by
      obtain ⟨z, hz, rfl⟩ := List.mem_map.1 hx
      have := hlim z hz
      unfold rN
      split <;> omega
    rw [hF]
    have e2b : 2 ^ (b + 1) = 2 ^ b * 2 := Nat.pow_succ _ _
    generalize spreadN zs b = sy at *
    generalize zs.map rN = nx at *
    refine Wp.loop (fun t : Nat × List Nat × List St × Option Addr × Nat => [(1, vN b), (5, .slice (some ⟨b1, 0, none⟩) zs.length zs.length), (32, .slice A3 (2 ^ b) c3), (33, vN (2 ^ b)), (34, vN t.1), (8, .slice t.2.2.2.1 t.2.2.1.length t.2.2.2.2)])
      (fun t => [OwnS 89 t.2.2.1 t.2.2.2.1 t.2.2.2.2, .own (some ⟨b1, 0, none⟩) zs.length zs.length 3 1 (t.2.1.map vN), .own A3 (2 ^ b) c3 3 1 (sy.map vN)])
      (fun t => t.1 ≤ 2 ^ b ∧ t.2.1.length = zs.length ∧ (∀ x ∈ t.2.1, x ≤ 2 ^ b + t.1) ∧ t.2.2.1.length = t.1 ∧ t.2.2.1 ++ bd b t.2.1 (sy.drop t.1) = F) (fun t => 2 ^ b - t.1) (0, nx, [], some ⟨b2, 0, none⟩, 0)
      ⟨rfl, rfl, rfl, rfl, rfl, rfl, trivial⟩ (HSub.of [1, 1, 0] rfl) ⟨Nat.zero_le _, hnl, hnx, rfl, hF'⟩ fun ⟨i, nx, acc, A1, c1⟩ ⟨hi, hnl, hnx, hal, hbd⟩ => ?_
    dsimp only at hi hnl hnx hal hbd ⊢
    (conv => whnf); repeat ((first | refine RngK.mk (by omega) (by omega) ?_ | refine NzK.mk (by omega) ?_ | refine NnK.mk (by omega) ?_ | refine BdK.mk (by omega) (by omega) (by omega) ?_ | refine InsK.lit (by omega) (by omega) ?_ | refine SpK.lit ?_ | refine GrdK.same ?_ | refine GrdK.tf ?_ | refine GrdK.ft ?_ | refine PickK.t ?_ | refine PickK.f ?_); (conv => whnf))
    refine Wp.cond rfl (fun h => ?_) (fun h => ?_)
    · have h := dT h
      have hi' : i < sy.length := by omega
      have hs := hsy _ (List.getElem_mem hi')
      have hs' : sy[i] < nx.length := by omega
      rw [drop_at hi', bd] at hbd
      obtain ⟨s, hse⟩ : ∃ s, sy[i] = s := ⟨_, rfl⟩
      have hgi : (sy.map vN)[i]? = some (vN s) := by simp [hi', hse]
      rw [hse] at hs' hbd
      have hgd : nx.getD s 0 = nx[s] := by simp [List.getD, hs']
      rw [hgd] at hbd
      have hxs := hnx _ (List.getElem_mem hs')
      obtain ⟨m, hm⟩ : ∃ m, nx[s] = m := ⟨_, rfl⟩
      have hgs : (nx.map vN)[s]? = some (vN m) := by simp [hs', hm]
      rw [hm] at hbd hxs
      have hwm : wd m ≤ b + 1 := wd_lt (by omega)
      have hr1 : 2 ^ readOf b m ≤ 2 ^ 10 := Nat.pow_le_pow_right (by omega) (by unfold readOf; omega)
      (conv => whnf); repeat ((first | refine RngK.mk (by omega) (by omega) ?_ | refine NzK.mk (by omega) ?_ | refine NnK.mk (by omega) ?_ | refine BdK.mk (by omega) (by omega) (by omega) ?_ | refine InsK.lit (by omega) (by omega) ?_ | refine SpK.lit ?_ | refine GrdK.same ?_ | refine GrdK.tf ?_ | refine GrdK.ft ?_ | refine PickK.t ?_ | refine PickK.f ?_); (conv => whnf))
      refine InsK.own hO3 (by omega) (by omega) ?_
      (conv => whnf); repeat ((first | refine RngK.mk (by omega) (by omega) ?_ | refine NzK.mk (by omega) ?_ | refine NnK.mk (by omega) ?_ | refine BdK.mk (by omega) (by omega) (by omega) ?_ | refine InsK.lit (by omega) (by omega) ?_ | refine SpK.lit ?_ | refine GrdK.same ?_ | refine GrdK.tf ?_ | refine GrdK.ft ?_ | refine PickK.t ?_ | refine PickK.f ?_); (conv => whnf))
      refine LdK.own 2 i rfl rfl rfl rfl hgi ?_
      (conv => whnf); repeat ((first | refine RngK.mk (by omega) (by omega) ?_ | refine NzK.mk (by omega) ?_ | refine NnK.mk (by omega) ?_ | refine BdK.mk (by omega) (by omega) (by omega) ?_ | refine InsK.lit (by omega) (by omega) ?_ | refine SpK.lit ?_ | refine GrdK.same ?_ | refine GrdK.tf ?_ | refine GrdK.ft ?_ | refine PickK.t ?_ | refine PickK.f ?_); (conv => whnf))
      refine LdK.own 1 s rfl rfl rfl rfl hgs ?_
      (conv => whnf); repeat ((first | refine RngK.mk (by omega) (by omega) ?_ | refine NzK.mk (by omega) ?_ | refine NnK.mk (by omega) ?_ | refine BdK.mk (by omega) (by omega) (by omega) ?_ | refine InsK.lit (by omega) (by omega) ?_ | refine SpK.lit ?_ | refine GrdK.same ?_ | refine GrdK.tf ?_ | refine GrdK.ft ?_ | refine PickK.t ?_ | refine PickK.f ?_); (conv => whnf))
      refine LdK.own 1 s rfl rfl rfl rfl hgs ?_
      (conv => whnf); repeat ((first | refine RngK.mk (by omega) (by omega) ?_ | refine NzK.mk (by omega) ?_ | refine NnK.mk (by omega) ?_ | refine BdK.mk (by omega) (by omega) (by omega) ?_ | refine InsK.lit (by omega) (by omega) ?_ | refine SpK.lit ?_ | refine GrdK.same ?_ | refine GrdK.tf ?_ | refine GrdK.ft ?_ | refine PickK.t ?_ | refine PickK.f ?_); (conv => whnf))
      refine StK.own 1 s rfl ⟨b1, rfl⟩ rfl rfl rfl rfl (by simp; omega) ?_
      have es : (nx.map vN).set s (Value.int .i64 ((m : Int) + 1)) = (nx.set s (m + 1)).map vN := by rw [List.map_set]; rfl
      rw [es]
      (conv => whnf); repeat ((first | refine RngK.mk (by omega) (by omega) ?_ | refine NzK.mk (by omega) ?_ | refine NnK.mk (by omega) ?_ | refine BdK.mk (by omega) (by omega) (by omega) ?_ | refine InsK.lit (by omega) (by omega) ?_ | refine SpK.lit ?_ | refine GrdK.same ?_ | refine GrdK.tf ?_ | refine GrdK.ft ?_ | refine PickK.t ?_ | refine PickK.f ?_); (conv => whnf))
      refine CallK.of0 (width_spec m (by omega)) ?_
      rintro _ _ ⟨rfl, rfl⟩
      (conv => whnf); repeat ((first | refine RngK.mk (by omega) (by omega) ?_ | refine NzK.mk (by omega) ?_ | refine NnK.mk (by omega) ?_ | refine BdK.mk (by omega) (by omega) (by omega) ?_ | refine InsK.lit (by omega) (by omega) ?_ | refine SpK.lit ?_ | refine GrdK.same ?_ | refine GrdK.tf ?_ | refine GrdK.ft ?_ | refine PickK.t ?_ | refine PickK.f ?_); (conv => whnf))
      have er : (b : Int) + 1 - ((wd m : Nat) : Int) = ((readOf b m : Nat) : Int) := by unfold readOf; omega
      rw [er]
      refine DrwK.ord (by kernel_rfl) [0, 1, 2, 3, 4, 5, 6, 7, 8, 9, 10, 11, 12] (by kernel_rfl) ?_; conv => whnf
      (conv => whnf); repeat ((first | refine RngK.mk (by omega) (by omega) ?_ | refine NzK.mk (by omega) ?_ | refine NnK.mk (by omega) ?_ | refine BdK.mk (by omega) (by omega) (by omega) ?_ | refine InsK.lit (by omega) (by omega) ?_ | refine SpK.lit ?_ | refine GrdK.same ?_ | refine GrdK.tf ?_ | refine GrdK.ft ?_ | refine PickK.t ?_ | refine PickK.f ?_); (conv => whnf))
      have hmul : m * 2 ^ readOf b m ≤ 1024 * 2 ^ 10 := Nat.mul_le_mul (by omega) hr1
      have e2 : ishl .i64 (m : Int) ((readOf b m : Nat) : Int) = ((m * 2 ^ readOf b m : Nat) : Int) := ishl_i64 (by unfold readOf; omega) (by omega)
      rw [e2, e1b]
      (conv => whnf); repeat ((first | refine RngK.mk (by omega) (by omega) ?_ | refine NzK.mk (by omega) ?_ | refine NnK.mk (by omega) ?_ | refine BdK.mk (by omega) (by omega) (by omega) ?_ | refine InsK.lit (by omega) (by omega) ?_ | refine SpK.lit ?_ | refine GrdK.same ?_ | refine GrdK.tf ?_ | refine GrdK.ft ?_ | refine PickK.t ?_ | refine PickK.f ?_); (conv => whnf))
      refine ValK.buildS 3 rfl rfl rfl rfl rfl rfl rfl ?_
      (conv => whnf); repeat ((first | refine RngK.mk (by omega) (by omega) ?_ | refine NzK.mk (by omega) ?_ | refine NnK.mk (by omega) ?_ | refine BdK.mk (by omega) (by omega) (by omega) ?_ | refine InsK.lit (by omega) (by omega) ?_ | refine SpK.lit ?_ | refine GrdK.same ?_ | refine GrdK.tf ?_ | refine GrdK.ft ?_ | refine PickK.t ?_ | refine PickK.f ?_); (conv => whnf))
      refine EffK.litN 3 rfl rfl rfl rfl rfl rfl rfl rfl rfl rfl rfl ?_
      (conv => whnf); repeat ((first | refine RngK.mk (by omega) (by omega) ?_ | refine NzK.mk (by omega) ?_ | refine NnK.mk (by omega) ?_ | refine BdK.mk (by omega) (by omega) (by omega) ?_ | refine InsK.lit (by omega) (by omega) ?_ | refine SpK.lit ?_ | refine GrdK.same ?_ | refine GrdK.tf ?_ | refine GrdK.ft ?_ | refine PickK.t ?_ | refine PickK.f ?_); (conv => whnf))
      intro b4
      (conv => whnf); repeat ((first | refine RngK.mk (by omega) (by omega) ?_ | refine NzK.mk (by omega) ?_ | refine NnK.mk (by omega) ?_ | refine BdK.mk (by omega) (by omega) (by omega) ?_ | refine InsK.lit (by omega) (by omega) ?_ | refine SpK.lit ?_ | refine GrdK.same ?_ | refine GrdK.tf ?_ | refine GrdK.ft ?_ | refine PickK.t ?_ | refine PickK.f ?_); (conv => whnf))
      obtain ⟨x, hx⟩ : ∃ x : St, x = (s, readOf b m, ((m * 2 ^ readOf b m : Nat) : Int) - ((2 ^ b : Nat) : Int)) := ⟨_, rfl⟩
      have hcx : [Value.int .i64 (s : Int), Value.int .i64 (readOf b m : Nat), Value.int .i64 (((m * 2 ^ readOf b m : Nat) : Int) - ((2 ^ b : Nat) : Int))] = stCells x := by rw [hx]; rfl
      rw [← hx] at hbd
      refine EffK.append 1 (news := stCells x) rfl rfl rfl rfl rfl rfl rfl rfl (Src.ownW (k := 0) (by rw [hcx]; rfl) rfl) (by intro u hu; simp only [stCells, List.mem_cons, List.not_mem_nil, or_false] at hu; rcases hu with rfl | rfl | rfl <;> rfl) (by simp [maxLen]; omega) (by show (_ + _) * 24 ≤ _; omega) fun A' cap' => ?_
      (conv => whnf); repeat ((first | refine RngK.mk (by omega) (by omega) ?_ | refine NzK.mk (by omega) ?_ | refine NnK.mk (by omega) ?_ | refine BdK.mk (by omega) (by omega) (by omega) ?_ | refine InsK.lit (by omega) (by omega) ?_ | refine SpK.lit ?_ | refine GrdK.same ?_ | refine GrdK.tf ?_ | refine GrdK.ft ?_ | refine PickK.t ?_ | refine PickK.f ?_); (conv => whnf))
      refine ⟨(i + 1, nx.set s (m + 1), acc ++ [x], A', cap'), ⟨rfl, rfl, rfl, rfl, rfl, ?_, trivial⟩, ?_, ⟨by simp only; omega, by simp only [List.length_set]; exact hnl, ?_, by simp only [List.length_append, List.length_singleton]; omega, ?_⟩, by simp only; omega⟩
      · show some _ = some _
        simp
      · dsimp only
        rw [ownS_snoc]
        exact HSub.of [1, 1, 1] rfl
      · dsimp only
        intro y hy
        rcases List.mem_or_eq_of_mem_set hy with hy | hy
        · have := hnx y hy
          omega
        · omega
      · dsimp only
        rw [List.append_assoc]
        exact hbd
    · have h := dF h
      rw [List.drop_of_length_le (by omega), bd, List.append_nil] at hbd
      subst hbd
      (conv => whnf); repeat ((first | refine RngK.mk (by omega) (by omega) ?_ | refine NzK.mk (by omega) ?_ | refine NnK.mk (by omega) ?_ | refine BdK.mk (by omega) (by omega) (by omega) ?_ | refine InsK.lit (by omega) (by omega) ?_ | refine SpK.lit ?_ | refine GrdK.same ?_ | refine GrdK.tf ?_ | refine GrdK.ft ?_ | refine PickK.t ?_ | refine PickK.f ?_); (conv => whnf))
      exact ⟨_, HSub.of [0] rfl, A1, c1, rfl, rfl⟩
end Go.Proofs.YtgdhdkjbilifiaaDoor
