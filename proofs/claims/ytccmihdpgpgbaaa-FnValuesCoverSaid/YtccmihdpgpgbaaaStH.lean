/- Predefined tables as plain data. -/
import Derived.Test.YtccmihdpgpgbaaaStG
namespace Go.Proofs.Ytccmihdpgpgbaaa
open Go Go.Sx
set_option maxRecDepth 100000
theorem Wp.nil {P : Program} {n : Nat} {w0 : World} {W : Nat → Prop} {H : Hp} (e : TypeId) (sz : Nat) {c : Code} {σ : Sl} {κ : Conts} (h : Wp P n w0 W c σ (.own none 0 0 e sz [] :: H) κ) : Wp P n w0 W c σ H κ := ⟨fun hok a w hr hw => h.wp hok a w hr (hw.nilOwn e sz)⟩
abbrev Be := Nat × Nat × Nat × Nat
def beCells (x : Be) : List Value := [.int .u32 x.1, .int .u8 x.2.1, .int .u8 x.2.2.1, .int .u16 x.2.2.2]
def rowE (x : Be) : List Int := [(x.1 : Int), (x.2.1 : Int), (x.2.2.1 : Int), (x.2.2.2 : Int)]
theorem be_at : ∀ {rows : List Be} {k : Nat} (hk : k < rows.length) {q : Nat} {v : Value}, (beCells rows[k])[q]? = some v → (rows.flatMap beCells)[k * 4 + q]? = some v
  | r :: rs, 0, _, q, v, hv => by
    have hq : q < (beCells r).length := (List.getElem?_eq_some_iff.1 hv).1
    simp only [List.flatMap_cons, Nat.zero_mul, Nat.zero_add]
    rw [List.getElem?_append_left hq]
    exact hv
  | r :: rs, k + 1, hk, q, v, hv => by
    have := be_at (rows := rs) (k := k) (by simpa using hk) (q := q) (v := v) (by simpa using hv)
    have hl : (beCells r).length = 4 := rfl
    simp only [List.flatMap_cons]
    rw [List.getElem?_append_right (by rw [hl]; omega), hl]
    have e : (k + 1) * 4 + q - 4 = k * 4 + q := by omega
    rw [e]
    exact this
theorem be_len : ∀ rows : List Be, (rows.flatMap beCells).length = rows.length * 4
  | [] => rfl
  | r :: rs => by
    have := be_len rs
    have hl : (beCells r).length = 4 := rfl
    simp only [List.flatMap_cons, List.length_append, List.length_cons]
    omega
abbrev OwnE (T : TypeId) (rows : List Be) (A : Option Addr) (cap : Nat) : Chunk := .own A rows.length cap T 4 (rows.flatMap beCells)
theorem ownE_snoc (T : TypeId) (rows : List Be) (r : Be) (A : Option Addr) (cap : Nat) : OwnE T (rows ++ [r]) A cap = .own A (rows.length + 1) cap T 4 (rows.flatMap beCells ++ beCells r) := by
  simp [OwnE, List.flatMap_append]
theorem be_one (x : Be) : ∀ u ∈ beCells x, u.oneCell' = true := by
  intro u hu
  simp only [beCells, List.mem_cons, List.not_mem_nil, or_false] at hu
  rcases hu with rfl | rfl | rfl | rfl <;> rfl
theorem zzb_spec (A : Option Addr) (n c : Nat) (rows : List Be) (hn : n ≤ 1000000) : FnS Try.prog 21 [.slice A n c] [] (fun w => Rd w (blocks []) A n 4 (rows.flatMap beCells))
    (fun v H => ∃ A1 c1, v = .slice A1 rows.length c1 ∧ H = [OwnE 52 rows A1 c1]) := by
  refine FnS.introD Try.func21 rfl (by kernel_rfl) rfl fun w hH hp => ?_
  have hln : rows.length = n := by have := hp.len; rw [be_len] at this; omega
  (conv => whnf); repeat ((first | refine RngK.mk (by omega) (by omega) ?_ | refine NzK.mk (by omega) ?_ | refine NnK.mk (by omega) ?_ | refine BdK.mk (by omega) (by omega) (by omega) ?_ | refine InsK.lit (by omega) (by omega) ?_ | refine SpK.lit ?_ | refine GrdK.same ?_ | refine GrdK.tf ?_ | refine GrdK.ft ?_ | refine PickK.t ?_ | refine PickK.f ?_); (conv => whnf))
  refine Wp.nil 52 4 ?_
  refine Wp.loop (fun t : Nat × Option Addr × Nat => [(5, .slice A n c), (6, vN n), (7, vN t.1), (2, .slice t.2.1 (rows.take t.1).length t.2.2)]) (fun t => [OwnE 52 (rows.take t.1) t.2.1 t.2.2])
    (fun t => t.1 ≤ n) (fun t => n - t.1) (0, none, 0) ⟨rfl, rfl, rfl, rfl, trivial⟩ (HSub.refl _) (Nat.zero_le _) fun ⟨k, A1, c1⟩ hk => ?_
  dsimp only at hk ⊢
  (conv => whnf); repeat ((first | refine RngK.mk (by omega) (by omega) ?_ | refine NzK.mk (by omega) ?_ | refine NnK.mk (by omega) ?_ | refine BdK.mk (by omega) (by omega) (by omega) ?_ | refine InsK.lit (by omega) (by omega) ?_ | refine SpK.lit ?_ | refine GrdK.same ?_ | refine GrdK.tf ?_ | refine GrdK.ft ?_ | refine PickK.t ?_ | refine PickK.f ?_); (conv => whnf))
  refine Wp.cond rfl (fun h => ?_) (fun h => ?_)
  · have h := dT h
    have hk' : k < rows.length := by omega
    have hcell : ∀ q v, (beCells rows[k])[q]? = some v → (rows.flatMap beCells)[k * 4 + q]? = some v := fun q v hv => be_at hk' hv
    have htk := List.take_succ_eq_append_getElem hk'
    have htl : (rows.take k).length = k := by simp; omega
    generalize rows[k] = x at hcell htk
    (conv => whnf); repeat ((first | refine RngK.mk (by omega) (by omega) ?_ | refine NzK.mk (by omega) ?_ | refine NnK.mk (by omega) ?_ | refine BdK.mk (by omega) (by omega) (by omega) ?_ | refine InsK.lit (by omega) (by omega) ?_ | refine SpK.lit ?_ | refine GrdK.same ?_ | refine GrdK.tf ?_ | refine GrdK.ft ?_ | refine PickK.t ?_ | refine PickK.f ?_); (conv => whnf))
    refine InsK.rd hp (by omega) (by omega) ?_
    (conv => whnf); repeat ((first | refine RngK.mk (by omega) (by omega) ?_ | refine NzK.mk (by omega) ?_ | refine NnK.mk (by omega) ?_ | refine BdK.mk (by omega) (by omega) (by omega) ?_ | refine InsK.lit (by omega) (by omega) ?_ | refine SpK.lit ?_ | refine GrdK.same ?_ | refine GrdK.tf ?_ | refine GrdK.ft ?_ | refine PickK.t ?_ | refine PickK.f ?_); (conv => whnf))
    refine LdK.rdN (cs := beCells x) hp (k * 4) rfl rfl rfl rfl rfl rfl hcell ?_
    (conv => whnf); repeat ((first | refine RngK.mk (by omega) (by omega) ?_ | refine NzK.mk (by omega) ?_ | refine NnK.mk (by omega) ?_ | refine BdK.mk (by omega) (by omega) (by omega) ?_ | refine InsK.lit (by omega) (by omega) ?_ | refine SpK.lit ?_ | refine GrdK.same ?_ | refine GrdK.tf ?_ | refine GrdK.ft ?_ | refine PickK.t ?_ | refine PickK.f ?_); (conv => whnf))
    refine ⟨_, _, rfl, rfl, ?_⟩
    intro b8
    (conv => whnf); repeat ((first | refine RngK.mk (by omega) (by omega) ?_ | refine NzK.mk (by omega) ?_ | refine NnK.mk (by omega) ?_ | refine BdK.mk (by omega) (by omega) (by omega) ?_ | refine InsK.lit (by omega) (by omega) ?_ | refine SpK.lit ?_ | refine GrdK.same ?_ | refine GrdK.tf ?_ | refine GrdK.ft ?_ | refine PickK.t ?_ | refine PickK.f ?_); (conv => whnf))
    refine StK.blkNE 0 (beCells x) rfl rfl rfl rfl rfl rfl ?_
    (conv => whnf); repeat ((first | refine RngK.mk (by omega) (by omega) ?_ | refine NzK.mk (by omega) ?_ | refine NnK.mk (by omega) ?_ | refine BdK.mk (by omega) (by omega) (by omega) ?_ | refine InsK.lit (by omega) (by omega) ?_ | refine SpK.lit ?_ | refine GrdK.same ?_ | refine GrdK.tf ?_ | refine GrdK.ft ?_ | refine PickK.t ?_ | refine PickK.f ?_); (conv => whnf))
    repeat (refine LdK.blk 0 rfl rfl rfl rfl ?_; conv => whnf)
    refine ValK.buildS 4 rfl rfl rfl rfl rfl rfl rfl ?_
    (conv => whnf); repeat ((first | refine RngK.mk (by omega) (by omega) ?_ | refine NzK.mk (by omega) ?_ | refine NnK.mk (by omega) ?_ | refine BdK.mk (by omega) (by omega) (by omega) ?_ | refine InsK.lit (by omega) (by omega) ?_ | refine SpK.lit ?_ | refine GrdK.same ?_ | refine GrdK.tf ?_ | refine GrdK.ft ?_ | refine PickK.t ?_ | refine PickK.f ?_); (conv => whnf))
    refine EffK.litN 4 rfl rfl rfl rfl rfl rfl rfl rfl rfl rfl rfl ?_
    (conv => whnf); repeat ((first | refine RngK.mk (by omega) (by omega) ?_ | refine NzK.mk (by omega) ?_ | refine NnK.mk (by omega) ?_ | refine BdK.mk (by omega) (by omega) (by omega) ?_ | refine InsK.lit (by omega) (by omega) ?_ | refine SpK.lit ?_ | refine GrdK.same ?_ | refine GrdK.tf ?_ | refine GrdK.ft ?_ | refine PickK.t ?_ | refine PickK.f ?_); (conv => whnf))
    intro b3
    (conv => whnf); repeat ((first | refine RngK.mk (by omega) (by omega) ?_ | refine NzK.mk (by omega) ?_ | refine NnK.mk (by omega) ?_ | refine BdK.mk (by omega) (by omega) (by omega) ?_ | refine InsK.lit (by omega) (by omega) ?_ | refine SpK.lit ?_ | refine GrdK.same ?_ | refine GrdK.tf ?_ | refine GrdK.ft ?_ | refine PickK.t ?_ | refine PickK.f ?_); (conv => whnf))
    refine EffK.append 2 (news := beCells x) rfl rfl rfl rfl rfl rfl rfl rfl (Src.ownW (k := 0) rfl rfl) (be_one x) (by simp [maxLen]; omega) (by show (_ + _) * 8 ≤ _; omega) fun A' cap' => ?_
    (conv => whnf); repeat ((first | refine RngK.mk (by omega) (by omega) ?_ | refine NzK.mk (by omega) ?_ | refine NnK.mk (by omega) ?_ | refine BdK.mk (by omega) (by omega) (by omega) ?_ | refine InsK.lit (by omega) (by omega) ?_ | refine SpK.lit ?_ | refine GrdK.same ?_ | refine GrdK.tf ?_ | refine GrdK.ft ?_ | refine PickK.t ?_ | refine PickK.f ?_); (conv => whnf))
    refine ⟨(k + 1, A', cap'), ⟨rfl, rfl, rfl, ?_, trivial⟩, ?_, by simp only; omega, by simp only; omega⟩
    · show some _ = some _
      rw [htk]
      simp
    · dsimp only
      rw [htk, ownE_snoc]
      exact HSub.of [2] rfl
  · have h := dF h
    rw [List.take_of_length_le (by omega)]
    (conv => whnf); repeat ((first | refine RngK.mk (by omega) (by omega) ?_ | refine NzK.mk (by omega) ?_ | refine NnK.mk (by omega) ?_ | refine BdK.mk (by omega) (by omega) (by omega) ?_ | refine InsK.lit (by omega) (by omega) ?_ | refine SpK.lit ?_ | refine GrdK.same ?_ | refine GrdK.tf ?_ | refine GrdK.ft ?_ | refine PickK.t ?_ | refine PickK.f ?_); (conv => whnf))
    exact ⟨_, HSub.refl _, A1, c1, rfl, rfl⟩
theorem basedOf_spec (A : Option Addr) (n c : Nat) (rows : List Be) (hn : n ≤ 1000000) (hb : ∀ x ∈ rows, x.1 < 4294967296 ∧ x.2.1 < 256 ∧ x.2.2.1 < 256 ∧ x.2.2.2 < 65536) : FnS Try.prog 16 [.slice A n c] [] (fun w => Rd w (blocks []) A n 4 (rows.flatMap beCells))
    (fun v H => ∃ A1 c1, v = .slice A1 rows.length c1 ∧ H = [.own A1 rows.length c1 38 4 (flat (rows.map rowE))]) := by
  refine FnS.introD Try.func16 rfl (by kernel_rfl) rfl fun w hH hp => ?_
  have hln : rows.length = n := by have := hp.len; rw [be_len] at this; omega
  (conv => whnf); repeat ((first | refine RngK.mk (by omega) (by omega) ?_ | refine NzK.mk (by omega) ?_ | refine NnK.mk (by omega) ?_ | refine BdK.mk (by omega) (by omega) (by omega) ?_ | refine InsK.lit (by omega) (by omega) ?_ | refine SpK.lit ?_ | refine GrdK.same ?_ | refine GrdK.tf ?_ | refine GrdK.ft ?_ | refine PickK.t ?_ | refine PickK.f ?_); (conv => whnf))
  refine EffK.lit0 rfl rfl fun b => ?_
  (conv => whnf); repeat ((first | refine RngK.mk (by omega) (by omega) ?_ | refine NzK.mk (by omega) ?_ | refine NnK.mk (by omega) ?_ | refine BdK.mk (by omega) (by omega) (by omega) ?_ | refine InsK.lit (by omega) (by omega) ?_ | refine SpK.lit ?_ | refine GrdK.same ?_ | refine GrdK.tf ?_ | refine GrdK.ft ?_ | refine PickK.t ?_ | refine PickK.f ?_); (conv => whnf))
  refine Wp.loop (fun t : Nat × Option Addr × Nat => [(7, .slice A n c), (8, vN n), (9, vN t.1), (3, .slice t.2.1 (rows.take t.1).length t.2.2)]) (fun t => [.own t.2.1 (rows.take t.1).length t.2.2 38 4 (flat ((rows.take t.1).map rowE))])
    (fun t => t.1 ≤ n) (fun t => n - t.1) (0, some ⟨b, 0, none⟩, 0) ⟨rfl, rfl, rfl, rfl, trivial⟩ (HSub.refl _) (Nat.zero_le _) fun ⟨k, A1, c1⟩ hk => ?_
  dsimp only at hk ⊢
  (conv => whnf); repeat ((first | refine RngK.mk (by omega) (by omega) ?_ | refine NzK.mk (by omega) ?_ | refine NnK.mk (by omega) ?_ | refine BdK.mk (by omega) (by omega) (by omega) ?_ | refine InsK.lit (by omega) (by omega) ?_ | refine SpK.lit ?_ | refine GrdK.same ?_ | refine GrdK.tf ?_ | refine GrdK.ft ?_ | refine PickK.t ?_ | refine PickK.f ?_); (conv => whnf))
  refine Wp.cond rfl (fun h => ?_) (fun h => ?_)
  · have h := dT h
    have hk' : k < rows.length := by omega
    have hcell : ∀ q v, (beCells rows[k])[q]? = some v → (rows.flatMap beCells)[k * 4 + q]? = some v := fun q v hv => be_at hk' hv
    have htk := List.take_succ_eq_append_getElem hk'
    have htl : (rows.take k).length = k := by simp; omega
    obtain ⟨x1, x2, x3, x4⟩ := hb _ (List.getElem_mem hk')
    generalize rows[k] = x at hcell htk x1 x2 x3 x4
    (conv => whnf); repeat ((first | refine RngK.mk (by omega) (by omega) ?_ | refine NzK.mk (by omega) ?_ | refine NnK.mk (by omega) ?_ | refine BdK.mk (by omega) (by omega) (by omega) ?_ | refine InsK.lit (by omega) (by omega) ?_ | refine SpK.lit ?_ | refine GrdK.same ?_ | refine GrdK.tf ?_ | refine GrdK.ft ?_ | refine PickK.t ?_ | refine PickK.f ?_); (conv => whnf))
    refine InsK.rd hp (by omega) (by omega) ?_
    (conv => whnf); repeat ((first | refine RngK.mk (by omega) (by omega) ?_ | refine NzK.mk (by omega) ?_ | refine NnK.mk (by omega) ?_ | refine BdK.mk (by omega) (by omega) (by omega) ?_ | refine InsK.lit (by omega) (by omega) ?_ | refine SpK.lit ?_ | refine GrdK.same ?_ | refine GrdK.tf ?_ | refine GrdK.ft ?_ | refine PickK.t ?_ | refine PickK.f ?_); (conv => whnf))
    refine LdK.rdN (cs := beCells x) hp (k * 4) rfl rfl rfl rfl rfl rfl hcell ?_
    (conv => whnf); repeat ((first | refine RngK.mk (by omega) (by omega) ?_ | refine NzK.mk (by omega) ?_ | refine NnK.mk (by omega) ?_ | refine BdK.mk (by omega) (by omega) (by omega) ?_ | refine InsK.lit (by omega) (by omega) ?_ | refine SpK.lit ?_ | refine GrdK.same ?_ | refine GrdK.tf ?_ | refine GrdK.ft ?_ | refine PickK.t ?_ | refine PickK.f ?_); (conv => whnf))
    refine ⟨_, _, rfl, rfl, ?_⟩
    intro b8
    (conv => whnf); repeat ((first | refine RngK.mk (by omega) (by omega) ?_ | refine NzK.mk (by omega) ?_ | refine NnK.mk (by omega) ?_ | refine BdK.mk (by omega) (by omega) (by omega) ?_ | refine InsK.lit (by omega) (by omega) ?_ | refine SpK.lit ?_ | refine GrdK.same ?_ | refine GrdK.tf ?_ | refine GrdK.ft ?_ | refine PickK.t ?_ | refine PickK.f ?_); (conv => whnf))
    refine StK.blkNE 0 (beCells x) rfl rfl rfl rfl rfl rfl ?_
    (conv => whnf); repeat ((first | refine RngK.mk (by omega) (by omega) ?_ | refine NzK.mk (by omega) ?_ | refine NnK.mk (by omega) ?_ | refine BdK.mk (by omega) (by omega) (by omega) ?_ | refine InsK.lit (by omega) (by omega) ?_ | refine SpK.lit ?_ | refine GrdK.same ?_ | refine GrdK.tf ?_ | refine GrdK.ft ?_ | refine PickK.t ?_ | refine PickK.f ?_); (conv => whnf))
    refine LdK.blk 0 rfl rfl rfl rfl ?_
    (conv => whnf); repeat ((first | refine RngK.mk (by omega) (by omega) ?_ | refine NzK.mk (by omega) ?_ | refine NnK.mk (by omega) ?_ | refine BdK.mk (by omega) (by omega) (by omega) ?_ | refine InsK.lit (by omega) (by omega) ?_ | refine SpK.lit ?_ | refine GrdK.same ?_ | refine GrdK.tf ?_ | refine GrdK.ft ?_ | refine PickK.t ?_ | refine PickK.f ?_); (conv => whnf))
    refine LdK.blk 0 rfl rfl rfl rfl ?_
    (conv => whnf); repeat ((first | refine RngK.mk (by omega) (by omega) ?_ | refine NzK.mk (by omega) ?_ | refine NnK.mk (by omega) ?_ | refine BdK.mk (by omega) (by omega) (by omega) ?_ | refine InsK.lit (by omega) (by omega) ?_ | refine SpK.lit ?_ | refine GrdK.same ?_ | refine GrdK.tf ?_ | refine GrdK.ft ?_ | refine PickK.t ?_ | refine PickK.f ?_); (conv => whnf))
    refine LdK.blk 0 rfl rfl rfl rfl ?_
    (conv => whnf); repeat ((first | refine RngK.mk (by omega) (by omega) ?_ | refine NzK.mk (by omega) ?_ | refine NnK.mk (by omega) ?_ | refine BdK.mk (by omega) (by omega) (by omega) ?_ | refine InsK.lit (by omega) (by omega) ?_ | refine SpK.lit ?_ | refine GrdK.same ?_ | refine GrdK.tf ?_ | refine GrdK.ft ?_ | refine PickK.t ?_ | refine PickK.f ?_); (conv => whnf))
    refine LdK.blk 0 rfl rfl rfl rfl ?_
    (conv => whnf); repeat ((first | refine RngK.mk (by omega) (by omega) ?_ | refine NzK.mk (by omega) ?_ | refine NnK.mk (by omega) ?_ | refine BdK.mk (by omega) (by omega) (by omega) ?_ | refine InsK.lit (by omega) (by omega) ?_ | refine SpK.lit ?_ | refine GrdK.same ?_ | refine GrdK.tf ?_ | refine GrdK.ft ?_ | refine PickK.t ?_ | refine PickK.f ?_); (conv => whnf))
    refine ValK.buildS 4 rfl rfl rfl rfl rfl rfl rfl ?_
    (conv => whnf); repeat ((first | refine RngK.mk (by omega) (by omega) ?_ | refine NzK.mk (by omega) ?_ | refine NnK.mk (by omega) ?_ | refine BdK.mk (by omega) (by omega) (by omega) ?_ | refine InsK.lit (by omega) (by omega) ?_ | refine SpK.lit ?_ | refine GrdK.same ?_ | refine GrdK.tf ?_ | refine GrdK.ft ?_ | refine PickK.t ?_ | refine PickK.f ?_); (conv => whnf))
    refine EffK.litN 4 rfl rfl rfl rfl rfl rfl rfl rfl rfl rfl rfl ?_
    (conv => whnf); repeat ((first | refine RngK.mk (by omega) (by omega) ?_ | refine NzK.mk (by omega) ?_ | refine NnK.mk (by omega) ?_ | refine BdK.mk (by omega) (by omega) (by omega) ?_ | refine InsK.lit (by omega) (by omega) ?_ | refine SpK.lit ?_ | refine GrdK.same ?_ | refine GrdK.tf ?_ | refine GrdK.ft ?_ | refine PickK.t ?_ | refine PickK.f ?_); (conv => whnf))
    intro b3
    (conv => whnf); repeat ((first | refine RngK.mk (by omega) (by omega) ?_ | refine NzK.mk (by omega) ?_ | refine NnK.mk (by omega) ?_ | refine BdK.mk (by omega) (by omega) (by omega) ?_ | refine InsK.lit (by omega) (by omega) ?_ | refine SpK.lit ?_ | refine GrdK.same ?_ | refine GrdK.tf ?_ | refine GrdK.ft ?_ | refine PickK.t ?_ | refine PickK.f ?_); (conv => whnf))
    refine EffK.append 2 (news := (rowE x).map vI) rfl rfl rfl rfl rfl rfl rfl rfl (Src.ownW (k := 0) rfl rfl) (by intro u hu; obtain ⟨z, _, rfl⟩ := List.mem_map.1 hu; rfl) (by simp [maxLen]; omega) (by show (_ + _) * 32 ≤ _; omega) fun A' cap' => ?_
    (conv => whnf); repeat ((first | refine RngK.mk (by omega) (by omega) ?_ | refine NzK.mk (by omega) ?_ | refine NnK.mk (by omega) ?_ | refine BdK.mk (by omega) (by omega) (by omega) ?_ | refine InsK.lit (by omega) (by omega) ?_ | refine SpK.lit ?_ | refine GrdK.same ?_ | refine GrdK.tf ?_ | refine GrdK.ft ?_ | refine PickK.t ?_ | refine PickK.f ?_); (conv => whnf))
    refine ⟨(k + 1, A', cap'), ⟨rfl, rfl, rfl, ?_, trivial⟩, ?_, by simp only; omega, by simp only; omega⟩
    · show some _ = some _
      rw [htk]
      simp
    · dsimp only
      rw [htk, List.map_append, List.length_append, show flat ((rows.take k).map rowE ++ [x].map rowE) = flat ((rows.take k).map rowE) ++ (rowE x).map vI by simp [flat, List.flatMap_append]]
      exact HSub.of [2] rfl
  · have h := dF h
    rw [List.take_of_length_le (by omega)]
    (conv => whnf); repeat ((first | refine RngK.mk (by omega) (by omega) ?_ | refine NzK.mk (by omega) ?_ | refine NnK.mk (by omega) ?_ | refine BdK.mk (by omega) (by omega) (by omega) ?_ | refine InsK.lit (by omega) (by omega) ?_ | refine SpK.lit ?_ | refine GrdK.same ?_ | refine GrdK.tf ?_ | refine GrdK.ft ?_ | refine PickK.t ?_ | refine PickK.f ?_); (conv => whnf))
    exact ⟨_, HSub.refl _, A1, c1, rfl, rfl⟩
end Go.Proofs.Ytccmihdpgpgbaaa
