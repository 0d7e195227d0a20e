/- The table of states is built as the reference builds it. -/
import Derived.Test.YtgdhdkjbilifiaaDoorStP
import Derived.Test.YtgdhdkjbilifiaaDoorErr
import Derived.Test.YtgdhdkjbilifiaaDoorEq
namespace Go.Proofs.YtgdhdkjbilifiaaDoor
open Go Go.Sx
set_option maxRecDepth 100000
abbrev En := Nat × Nat × Nat
def enCells (x : En) : List Value := [.int .u8 x.1, .int .u8 x.2.1, .int .u16 x.2.2]
def flE (es : List En) : List Value := es.flatMap enCells
theorem flE_len : ∀ es : List En, (flE es).length = es.length * 3
  | [] => rfl
  | x :: r => by
    have := flE_len r
    unfold flE at *
    rw [List.flatMap_cons, List.length_append, this, List.length_cons]
    show 3 + _ = _
    omega
theorem flE_at : ∀ {es : List En} {k : Nat} {e : En}, es[k]? = some e → ∀ {q : Nat} {v : Value}, (enCells e)[q]? = some v → (flE es)[k * 3 + q]? = some v
  | [], _, _, h, _, _, _ => by cases h
  | x :: r, 0, e, h, q, v, hv => by
    simp only [List.getElem?_cons_zero, Option.some.injEq] at h
    subst h
    have hq : q < (enCells x).length := (List.getElem?_eq_some_iff.1 hv).1
    unfold flE
    rw [List.flatMap_cons, Nat.zero_mul, Nat.zero_add, List.getElem?_append_left hq]
    exact hv
  | x :: r, k + 1, e, h, q, v, hv => by
    have := flE_at (es := r) (k := k) (by simpa using h) hv
    unfold flE at *
    have hl : (enCells x).length = 3 := rfl
    rw [List.flatMap_cons, List.getElem?_append_right (by rw [hl]; omega), hl]
    have e : (k + 1) * 3 + q - 3 = k * 3 + q := by omega
    rw [e]
    exact this
theorem flE_set : ∀ {es : List En} {k q : Nat} {e e' : En} {v : Value}, es[k]? = some e → q < 3 → (enCells e).set q v = enCells e' → (flE es).set (k * 3 + q) v = flE (es.set k e')
  | [], _, _, _, _, _, h, _, _ => by cases h
  | x :: r, 0, q, e, e', v, h, hq, he => by
    simp only [List.getElem?_cons_zero, Option.some.injEq] at h
    subst h
    unfold flE
    rw [List.flatMap_cons, List.set_cons_zero, List.flatMap_cons, Nat.zero_mul, Nat.zero_add, List.set_append_left _ _ (by show q < 3; exact hq), he]
  | x :: r, k + 1, q, e, e', v, h, hq, he => by
    have := flE_set (es := r) (k := k) (by simpa using h) hq he
    unfold flE at *
    have hl : (enCells x).length = 3 := rfl
    rw [List.flatMap_cons, List.set_cons_succ, List.flatMap_cons, List.set_append_right _ _ (by rw [hl]; omega), hl]
    have e : (k + 1) * 3 + q - 3 = k * 3 + q := by omega
    rw [e, this]
abbrev vU16 (n : Nat) : Value := .int .u16 n
abbrev vS16 (z : Int) : Value := .int .i16 z
def entOf (x : St) : En := (x.1, x.2.1, x.2.2.toNat)
def sy0 (s : Nat) : En := (s, 0, 0)
def tabE (done : List St) (syms : List Nat) (k : Nat) : List En := done.map entOf ++ (syms.map sy0 ++ List.replicate k (0, 0, 0))
theorem tabE_at (done : List St) {syms : List Nat} {k i : Nat} (h : i < syms.length) : (tabE done syms k)[done.length + i]? = some (sy0 syms[i]) := by
  unfold tabE
  rw [List.getElem?_append_right (by simp), List.length_map, Nat.add_sub_cancel_left, List.getElem?_append_left (by simpa using h)]
  simp [h]
theorem tabE_set (done : List St) {syms : List Nat} {k i s : Nat} (h : i < syms.length) : (tabE done syms k).set (done.length + i) (sy0 s) = tabE done (syms.set i s) k := by
  unfold tabE
  rw [List.set_append_right _ _ (by simp), List.length_map, Nat.add_sub_cancel_left, List.set_append_left _ _ (by simpa using h), List.map_set]
theorem tabE_next (done : List St) {s : Nat} {syms : List Nat} {k : Nat} {e : En} {x : St} (he : entOf x = e) : (tabE done (s :: syms) k).set done.length e = tabE (done ++ [x]) syms k := by
  unfold tabE
  rw [List.set_append_right _ _ (by simp), List.length_map, Nat.sub_self, List.map_cons, List.cons_append, List.set_cons_zero, List.map_append, List.append_assoc, ← he]
  rfl
/-- the numbers that are noted of the first k symbols -/
def nxk (zs : List Int) (k : Nat) : List Nat := (zs.map rN).take k ++ List.replicate (256 - k) 0
theorem nxk_len {zs : List Int} {k : Nat} (h : k ≤ zs.length) (h2 : zs.length ≤ 256) : (nxk zs k).length = 256 := by
  simp [nxk]; omega
theorem nxk_set {zs : List Int} {k : Nat} (h : k < zs.length) (h2 : zs.length ≤ 256) : (nxk zs k).set k (rN zs[k]) = nxk zs (k + 1) := by
  unfold nxk
  have hk : k < (zs.map rN).length := by simpa using h
  have hl : ((zs.map rN).take k).length = k := by simp; omega
  rw [List.set_append_right _ _ (by omega), hl, Nat.sub_self, List.take_succ_eq_append_getElem hk, List.getElem_map, List.append_assoc]
  have e : 256 - k = (256 - (k + 1)) + 1 := by omega
  rw [e, List.replicate_succ, List.set_cons_zero]
  rfl
theorem bd_pad {b k : Nat} : ∀ {syms next : List Nat}, (∀ s ∈ syms, s < next.length) → bd b (next ++ List.replicate k 0) syms = bd b next syms
  | [], _, _ => rfl
  | s :: r, next, h => by
    have h1 := h s List.mem_cons_self
    have e : (next ++ List.replicate k 0).getD s 0 = next.getD s 0 := by
      rw [List.getD_eq_getElem?_getD, List.getD_eq_getElem?_getD, List.getElem?_append_left h1]
    rw [bd_cons, bd_cons, e, List.set_append_left _ _ h1, bd_pad (fun t ht => by rw [List.length_set]; exact h t (List.mem_cons_of_mem _ ht))]
theorem Nums.pad {b k : Nat} {next syms : List Nat} (h : Nums b next syms) : Nums b (next ++ List.replicate k 0) syms := by
  have e : ∀ s, s < next.length → (next ++ List.replicate k 0).getD s 0 = next.getD s 0 := fun s hs => by
    rw [List.getD_eq_getElem?_getD, List.getD_eq_getElem?_getD, List.getElem?_append_left hs]
  refine ⟨fun s hs => by have := h.lt s hs; rw [List.length_append]; omega, fun s hs => by rw [e s (h.lt s hs)]; exact h.pos s hs, fun s _ => ?_⟩
  by_cases hs : s < next.length
  · rw [e s hs]; exact h.le s hs
  · have h0 : (next ++ List.replicate k 0).getD s 0 = 0 := by
      rw [List.getD_eq_getElem?_getD, List.getElem?_append_right (by omega), List.getElem?_replicate]
      split <;> rfl
    have h1 : syms.count s = 0 := List.count_eq_zero_of_not_mem fun hm => hs (h.lt s hm)
    rw [h0, h1]
    exact Nat.zero_le _
theorem pos_le : ∀ {zs : List Int} (s : Nat) {k : Nat} (hk : k < zs.length), zs[k].toNat ≤ (posS s zs).length
  | n :: r, s, 0, _ => by simp [posS]
  | n :: r, s, k + 1, hk => by
    have := pos_le (s + 1) (zs := r) (k := k) (by simpa using hk)
    simp only [posS, List.length_append, List.getElem_cons_succ]
    omega
theorem len16_spec (x : Nat) (hx : x < 65536) : FnS Tryd.prog 87 [vU16 x] [] (fun _ => True) (Is (vI (wd x))) := by
  refine FnS.intro Tryd.func87 rfl (by kernel_rfl) rfl fun w hH _ => ?_
  have key : ∀ (y : Nat), y < 256 → wd y ≤ 8 ∧ IntKind.u8.wrap (y : Int) = (y : Int) := fun y hy => ⟨wd_lt hy, wrap_u_lt rfl hy⟩
  have hb : ∀ y, wd y ≤ 8 → (UInt8.ofNat (wd y)).toNat = wd y := fun y hw => UInt8.toNat_ofNat_of_lt' (by simp [UInt8.size]; omega)
  (conv => whnf); repeat ((first | refine RngK.mk (by omega) (by omega) ?_ | refine NzK.mk (by omega) ?_ | refine NnK.mk (by omega) ?_ | refine BdK.mk (by omega) (by omega) (by omega) ?_ | refine InsK.lit (by omega) (by omega) ?_ | refine SpK.lit ?_ | refine GrdK.same ?_ | refine GrdK.tf ?_ | refine GrdK.ft ?_ | refine PickK.t ?_ | refine PickK.f ?_); (conv => whnf))
  refine Wp.cond rfl (fun h => ?_) (fun h => ?_)
  · have h : (x : Int) ≥ 256 := dT h
    have e8 : ishr .u16 (x : Int) 8 = ((x / 2 ^ 8 : Nat) : Int) := ishr_nat .u16 x (n := 8) (by decide)
    have hx8 : x / 2 ^ 8 < 256 := by omega
    have ew : wd x = 8 + wd (x / 2 ^ 8) := by
      have := wd_div 8 x
      have hp : 2 ^ 8 ≤ x := by omega
      have h9 : 9 ≤ wd x := by
        apply Decidable.byContradiction
        intro hn
        have h1 := (wd_bounds (show 0 < x by omega)).2
        have : 2 ^ wd x ≤ 2 ^ 8 := Nat.pow_le_pow_right (by omega) (by omega)
        omega
      omega
    rw [ew]
    generalize x / 2 ^ 8 = y at *
    obtain ⟨hw, hwr⟩ := key y hx8
    (conv => whnf); repeat ((first | refine RngK.mk (by omega) (by omega) ?_ | refine NzK.mk (by omega) ?_ | refine NnK.mk (by omega) ?_ | refine BdK.mk (by omega) (by omega) (by omega) ?_ | refine InsK.lit (by omega) (by omega) ?_ | refine SpK.lit ?_ | refine GrdK.same ?_ | refine GrdK.tf ?_ | refine GrdK.ft ?_ | refine PickK.t ?_ | refine PickK.f ?_); (conv => whnf))
    rw [e8, hwr]
    refine ⟨UInt8.ofNat (wd y), by omega, ?_, ?_⟩
    · have e : ((y : Int)).toNat = y := by omega
      rw [e]
      clear hw hwr e8 ew e
      revert y
      decide +kernel
    rw [hb y hw]
    (conv => whnf); repeat ((first | refine RngK.mk (by omega) (by omega) ?_ | refine NzK.mk (by omega) ?_ | refine NnK.mk (by omega) ?_ | refine BdK.mk (by omega) (by omega) (by omega) ?_ | refine InsK.lit (by omega) (by omega) ?_ | refine SpK.lit ?_ | refine GrdK.same ?_ | refine GrdK.tf ?_ | refine GrdK.ft ?_ | refine PickK.t ?_ | refine PickK.f ?_); (conv => whnf))
    exact ⟨rfl, rfl⟩
  · have h' : ¬ (x : Int) ≥ 256 := dF h
    clear h
    obtain ⟨hw, hwr⟩ := key x (by omega)
    (conv => whnf); repeat ((first | refine RngK.mk (by omega) (by omega) ?_ | refine NzK.mk (by omega) ?_ | refine NnK.mk (by omega) ?_ | refine BdK.mk (by omega) (by omega) (by omega) ?_ | refine InsK.lit (by omega) (by omega) ?_ | refine SpK.lit ?_ | refine GrdK.same ?_ | refine GrdK.tf ?_ | refine GrdK.ft ?_ | refine PickK.t ?_ | refine PickK.f ?_); (conv => whnf))
    rw [hwr]
    refine ⟨UInt8.ofNat (wd x), by omega, ?_, ?_⟩
    · have e : ((x : Int)).toNat = x := by omega
      rw [e]
      have hx8 : x < 256 := by omega
      clear hw hwr e h' hx
      revert x
      decide +kernel
    rw [hb x hw]
    (conv => whnf); repeat ((first | refine RngK.mk (by omega) (by omega) ?_ | refine NzK.mk (by omega) ?_ | refine NnK.mk (by omega) ?_ | refine BdK.mk (by omega) (by omega) (by omega) ?_ | refine InsK.lit (by omega) (by omega) ?_ | refine SpK.lit ?_ | refine GrdK.same ?_ | refine GrdK.tf ?_ | refine GrdK.ft ?_ | refine PickK.t ?_ | refine PickK.f ?_); (conv => whnf))
    refine ⟨?_, rfl⟩
    show Value.int _ _ = Value.int _ _
    congr 1
    omega
theorem lz16_spec (x : Nat) (hx : x < 65536) : FnS Tryd.prog 85 [vU16 x] [] (fun _ => True) (Is (vI ((16 - wd x : Nat) : Int))) := by
  have hw : wd x ≤ 16 := wd_lt hx
  refine FnS.intro Tryd.func85 rfl (by kernel_rfl) rfl fun w hH _ => ?_
  (conv => whnf); repeat ((first | refine RngK.mk (by omega) (by omega) ?_ | refine NzK.mk (by omega) ?_ | refine NnK.mk (by omega) ?_ | refine BdK.mk (by omega) (by omega) (by omega) ?_ | refine InsK.lit (by omega) (by omega) ?_ | refine SpK.lit ?_ | refine GrdK.same ?_ | refine GrdK.tf ?_ | refine GrdK.ft ?_ | refine PickK.t ?_ | refine PickK.f ?_); (conv => whnf))
  refine CallK.of0 (len16_spec x hx) ?_
  rintro _ _ ⟨rfl, rfl⟩
  (conv => whnf); repeat ((first | refine RngK.mk (by omega) (by omega) ?_ | refine NzK.mk (by omega) ?_ | refine NnK.mk (by omega) ?_ | refine BdK.mk (by omega) (by omega) (by omega) ?_ | refine InsK.lit (by omega) (by omega) ?_ | refine SpK.lit ?_ | refine GrdK.same ?_ | refine GrdK.tf ?_ | refine GrdK.ft ?_ | refine PickK.t ?_ | refine PickK.f ?_); (conv => whnf))
  refine ⟨?_, rfl⟩
  show Value.int .i64 _ = Value.int .i64 _
  congr 1
  omega
theorem bfse_spec (r : Nat) (off : Int) (A : Option Addr) (n c : Nat) (T : Option Addr) (m mc b : Nat) (zs : List Int) (hc : Counts zs b) (hs : (zs.map rN).sum = 2 ^ b) (hm : 2 ^ b ≤ m) (hmm : m ≤ 1000000) :
    FnS Tryd.prog 81 [.pointer (some ⟨r, 0, none⟩), vI off, .slice A n c, .slice T m mc, vN b] [.own T m mc 132 3 (flE (List.replicate m (0, 0, 0)))]
      (fun w => Rd w (blocks [.own T m mc 132 3 (flE (List.replicate m (0, 0, 0)))]) A n 1 (zs.map vS16))
      (fun v H => v = .nilIface ∧ H = [.own T m mc 132 3 (flE (tabE (buildN zs b) [] (m - 2 ^ b)))]) := by
  refine FnS.introD Tryd.func81 rfl (by kernel_rfl) rfl fun w hH hp => ?_
  have hT : OwnA T m mc := OwnA.of (hH.ok _ List.mem_cons_self)
  obtain ⟨hM1, hM2⟩ := hc.M
  obtain ⟨g, rfl⟩ := hT.ad (by omega)
  have hend := (spread_perm hc hs).2
  have hnum := (nums_of hc hs).pad (k := 256 - zs.length)
  have hpad := bd_pad (b := b) (k := 256 - zs.length) (nums_of hc hs).lt
  have hslen := spread_len hc hs
  obtain ⟨b5, b9, hlen, hlim, hneg⟩ := hc
  obtain rfl : zs.length = n := by simpa using hp.len
  have e0 : ishl .i64 1 (b : Int) = ((2 ^ b : Nat) : Int) := by
    have := ishl_i64 (x := 1) (n := b) (by omega) (by omega)
    rw [Nat.one_mul] at this
    exact this
  have hini : List.replicate m (0, 0, 0) = tabE [] (List.replicate (2 ^ b) 0) (m - 2 ^ b) := by
    unfold tabE
    rw [List.map_nil, List.nil_append, List.map_replicate, show sy0 0 = (0, 0, 0) from rfl, List.replicate_append_replicate]
    congr 1
    omega
  have hand : ∀ a : Nat, a < 2000 → iand .i64 (a : Int) (((2 ^ b : Nat) : Int) - 1) = ((a % 2 ^ b : Nat) : Int) := fun a ha => by
    have e : ((2 ^ b : Nat) : Int) - 1 = ((2 ^ b - 1 : Nat) : Int) := by omega
    rw [e, iand_i64 (by omega) (by omega), Nat.and_two_pow_sub_one_eq_mod]
  have hbN : bd b (nxk zs zs.length) (spreadN zs b) = buildN zs b := by
    unfold nxk
    rw [List.take_of_length_le (by simp)]
    exact hpad
  have hnum : Nums b (nxk zs zs.length) (spreadN zs b) := by
    unfold nxk
    rw [List.take_of_length_le (by simp)]
    exact hnum
  rw [hini] at hp hH ⊢
  obtain ⟨F1, hF1⟩ : ∃ F1, sp1 0 (List.replicate (2 ^ b) 0) (2 ^ b) zs = F1 := ⟨_, rfl⟩
  have hfacts := sp1_facts (N := max 1 zs.length) (counts := zs) (s := 0) (syms := List.replicate (2 ^ b) 0) (high := 2 ^ b) hneg (by simp) (by omega) (fun x hx => by rw [List.eq_of_mem_replicate hx]; omega)
  rw [hF1, List.length_replicate] at hfacts
  rw [hF1] at hend
  obtain ⟨F2, hF2⟩ : ∃ F2, sp2 (2 ^ b) (stepOf (2 ^ b)) F1.2 0 (F1.1, 0) zs = F2 := ⟨_, rfl⟩
  rw [hF2] at hend
  have hsp : spreadN zs b = F2.1 := by
    unfold spreadN
    rw [hF1, hF2]
  rw [hsp] at hslen hbN hnum
  rw [← hbN]
  have hH0 := blocks [.own (some ⟨g, 0, none⟩) m mc 132 3 (flE (tabE [] (List.replicate (2 ^ b) 0) (m - 2 ^ b)))]
  generalize hW : blocks [.own (some ⟨g, 0, none⟩) m mc 132 3 (flE (tabE [] (List.replicate (2 ^ b) 0) (m - 2 ^ b)))] = W at hp ⊢
  have e2b : 2 ^ (b + 1) = 2 ^ b * 2 := Nat.pow_succ _ _
  (conv => whnf); repeat ((first | refine RngK.mk (by omega) (by omega) ?_ | refine NzK.mk (by omega) ?_ | refine NnK.mk (by omega) ?_ | refine BdK.mk (by omega) (by omega) (by omega) ?_ | refine InsK.lit (by omega) (by omega) ?_ | refine SpK.lit ?_ | refine GrdK.same ?_ | refine GrdK.tf ?_ | refine GrdK.ft ?_ | refine PickK.t ?_ | refine PickK.f ?_); (conv => whnf))
  rw [e0]
  (conv => whnf); repeat ((first | refine RngK.mk (by omega) (by omega) ?_ | refine NzK.mk (by omega) ?_ | refine NnK.mk (by omega) ?_ | refine BdK.mk (by omega) (by omega) (by omega) ?_ | refine InsK.lit (by omega) (by omega) ?_ | refine SpK.lit ?_ | refine GrdK.same ?_ | refine GrdK.tf ?_ | refine GrdK.ft ?_ | refine PickK.t ?_ | refine PickK.f ?_); (conv => whnf))
  refine NewK.rep (List.replicate 256 (vU16 0)) rfl rfl (by kernel_rfl) ?_
  have hn0 : List.replicate 256 (vU16 0) = (nxk zs 0).map vU16 := by simp [nxk]
  rw [hn0]
  intro b13
  (conv => whnf); repeat ((first | refine RngK.mk (by omega) (by omega) ?_ | refine NzK.mk (by omega) ?_ | refine NnK.mk (by omega) ?_ | refine BdK.mk (by omega) (by omega) (by omega) ?_ | refine InsK.lit (by omega) (by omega) ?_ | refine SpK.lit ?_ | refine GrdK.same ?_ | refine GrdK.tf ?_ | refine GrdK.ft ?_ | refine PickK.t ?_ | refine PickK.f ?_); (conv => whnf))
  refine Wp.cutEx 0 (fun _ : Unit => [(0, .pointer (some ⟨r, 0, none⟩)), (1, vI off), (2, .slice A zs.length c), (3, .slice (some ⟨g, 0, none⟩) m mc), (4, vN b), (11, vN (2 ^ b)), (12, vI ((F1.2 : Int) - 1)), (13, .pointer (some ⟨b13, 0, none⟩))])
    (fun _ => [.blk b13 157 ((nxk zs zs.length).map vU16), .own (some ⟨g, 0, none⟩) m mc 132 3 (flE (tabE [] F1.1 (m - 2 ^ b)))]) (fun _ => True) ?_ fun _ _ => ?_
  · refine Wp.loop (fun t : Nat × List Nat × Nat => [(0, .pointer (some ⟨r, 0, none⟩)), (1, vI off), (2, .slice A zs.length c), (3, .slice (some ⟨g, 0, none⟩) m mc), (4, vN b), (11, vN (2 ^ b)), (12, vI ((t.2.2 : Int) - 1)), (13, .pointer (some ⟨b13, 0, none⟩)), (31, .slice A zs.length c), (32, vN zs.length), (33, vN t.1)])
      (fun t => [.blk b13 157 ((nxk zs t.1).map vU16), .own (some ⟨g, 0, none⟩) m mc 132 3 (flE (tabE [] t.2.1 (m - 2 ^ b)))]) (fun t => t.1 ≤ zs.length ∧ t.2.1.length = 2 ^ b ∧ t.2.2 ≤ 2 ^ b ∧ negs (zs.drop t.1) ≤ t.2.2 ∧ sp1 t.1 t.2.1 t.2.2 (zs.drop t.1) = F1) (fun t => zs.length - t.1) (0, List.replicate (2 ^ b) 0, 2 ^ b)
      ⟨rfl, rfl, rfl, rfl, rfl, rfl, rfl, rfl, rfl, rfl, rfl, trivial⟩ (HSub.refl _) ⟨Nat.zero_le _, by simp, Nat.le_refl _, hneg, hF1⟩ fun ⟨k, syms, high⟩ ⟨hk, hsl, hhm, hng, hF⟩ => ?_
    dsimp only at hk hsl hhm hng hF ⊢
    (conv => whnf); repeat ((first | refine RngK.mk (by omega) (by omega) ?_ | refine NzK.mk (by omega) ?_ | refine NnK.mk (by omega) ?_ | refine BdK.mk (by omega) (by omega) (by omega) ?_ | refine InsK.lit (by omega) (by omega) ?_ | refine SpK.lit ?_ | refine GrdK.same ?_ | refine GrdK.tf ?_ | refine GrdK.ft ?_ | refine PickK.t ?_ | refine PickK.f ?_); (conv => whnf))
    refine Wp.cond rfl (fun h => ?_) (fun h => ?_)
    · have h := dT h
      have hk' : k < zs.length := by omega
      have hz := hlim _ (List.getElem_mem hk')
      have hset := nxk_set hk' hlen
      have hnl := nxk_len (Nat.le_of_lt hk') hlen
      have ei : IntKind.u8.wrap (k : Int) = (k : Int) := wrap_u_lt rfl (by show k < 256; omega)
      rw [drop_at hk', sp1] at hF
      rw [drop_at hk', negs] at hng
      (conv => whnf); repeat ((first | refine RngK.mk (by omega) (by omega) ?_ | refine NzK.mk (by omega) ?_ | refine NnK.mk (by omega) ?_ | refine BdK.mk (by omega) (by omega) (by omega) ?_ | refine InsK.lit (by omega) (by omega) ?_ | refine SpK.lit ?_ | refine GrdK.same ?_ | refine GrdK.tf ?_ | refine GrdK.ft ?_ | refine PickK.t ?_ | refine PickK.f ?_); (conv => whnf))
      refine InsK.rd hp (by omega) (by omega) ?_
      (conv => whnf); repeat ((first | refine RngK.mk (by omega) (by omega) ?_ | refine NzK.mk (by omega) ?_ | refine NnK.mk (by omega) ?_ | refine BdK.mk (by omega) (by omega) (by omega) ?_ | refine InsK.lit (by omega) (by omega) ?_ | refine SpK.lit ?_ | refine GrdK.same ?_ | refine GrdK.tf ?_ | refine GrdK.ft ?_ | refine PickK.t ?_ | refine PickK.f ?_); (conv => whnf))
      refine LdK.rd (v := vS16 zs[k]) hp k rfl rfl rfl (by simp [hk']) ?_
      (conv => whnf); repeat ((first | refine RngK.mk (by omega) (by omega) ?_ | refine NzK.mk (by omega) ?_ | refine NnK.mk (by omega) ?_ | refine BdK.mk (by omega) (by omega) (by omega) ?_ | refine InsK.lit (by omega) (by omega) ?_ | refine SpK.lit ?_ | refine GrdK.same ?_ | refine GrdK.tf ?_ | refine GrdK.ft ?_ | refine PickK.t ?_ | refine PickK.f ?_); (conv => whnf))
      refine Wp.cond rfl (fun h2 => ?_) (fun h2 => ?_)
      · have h2 : zs[k] ≥ 0 := dT h2
        rw [if_neg (by omega)] at hF hng
        have er : IntKind.u16.wrap zs[k] = ((rN zs[k] : Nat) : Int) := by
          obtain ⟨y, hy⟩ := Int.eq_ofNat_of_zero_le h2
          have : rN zs[k] = y := by unfold rN; rw [hy]; split <;> omega
          rw [this, hy]
          exact wrap_u_lt rfl (by show y < 65536; omega)
        (conv => whnf); repeat ((first | refine RngK.mk (by omega) (by omega) ?_ | refine NzK.mk (by omega) ?_ | refine NnK.mk (by omega) ?_ | refine BdK.mk (by omega) (by omega) (by omega) ?_ | refine InsK.lit (by omega) (by omega) ?_ | refine SpK.lit ?_ | refine GrdK.same ?_ | refine GrdK.tf ?_ | refine GrdK.ft ?_ | refine PickK.t ?_ | refine PickK.f ?_); (conv => whnf))
        rw [ei, er]
        (conv => whnf); repeat ((first | refine RngK.mk (by omega) (by omega) ?_ | refine NzK.mk (by omega) ?_ | refine NnK.mk (by omega) ?_ | refine BdK.mk (by omega) (by omega) (by omega) ?_ | refine InsK.lit (by omega) (by omega) ?_ | refine SpK.lit ?_ | refine GrdK.same ?_ | refine GrdK.tf ?_ | refine GrdK.ft ?_ | refine PickK.t ?_ | refine PickK.f ?_); (conv => whnf))
        refine StK.blkE 0 ((nxk zs (k + 1)).map vU16) rfl rfl rfl rfl (by simp [hnl]; omega) (by rw [← hset, List.map_set, Nat.zero_add]; rfl) ?_
        (conv => whnf); repeat ((first | refine RngK.mk (by omega) (by omega) ?_ | refine NzK.mk (by omega) ?_ | refine NnK.mk (by omega) ?_ | refine BdK.mk (by omega) (by omega) (by omega) ?_ | refine InsK.lit (by omega) (by omega) ?_ | refine SpK.lit ?_ | refine GrdK.same ?_ | refine GrdK.tf ?_ | refine GrdK.ft ?_ | refine PickK.t ?_ | refine PickK.f ?_); (conv => whnf))
        exact ⟨(k + 1, syms, high), ⟨rfl, rfl, rfl, rfl, rfl, rfl, rfl, rfl, rfl, rfl, rfl, trivial⟩, HSub.refl _, ⟨by simp only; omega, hsl, hhm, hng, hF⟩, by simp only; omega⟩
      · have h2 : ¬ zs[k] ≥ 0 := dF h2
        have hz1 : zs[k] = -1 := by omega
        rw [if_pos hz1] at hF hng
        have eh : (high : Int) - 1 = ((high - 1 : Nat) : Int) := by omega
        have er : rN zs[k] = 1 := by unfold rN; rw [if_pos hz1]
        have hlt : high - 1 < syms.length := by omega
        have hat := tabE_at [] (k := m - 2 ^ b) hlt
        have hst := tabE_set [] (k := m - 2 ^ b) (s := k) hlt
        rw [List.length_nil, Nat.zero_add] at hat hst
        rw [eh]
        (conv => whnf); repeat ((first | refine RngK.mk (by omega) (by omega) ?_ | refine NzK.mk (by omega) ?_ | refine NnK.mk (by omega) ?_ | refine BdK.mk (by omega) (by omega) (by omega) ?_ | refine InsK.lit (by omega) (by omega) ?_ | refine SpK.lit ?_ | refine GrdK.same ?_ | refine GrdK.tf ?_ | refine GrdK.ft ?_ | refine PickK.t ?_ | refine PickK.f ?_); (conv => whnf))
        rw [ei]
        (conv => whnf); repeat ((first | refine RngK.mk (by omega) (by omega) ?_ | refine NzK.mk (by omega) ?_ | refine NnK.mk (by omega) ?_ | refine BdK.mk (by omega) (by omega) (by omega) ?_ | refine InsK.lit (by omega) (by omega) ?_ | refine SpK.lit ?_ | refine GrdK.same ?_ | refine GrdK.tf ?_ | refine GrdK.ft ?_ | refine PickK.t ?_ | refine PickK.f ?_); (conv => whnf))
        refine StK.own 1 ((high - 1) * 3 + 0) rfl ⟨g, rfl⟩ rfl rfl rfl rfl (by rw [flE_len]; simp [tabE]; omega) ?_
        rw [flE_set (e' := sy0 k) hat (by omega) rfl, hst]
        (conv => whnf); repeat ((first | refine RngK.mk (by omega) (by omega) ?_ | refine NzK.mk (by omega) ?_ | refine NnK.mk (by omega) ?_ | refine BdK.mk (by omega) (by omega) (by omega) ?_ | refine InsK.lit (by omega) (by omega) ?_ | refine SpK.lit ?_ | refine GrdK.same ?_ | refine GrdK.tf ?_ | refine GrdK.ft ?_ | refine PickK.t ?_ | refine PickK.f ?_); (conv => whnf))
        rw [ei]
        (conv => whnf); repeat ((first | refine RngK.mk (by omega) (by omega) ?_ | refine NzK.mk (by omega) ?_ | refine NnK.mk (by omega) ?_ | refine BdK.mk (by omega) (by omega) (by omega) ?_ | refine InsK.lit (by omega) (by omega) ?_ | refine SpK.lit ?_ | refine GrdK.same ?_ | refine GrdK.tf ?_ | refine GrdK.ft ?_ | refine PickK.t ?_ | refine PickK.f ?_); (conv => whnf))
        refine StK.blkE 0 ((nxk zs (k + 1)).map vU16) rfl rfl rfl rfl (by simp [hnl]; omega) (by rw [← hset, List.map_set, Nat.zero_add, er]; rfl) ?_
        (conv => whnf); repeat ((first | refine RngK.mk (by omega) (by omega) ?_ | refine NzK.mk (by omega) ?_ | refine NnK.mk (by omega) ?_ | refine BdK.mk (by omega) (by omega) (by omega) ?_ | refine InsK.lit (by omega) (by omega) ?_ | refine SpK.lit ?_ | refine GrdK.same ?_ | refine GrdK.tf ?_ | refine GrdK.ft ?_ | refine PickK.t ?_ | refine PickK.f ?_); (conv => whnf))
        exact ⟨(k + 1, syms.set (high - 1) k, high - 1), ⟨rfl, rfl, rfl, rfl, rfl, rfl, rfl, rfl, rfl, rfl, rfl, trivial⟩, HSub.refl _, ⟨by simp only; omega, by simp only [List.length_set]; exact hsl, by simp only; omega, by simp only; omega, hF⟩, by simp only; omega⟩
    · have h := dF h
      have hkl : k = zs.length := by omega
      rw [List.drop_of_length_le (by omega), sp1] at hF
      subst hF hkl
      (conv => whnf); repeat ((first | refine RngK.mk (by omega) (by omega) ?_ | refine NzK.mk (by omega) ?_ | refine NnK.mk (by omega) ?_ | refine BdK.mk (by omega) (by omega) (by omega) ?_ | refine InsK.lit (by omega) (by omega) ?_ | refine SpK.lit ?_ | refine GrdK.same ?_ | refine GrdK.tf ?_ | refine GrdK.ft ?_ | refine PickK.t ?_ | refine PickK.f ?_); (conv => whnf))
      exact ⟨(), ⟨rfl, rfl, rfl, rfl, rfl, rfl, rfl, rfl, trivial⟩, HSub.refl _, trivial⟩
  have e1 : ishr .i64 ((2 ^ b : Nat) : Int) 1 = ((2 ^ b / 2 : Nat) : Int) := ishr_nat .i64 (2 ^ b) (n := 1) (by decide)
  have e3 : ishr .i64 ((2 ^ b : Nat) : Int) 3 = ((2 ^ b / 8 : Nat) : Int) := ishr_nat .i64 (2 ^ b) (n := 3) (by decide)
  (conv => whnf); repeat ((first | refine RngK.mk (by omega) (by omega) ?_ | refine NzK.mk (by omega) ?_ | refine NnK.mk (by omega) ?_ | refine BdK.mk (by omega) (by omega) (by omega) ?_ | refine InsK.lit (by omega) (by omega) ?_ | refine SpK.lit ?_ | refine GrdK.same ?_ | refine GrdK.tf ?_ | refine GrdK.ft ?_ | refine PickK.t ?_ | refine PickK.f ?_); (conv => whnf))
  rw [e1, e3]
  (conv => whnf); repeat ((first | refine RngK.mk (by omega) (by omega) ?_ | refine NzK.mk (by omega) ?_ | refine NnK.mk (by omega) ?_ | refine BdK.mk (by omega) (by omega) (by omega) ?_ | refine InsK.lit (by omega) (by omega) ?_ | refine SpK.lit ?_ | refine GrdK.same ?_ | refine GrdK.tf ?_ | refine GrdK.ft ?_ | refine PickK.t ?_ | refine PickK.f ?_); (conv => whnf))
  have hstep : ((2 ^ b / 2 : Nat) : Int) + ((2 ^ b / 8 : Nat) : Int) + 3 = ((stepOf (2 ^ b) : Nat) : Int) := rfl
  rw [hstep]
  have hsb : stepOf (2 ^ b) ≤ 1000 := by unfold stepOf; omega
  obtain ⟨high, hhigh⟩ : ∃ high, F1.2 = high := ⟨_, rfl⟩
  obtain ⟨N, hN⟩ : ∃ N, max 1 zs.length = N := ⟨_, rfl⟩
  have hL0 : Laying (2 ^ b) (stepOf (2 ^ b)) N (F1.1, 0) := ⟨hfacts.1, by simp only; omega, Reach.zero _ _, by rw [← hN]; exact hfacts.2.2⟩
  rw [hhigh] at hF2 hfacts ⊢
  rw [hN] at hfacts
  have hpos : ∀ k (hk : k < zs.length), zs[k].toNat ≤ high := fun k hk => by
    have h1 := pos_le 0 hk
    have h2 := count_sum zs 0
    rw [hs] at h2
    omega
  generalize stepOf (2 ^ b) = step at *
  refine Wp.cutEx 2 (fun _ : Unit => [(0, .pointer (some ⟨r, 0, none⟩)), (1, vI off), (3, .slice (some ⟨g, 0, none⟩) m mc), (4, vN b), (11, vN (2 ^ b)), (13, .pointer (some ⟨b13, 0, none⟩)), (16, vI 0)])
    (fun _ => [.blk b13 157 ((nxk zs zs.length).map vU16), .own (some ⟨g, 0, none⟩) m mc 132 3 (flE (tabE [] F2.1 (m - 2 ^ b)))]) (fun _ => True) ?_ fun _ _ => ?_
  · refine Wp.loop (fun t : Nat × List Nat × Nat => [(0, .pointer (some ⟨r, 0, none⟩)), (1, vI off), (3, .slice (some ⟨g, 0, none⟩) m mc), (4, vN b), (11, vN (2 ^ b)), (12, vI ((high : Int) - 1)), (13, .pointer (some ⟨b13, 0, none⟩)), (16, vN t.2.2), (17, vN step), (18, vI (((2 ^ b : Nat) : Int) - 1)), (65, .slice A zs.length c), (66, vN zs.length), (67, vN t.1)])
      (fun t => [.blk b13 157 ((nxk zs zs.length).map vU16), .own (some ⟨g, 0, none⟩) m mc 132 3 (flE (tabE [] t.2.1 (m - 2 ^ b)))]) (fun t => t.1 ≤ zs.length ∧ Laying (2 ^ b) step N t.2 ∧ sp2 (2 ^ b) step high t.1 t.2 (zs.drop t.1) = F2) (fun t => zs.length - t.1) (0, F1.1, 0)
      ⟨rfl, rfl, rfl, rfl, rfl, rfl, rfl, rfl, rfl, rfl, rfl, rfl, rfl, trivial⟩ (HSub.refl _) ⟨Nat.zero_le _, hL0, hF2⟩ fun ⟨k, st⟩ ⟨hk, hL, hF⟩ => ?_
    dsimp only at hk hL hF ⊢
    (conv => whnf); repeat ((first | refine RngK.mk (by omega) (by omega) ?_ | refine NzK.mk (by omega) ?_ | refine NnK.mk (by omega) ?_ | refine BdK.mk (by omega) (by omega) (by omega) ?_ | refine InsK.lit (by omega) (by omega) ?_ | refine SpK.lit ?_ | refine GrdK.same ?_ | refine GrdK.tf ?_ | refine GrdK.ft ?_ | refine PickK.t ?_ | refine PickK.f ?_); (conv => whnf))
    refine Wp.cond rfl (fun h => ?_) (fun h => ?_)
    · have h := dT h
      have hk' : k < zs.length := by omega
      have hzl := hlim _ (List.getElem_mem hk')
      have hzp := hpos k hk'
      have ei : IntKind.u8.wrap (k : Int) = (k : Int) := wrap_u_lt rfl (by show k < 256; omega)
      rw [drop_at hk', sp2] at hF
      (conv => whnf); repeat ((first | refine RngK.mk (by omega) (by omega) ?_ | refine NzK.mk (by omega) ?_ | refine NnK.mk (by omega) ?_ | refine BdK.mk (by omega) (by omega) (by omega) ?_ | refine InsK.lit (by omega) (by omega) ?_ | refine SpK.lit ?_ | refine GrdK.same ?_ | refine GrdK.tf ?_ | refine GrdK.ft ?_ | refine PickK.t ?_ | refine PickK.f ?_); (conv => whnf))
      refine InsK.rd hp (by omega) (by omega) ?_
      (conv => whnf); repeat ((first | refine RngK.mk (by omega) (by omega) ?_ | refine NzK.mk (by omega) ?_ | refine NnK.mk (by omega) ?_ | refine BdK.mk (by omega) (by omega) (by omega) ?_ | refine InsK.lit (by omega) (by omega) ?_ | refine SpK.lit ?_ | refine GrdK.same ?_ | refine GrdK.tf ?_ | refine GrdK.ft ?_ | refine PickK.t ?_ | refine PickK.f ?_); (conv => whnf))
      refine LdK.rd (v := vS16 zs[k]) hp k rfl rfl rfl (by simp [hk']) ?_
      (conv => whnf); repeat ((first | refine RngK.mk (by omega) (by omega) ?_ | refine NzK.mk (by omega) ?_ | refine NnK.mk (by omega) ?_ | refine BdK.mk (by omega) (by omega) (by omega) ?_ | refine InsK.lit (by omega) (by omega) ?_ | refine SpK.lit ?_ | refine GrdK.same ?_ | refine GrdK.tf ?_ | refine GrdK.ft ?_ | refine PickK.t ?_ | refine PickK.f ?_); (conv => whnf))
      refine Wp.loop (fun t : Nat × List Nat × Nat => [(0, .pointer (some ⟨r, 0, none⟩)), (1, vI off), (3, .slice (some ⟨g, 0, none⟩) m mc), (4, vN b), (11, vN (2 ^ b)), (12, vI ((high : Int) - 1)), (13, .pointer (some ⟨b13, 0, none⟩)), (16, vN t.2.2), (17, vN step), (18, vI (((2 ^ b : Nat) : Int) - 1)), (65, .slice A zs.length c), (66, vN zs.length), (67, vN k), (19, vN k), (20, vS16 zs[k]), (21, vN t.1)])
        (fun t => [.blk b13 157 ((nxk zs zs.length).map vU16), .own (some ⟨g, 0, none⟩) m mc 132 3 (flE (tabE [] t.2.1 (m - 2 ^ b)))]) (fun t => t.1 ≤ 1000 ∧ Laying (2 ^ b) step N t.2 ∧ sp2 (2 ^ b) step high (k + 1) (putN (2 ^ b) step high k (zs[k].toNat - t.1) t.2) (zs.drop (k + 1)) = F2) (fun t => zs[k].toNat - t.1) (0, st)
        ⟨rfl, rfl, rfl, rfl, rfl, rfl, rfl, rfl, rfl, rfl, rfl, rfl, rfl, rfl, rfl, rfl, trivial⟩ (HSub.refl _) ⟨by simp only; omega, hL, hF⟩ fun ⟨j, st⟩ ⟨hj, hL, hF⟩ => ?_
      dsimp only at hj hL hF ⊢
      have hlt := hL.lt
      have hsl := hL.len
      (conv => whnf); repeat ((first | refine RngK.mk (by omega) (by omega) ?_ | refine NzK.mk (by omega) ?_ | refine NnK.mk (by omega) ?_ | refine BdK.mk (by omega) (by omega) (by omega) ?_ | refine InsK.lit (by omega) (by omega) ?_ | refine SpK.lit ?_ | refine GrdK.same ?_ | refine GrdK.tf ?_ | refine GrdK.ft ?_ | refine PickK.t ?_ | refine PickK.f ?_); (conv => whnf))
      refine Wp.cond rfl (fun h2 => ?_) (fun h2 => ?_)
      · have h2 := dT h2
        have ej : zs[k].toNat - j = zs[k].toNat - (j + 1) + 1 := by omega
        rw [ej, putN] at hF
        have hL' := hL.put1 (high := high) (s := k) (by omega : k < N)
        unfold put1 at hF hL'
        have hat := tabE_at [] (k := m - 2 ^ b) (show st.2 < st.1.length by omega)
        have hst := tabE_set [] (k := m - 2 ^ b) (s := k) (show st.2 < st.1.length by omega)
        rw [List.length_nil, Nat.zero_add] at hat hst
        (conv => whnf); repeat ((first | refine RngK.mk (by omega) (by omega) ?_ | refine NzK.mk (by omega) ?_ | refine NnK.mk (by omega) ?_ | refine BdK.mk (by omega) (by omega) (by omega) ?_ | refine InsK.lit (by omega) (by omega) ?_ | refine SpK.lit ?_ | refine GrdK.same ?_ | refine GrdK.tf ?_ | refine GrdK.ft ?_ | refine PickK.t ?_ | refine PickK.f ?_); (conv => whnf))
        rw [ei]
        refine StK.own 1 (st.2 * 3 + 0) rfl ⟨g, rfl⟩ rfl rfl rfl rfl (by rw [flE_len]; simp [tabE]; omega) ?_
        rw [flE_set (e' := sy0 k) hat (by omega) rfl, hst]
        (conv => whnf); repeat ((first | refine RngK.mk (by omega) (by omega) ?_ | refine NzK.mk (by omega) ?_ | refine NnK.mk (by omega) ?_ | refine BdK.mk (by omega) (by omega) (by omega) ?_ | refine InsK.lit (by omega) (by omega) ?_ | refine SpK.lit ?_ | refine GrdK.same ?_ | refine GrdK.tf ?_ | refine GrdK.ft ?_ | refine PickK.t ?_ | refine PickK.f ?_); (conv => whnf))
        have em : ∀ a : Nat, a < 2 ^ b → iand .i64 ((a : Int) + (step : Int)) (((2 ^ b : Nat) : Int) - 1) = (((a + step) % 2 ^ b : Nat) : Int) := fun a ha => by
          have : (a : Int) + (step : Int) = ((a + step : Nat) : Int) := by omega
          rw [this, hand _ (by omega)]
        rw [em _ hlt]
        obtain ⟨kk, hkk, hB⟩ := hL.re.next.back (by omega)
        have hsk := skip_same (high := high) hB hkk
        obtain ⟨T, hT⟩ : ∃ T, skip (2 ^ b) step high (2 ^ b) ((st.2 + step) % 2 ^ b) = T := ⟨_, rfl⟩
        rw [hT] at hF hL' hsk
        refine Wp.loop (fun t : Nat × Nat => [(0, .pointer (some ⟨r, 0, none⟩)), (1, vI off), (3, .slice (some ⟨g, 0, none⟩) m mc), (4, vN b), (11, vN (2 ^ b)), (12, vI ((high : Int) - 1)), (13, .pointer (some ⟨b13, 0, none⟩)), (16, vN t.1), (17, vN step), (18, vI (((2 ^ b : Nat) : Int) - 1)), (65, .slice A zs.length c), (66, vN zs.length), (67, vN k), (19, vN k), (20, vS16 zs[k]), (21, vN j)])
          (fun t => [.blk b13 157 ((nxk zs zs.length).map vU16), .own (some ⟨g, 0, none⟩) m mc 132 3 (flE (tabE [] (st.1.set st.2 k) (m - 2 ^ b)))]) (fun t => Back (2 ^ b) step t.1 t.2 ∧ T = skip (2 ^ b) step high t.2 t.1) (fun t => t.2) ((st.2 + step) % 2 ^ b, kk)
          ⟨rfl, rfl, rfl, rfl, rfl, rfl, rfl, rfl, rfl, rfl, rfl, rfl, rfl, rfl, rfl, rfl, trivial⟩ (HSub.refl _) ⟨hB, hsk⟩ fun ⟨a, kk⟩ ⟨hB, hsk⟩ => ?_
        dsimp only at hB hsk ⊢
        have hab := hB.1
        have hstop : ¬ (high ≤ a ∧ 0 < a) → T = a := fun hn => by
          cases kk with
          | zero => exact hsk
          | succ kk => rw [skip, if_neg hn] at hsk; exact hsk
        (conv => whnf); repeat ((first | refine RngK.mk (by omega) (by omega) ?_ | refine NzK.mk (by omega) ?_ | refine NnK.mk (by omega) ?_ | refine BdK.mk (by omega) (by omega) (by omega) ?_ | refine InsK.lit (by omega) (by omega) ?_ | refine SpK.lit ?_ | refine GrdK.same ?_ | refine GrdK.tf ?_ | refine GrdK.ft ?_ | refine PickK.t ?_ | refine PickK.f ?_); (conv => whnf))
        refine Wp.cond rfl (fun g2 => ?_) (fun g2 => ?_)
        · have g2 : (a : Int) > (high : Int) - 1 := dT g2
          cases kk with
          | zero => have := hB.pos; omega
          | succ kk =>
            rw [skip, if_pos (by omega)] at hsk
            (conv => whnf); repeat ((first | refine RngK.mk (by omega) (by omega) ?_ | refine NzK.mk (by omega) ?_ | refine NnK.mk (by omega) ?_ | refine BdK.mk (by omega) (by omega) (by omega) ?_ | refine InsK.lit (by omega) (by omega) ?_ | refine SpK.lit ?_ | refine GrdK.same ?_ | refine GrdK.tf ?_ | refine GrdK.ft ?_ | refine PickK.t ?_ | refine PickK.f ?_); (conv => whnf))
            rw [em _ hab]
            exact ⟨((a + step) % 2 ^ b, kk), ⟨rfl, rfl, rfl, rfl, rfl, rfl, rfl, rfl, rfl, rfl, rfl, rfl, rfl, rfl, rfl, rfl, trivial⟩, HSub.refl _, ⟨hB.next, hsk⟩, Nat.lt_succ_self _⟩
        · have g2 : ¬ (a : Int) > (high : Int) - 1 := dF g2
          have hTa := hstop (by omega)
          subst hTa
          (conv => whnf); repeat ((first | refine RngK.mk (by omega) (by omega) ?_ | refine NzK.mk (by omega) ?_ | refine NnK.mk (by omega) ?_ | refine BdK.mk (by omega) (by omega) (by omega) ?_ | refine InsK.lit (by omega) (by omega) ?_ | refine SpK.lit ?_ | refine GrdK.same ?_ | refine GrdK.tf ?_ | refine GrdK.ft ?_ | refine PickK.t ?_ | refine PickK.f ?_); (conv => whnf))
          exact ⟨(j + 1, st.1.set st.2 k, T), ⟨rfl, rfl, rfl, rfl, rfl, rfl, rfl, rfl, rfl, rfl, rfl, rfl, rfl, rfl, rfl, rfl, trivial⟩, HSub.refl _, ⟨by simp only; omega, hL', hF⟩, by simp only; omega⟩
      · have h2 := dF h2
        have ej : zs[k].toNat - j = 0 := by omega
        rw [ej, putN] at hF
        (conv => whnf); repeat ((first | refine RngK.mk (by omega) (by omega) ?_ | refine NzK.mk (by omega) ?_ | refine NnK.mk (by omega) ?_ | refine BdK.mk (by omega) (by omega) (by omega) ?_ | refine InsK.lit (by omega) (by omega) ?_ | refine SpK.lit ?_ | refine GrdK.same ?_ | refine GrdK.tf ?_ | refine GrdK.ft ?_ | refine PickK.t ?_ | refine PickK.f ?_); (conv => whnf))
        exact ⟨(k + 1, st), ⟨rfl, rfl, rfl, rfl, rfl, rfl, rfl, rfl, rfl, rfl, rfl, rfl, rfl, trivial⟩, HSub.refl _, ⟨by simp only; omega, hL, hF⟩, by simp only; omega⟩
    · have h := dF h
      rw [List.drop_of_length_le (by omega), sp2] at hF
      subst hF
      (conv => whnf); repeat ((first | refine RngK.mk (by omega) (by omega) ?_ | refine NzK.mk (by omega) ?_ | refine NnK.mk (by omega) ?_ | refine BdK.mk (by omega) (by omega) (by omega) ?_ | refine InsK.lit (by omega) (by omega) ?_ | refine SpK.lit ?_ | refine GrdK.same ?_ | refine GrdK.tf ?_ | refine GrdK.ft ?_ | refine PickK.t ?_ | refine PickK.f ?_); (conv => whnf))
      exact ⟨(), ⟨rfl, rfl, rfl, rfl, rfl, rfl, by show some (vN st.2) = some (vI 0); rw [hend]; rfl, trivial⟩, HSub.refl _, trivial⟩
  (conv => whnf); repeat ((first | refine RngK.mk (by omega) (by omega) ?_ | refine NzK.mk (by omega) ?_ | refine NnK.mk (by omega) ?_ | refine BdK.mk (by omega) (by omega) (by omega) ?_ | refine InsK.lit (by omega) (by omega) ?_ | refine SpK.lit ?_ | refine GrdK.same ?_ | refine GrdK.tf ?_ | refine GrdK.ft ?_ | refine PickK.t ?_ | refine PickK.f ?_); (conv => whnf))
  refine Wp.cond rfl (fun h => by cases h) (fun _ => ?_)
  obtain ⟨sy, hsy⟩ : ∃ sy, F2.1 = sy := ⟨_, rfl⟩
  obtain ⟨nx0, hnx0⟩ : ∃ nx0, nxk zs zs.length = nx0 := ⟨_, rfl⟩
  have hnxl : nx0.length = 256 := by rw [← hnx0]; exact nxk_len (Nat.le_refl _) hlen
  rw [hsy] at hslen hbN hnum ⊢
  rw [hnx0] at hbN hnum ⊢
  obtain ⟨F, hF⟩ : ∃ F, bd b nx0 sy = F := ⟨_, rfl⟩
  have hFl : F.length = 2 ^ b := by
    rw [← hF, ← hslen]
    have : ∀ (syms next : List Nat), (bd b next syms).length = syms.length := by
      intro syms
      induction syms with
      | nil => intro _; rfl
      | cons s r ih => intro next; rw [bd_cons, List.length_cons, List.length_cons, ih]
    exact this _ _
  rw [hF]
  (conv => whnf); repeat ((first | refine RngK.mk (by omega) (by omega) ?_ | refine NzK.mk (by omega) ?_ | refine NnK.mk (by omega) ?_ | refine BdK.mk (by omega) (by omega) (by omega) ?_ | refine InsK.lit (by omega) (by omega) ?_ | refine SpK.lit ?_ | refine GrdK.same ?_ | refine GrdK.tf ?_ | refine GrdK.ft ?_ | refine PickK.t ?_ | refine PickK.f ?_); (conv => whnf))
  refine Wp.cutEx 8 (fun _ : Unit => [])
    (fun _ => [.own (some ⟨g, 0, none⟩) m mc 132 3 (flE (tabE F [] (m - 2 ^ b)))]) (fun _ => True) ?_ fun _ _ => ?_
  · refine Wp.loop (fun t : Nat × List Nat × List St => [(0, .pointer (some ⟨r, 0, none⟩)), (1, vI off), (3, .slice (some ⟨g, 0, none⟩) m mc), (4, vN b), (11, vN (2 ^ b)), (13, .pointer (some ⟨b13, 0, none⟩)), (22, vN t.1)])
      (fun t => [.blk b13 157 (t.2.1.map vU16), .own (some ⟨g, 0, none⟩) m mc 132 3 (flE (tabE t.2.2 (sy.drop t.1) (m - 2 ^ b)))])
      (fun t => t.1 ≤ 2 ^ b ∧ t.2.1.length = 256 ∧ Nums b t.2.1 (sy.drop t.1) ∧ t.2.2.length = t.1 ∧ t.2.2 ++ bd b t.2.1 (sy.drop t.1) = F) (fun t => 2 ^ b - t.1) (0, nx0, [])
      ⟨rfl, rfl, rfl, rfl, rfl, rfl, rfl, trivial⟩ (HSub.refl _) ⟨Nat.zero_le _, hnxl, hnum, rfl, hF⟩ fun ⟨i, nx, done⟩ ⟨hi, hnl, hnm, hdl, hbd⟩ => ?_
    dsimp only at hi hnl hnm hdl hbd ⊢
    (conv => whnf); repeat ((first | refine RngK.mk (by omega) (by omega) ?_ | refine NzK.mk (by omega) ?_ | refine NnK.mk (by omega) ?_ | refine BdK.mk (by omega) (by omega) (by omega) ?_ | refine InsK.lit (by omega) (by omega) ?_ | refine SpK.lit ?_ | refine GrdK.same ?_ | refine GrdK.tf ?_ | refine GrdK.ft ?_ | refine PickK.t ?_ | refine PickK.f ?_); (conv => whnf))
    refine Wp.cond rfl (fun h => ?_) (fun h => ?_)
    · have h := dT h
      have hi' : i < sy.length := by omega
      rw [drop_at hi'] at hnm hbd ⊢
      obtain ⟨s1, s2, s3⟩ := hnm.head
      have hnm' := hnm.tail
      rw [bd_cons] at hbd
      have hgs : (nx.map vU16)[sy[i]]? = some (vU16 (nx.getD sy[i] 0)) := by simp [List.getD, s1]
      generalize sy[i] = s at *
      generalize nx.getD s 0 = mm at *
      obtain ⟨n1, n2, n3, n4⟩ := num_bounds s2 s3
      have hat : (tabE done (s :: sy.drop (i + 1)) (m - 2 ^ b))[i]? = some (sy0 s) := by
        have := tabE_at done (syms := s :: sy.drop (i + 1)) (k := m - 2 ^ b) (i := 0) (by simp)
        rw [Nat.add_zero, hdl] at this
        exact this
      have hread : readOf b mm ≤ b := by unfold readOf; omega
      have hpr : 2 ^ readOf b mm ≤ 2 ^ b := Nat.pow_le_pow_right (by omega) hread
      have hpr0 := Nat.two_pow_pos (readOf b mm)
      rw [Nat.succ_mul] at n2
      obtain ⟨rd, hrd⟩ : ∃ rd, readOf b mm = rd := ⟨_, rfl⟩
      have hwd : wd mm + rd = b + 1 := by unfold readOf at hrd; omega
      have est : stOf b s mm = (s, rd, ((mm * 2 ^ rd : Nat) : Int) - ((2 ^ b : Nat) : Int)) := by unfold stOf; rw [hrd]
      rw [est] at hbd
      rw [hrd] at n1 n2 hread hpr hpr0
      have hmm : mm < 1024 := by omega
      have ea : IntKind.u16.wrap ((mm : Int) + 1) = ((mm + 1 : Nat) : Int) := wrap_u_lt (n := mm + 1) rfl (by show mm + 1 < 65536; omega)
      have eb : IntKind.u8.wrap (rd : Int) = (rd : Int) := wrap_u_lt rfl (by show rd < 256; omega)
      have ec : ishl .u16 (mm : Int) (rd : Int) = ((mm * 2 ^ rd : Nat) : Int) := by
        rw [ishl_u (k := .u16) rfl mm (by show rd ≤ 16; omega), Nat.mod_eq_of_lt (by show _ < 65536; omega)]
      have ed : IntKind.u16.wrap ((2 ^ b : Nat) : Int) = ((2 ^ b : Nat) : Int) := wrap_u_lt rfl (by show 2 ^ b < 65536; omega)
      generalize mm * 2 ^ rd = pr at *
      have ee : IntKind.u16.wrap ((pr : Int) - ((2 ^ b : Nat) : Int)) = ((pr - 2 ^ b : Nat) : Int) := by
        have : (pr : Int) - ((2 ^ b : Nat) : Int) = ((pr - 2 ^ b : Nat) : Int) := by omega
        rw [this]
        exact wrap_u_lt rfl (by show _ < 65536; omega)
      (conv => whnf); repeat ((first | refine RngK.mk (by omega) (by omega) ?_ | refine NzK.mk (by omega) ?_ | refine NnK.mk (by omega) ?_ | refine BdK.mk (by omega) (by omega) (by omega) ?_ | refine InsK.lit (by omega) (by omega) ?_ | refine SpK.lit ?_ | refine GrdK.same ?_ | refine GrdK.tf ?_ | refine GrdK.ft ?_ | refine PickK.t ?_ | refine PickK.f ?_); (conv => whnf))
      refine LdK.own (v := .int .u8 (s : Int)) 1 (i * 3 + 0) rfl rfl rfl rfl (flE_at hat (q := 0) rfl) ?_
      (conv => whnf); repeat ((first | refine RngK.mk (by omega) (by omega) ?_ | refine NzK.mk (by omega) ?_ | refine NnK.mk (by omega) ?_ | refine BdK.mk (by omega) (by omega) (by omega) ?_ | refine InsK.lit (by omega) (by omega) ?_ | refine SpK.lit ?_ | refine GrdK.same ?_ | refine GrdK.tf ?_ | refine GrdK.ft ?_ | refine PickK.t ?_ | refine PickK.f ?_); (conv => whnf))
      refine LdK.blk 0 rfl rfl rfl (by rw [Nat.zero_add]; exact hgs) ?_
      (conv => whnf); repeat ((first | refine RngK.mk (by omega) (by omega) ?_ | refine NzK.mk (by omega) ?_ | refine NnK.mk (by omega) ?_ | refine BdK.mk (by omega) (by omega) (by omega) ?_ | refine InsK.lit (by omega) (by omega) ?_ | refine SpK.lit ?_ | refine GrdK.same ?_ | refine GrdK.tf ?_ | refine GrdK.ft ?_ | refine PickK.t ?_ | refine PickK.f ?_); (conv => whnf))
      refine LdK.blk 0 rfl rfl rfl (by rw [Nat.zero_add]; exact hgs) ?_
      (conv => whnf); repeat ((first | refine RngK.mk (by omega) (by omega) ?_ | refine NzK.mk (by omega) ?_ | refine NnK.mk (by omega) ?_ | refine BdK.mk (by omega) (by omega) (by omega) ?_ | refine InsK.lit (by omega) (by omega) ?_ | refine SpK.lit ?_ | refine GrdK.same ?_ | refine GrdK.tf ?_ | refine GrdK.ft ?_ | refine PickK.t ?_ | refine PickK.f ?_); (conv => whnf))
      rw [ea]
      refine StK.blkE 0 ((nx.set s (mm + 1)).map vU16) rfl rfl rfl rfl (by simp [hnl]; omega) (by rw [List.map_set, Nat.zero_add]; rfl) ?_
      (conv => whnf); repeat ((first | refine RngK.mk (by omega) (by omega) ?_ | refine NzK.mk (by omega) ?_ | refine NnK.mk (by omega) ?_ | refine BdK.mk (by omega) (by omega) (by omega) ?_ | refine InsK.lit (by omega) (by omega) ?_ | refine SpK.lit ?_ | refine GrdK.same ?_ | refine GrdK.tf ?_ | refine GrdK.ft ?_ | refine PickK.t ?_ | refine PickK.f ?_); (conv => whnf))
      refine Wp.cond rfl (fun g1 => ?_) (fun g1 => ?_)
      · have g1 : (mm : Int) = 0 := eqT g1
        omega
      (conv => whnf); repeat ((first | refine RngK.mk (by omega) (by omega) ?_ | refine NzK.mk (by omega) ?_ | refine NnK.mk (by omega) ?_ | refine BdK.mk (by omega) (by omega) (by omega) ?_ | refine InsK.lit (by omega) (by omega) ?_ | refine SpK.lit ?_ | refine GrdK.same ?_ | refine GrdK.tf ?_ | refine GrdK.ft ?_ | refine PickK.t ?_ | refine PickK.f ?_); (conv => whnf))
      refine CallK.of0 (lz16_spec mm (by omega)) ?_
      rintro _ _ ⟨rfl, rfl⟩
      (conv => whnf); repeat ((first | refine RngK.mk (by omega) (by omega) ?_ | refine NzK.mk (by omega) ?_ | refine NnK.mk (by omega) ?_ | refine BdK.mk (by omega) (by omega) (by omega) ?_ | refine InsK.lit (by omega) (by omega) ?_ | refine SpK.lit ?_ | refine GrdK.same ?_ | refine GrdK.tf ?_ | refine GrdK.ft ?_ | refine PickK.t ?_ | refine PickK.f ?_); (conv => whnf))
      have ef : (b : Int) - (15 - ((16 - wd mm : Nat) : Int)) = (rd : Int) := by omega
      rw [ef, eb]
      (conv => whnf); repeat ((first | refine RngK.mk (by omega) (by omega) ?_ | refine NzK.mk (by omega) ?_ | refine NnK.mk (by omega) ?_ | refine BdK.mk (by omega) (by omega) (by omega) ?_ | refine InsK.lit (by omega) (by omega) ?_ | refine SpK.lit ?_ | refine GrdK.same ?_ | refine GrdK.tf ?_ | refine GrdK.ft ?_ | refine PickK.t ?_ | refine PickK.f ?_); (conv => whnf))
      have hil : i < (tabE done (s :: sy.drop (i + 1)) (m - 2 ^ b)).length := (List.getElem?_eq_some_iff.1 hat).1
      refine StK.own 1 (i * 3 + 1) rfl ⟨g, rfl⟩ rfl rfl rfl rfl (by rw [flE_len]; omega) ?_
      rw [flE_set (e' := (s, rd, 0)) hat (by omega) rfl]
      (conv => whnf); repeat ((first | refine RngK.mk (by omega) (by omega) ?_ | refine NzK.mk (by omega) ?_ | refine NnK.mk (by omega) ?_ | refine BdK.mk (by omega) (by omega) (by omega) ?_ | refine InsK.lit (by omega) (by omega) ?_ | refine SpK.lit ?_ | refine GrdK.same ?_ | refine GrdK.tf ?_ | refine GrdK.ft ?_ | refine PickK.t ?_ | refine PickK.f ?_); (conv => whnf))
      rw [ec, ed]
      (conv => whnf); repeat ((first | refine RngK.mk (by omega) (by omega) ?_ | refine NzK.mk (by omega) ?_ | refine NnK.mk (by omega) ?_ | refine BdK.mk (by omega) (by omega) (by omega) ?_ | refine InsK.lit (by omega) (by omega) ?_ | refine SpK.lit ?_ | refine GrdK.same ?_ | refine GrdK.tf ?_ | refine GrdK.ft ?_ | refine PickK.t ?_ | refine PickK.f ?_); (conv => whnf))
      rw [ee]
      refine StK.own 1 (i * 3 + 2) rfl ⟨g, rfl⟩ rfl rfl rfl rfl (by rw [flE_len, List.length_set]; omega) ?_
      rw [flE_set (e' := (s, rd, pr - 2 ^ b)) (List.getElem?_set_self hil) (by omega) rfl, List.set_set]
      have hnext := tabE_next done (s := s) (syms := sy.drop (i + 1)) (k := m - 2 ^ b) (e := (s, rd, pr - 2 ^ b)) (x := (s, rd, (pr : Int) - ((2 ^ b : Nat) : Int))) (by unfold entOf; dsimp only; congr 2; omega)
      rw [hdl] at hnext
      rw [hnext]
      (conv => whnf); repeat ((first | refine RngK.mk (by omega) (by omega) ?_ | refine NzK.mk (by omega) ?_ | refine NnK.mk (by omega) ?_ | refine BdK.mk (by omega) (by omega) (by omega) ?_ | refine InsK.lit (by omega) (by omega) ?_ | refine SpK.lit ?_ | refine GrdK.same ?_ | refine GrdK.tf ?_ | refine GrdK.ft ?_ | refine PickK.t ?_ | refine PickK.f ?_); (conv => whnf))
      exact ⟨(i + 1, nx.set s (mm + 1), done ++ [(s, rd, (pr : Int) - ((2 ^ b : Nat) : Int))]), ⟨rfl, rfl, rfl, rfl, rfl, rfl, rfl, trivial⟩, HSub.refl _, ⟨by simp only; omega, by simp only [List.length_set]; exact hnl, hnm', by simp only [List.length_append, List.length_singleton]; omega, by simp only [List.append_assoc]; exact hbd⟩, by simp only; omega⟩
    · have h := dF h
      rw [List.drop_of_length_le (by omega), bd, List.append_nil] at hbd
      rw [List.drop_of_length_le (by omega)]
      subst hbd
      (conv => whnf); repeat ((first | refine RngK.mk (by omega) (by omega) ?_ | refine NzK.mk (by omega) ?_ | refine NnK.mk (by omega) ?_ | refine BdK.mk (by omega) (by omega) (by omega) ?_ | refine InsK.lit (by omega) (by omega) ?_ | refine SpK.lit ?_ | refine GrdK.same ?_ | refine GrdK.tf ?_ | refine GrdK.ft ?_ | refine PickK.t ?_ | refine PickK.f ?_); (conv => whnf))
      exact ⟨(), trivial, HSub.of [1] rfl, trivial⟩
  · (conv => whnf); repeat ((first | refine RngK.mk (by omega) (by omega) ?_ | refine NzK.mk (by omega) ?_ | refine NnK.mk (by omega) ?_ | refine BdK.mk (by omega) (by omega) (by omega) ?_ | refine InsK.lit (by omega) (by omega) ?_ | refine SpK.lit ?_ | refine GrdK.same ?_ | refine GrdK.tf ?_ | refine GrdK.ft ?_ | refine PickK.t ?_ | refine PickK.f ?_); (conv => whnf))
    exact ⟨_, HSub.refl _, rfl, rfl⟩
end Go.Proofs.YtgdhdkjbilifiaaDoor
