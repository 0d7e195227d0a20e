/- Weights that a table of states tells: the model; a reader that stands below its start. -/
import Derived.Test.YtgdhdkjbilifiaaDoorCdK
import Derived.Test.YtgdhdkjbilifiaaDoorSdR
import Derived.Test.YtgdhdkjbilifiaaDoorRvA
namespace Go.Proofs.YtgdhdkjbilifiaaDoor
open Go Go.Sx
set_option maxRecDepth 100000
def enS (E : List St) (k : Nat) : St := E.getD k (0, 0, 0)
/-- two states take turns -/
def pkL (N st : Nat) (E : List St) : Nat → Nat → Nat → Nat → List Nat → Option (List Nat)
  | 0, _, _, _, _ => none
  | f + 1, now, oth, p, ws =>
    if p < 8 * st + (enS E now).2.1 then (if 254 ≤ ws.length then none else some (ws ++ [(enS E now).1, (enS E oth).1]))
    else if 255 ≤ ws.length then none
    else pkL N st E f oth ((enS E now).2.2.toNat + bitsN N (p - (enS E now).2.1) (enS E now).2.1) (p - (enS E now).2.1) (ws ++ [(enS E now).1])
theorem pkL_step (N st : Nat) (E : List St) (f now oth p : Nat) (ws : List Nat) : pkL N st E (f + 1) now oth p ws =
    if p < 8 * st + (enS E now).2.1 then (if 254 ≤ ws.length then none else some (ws ++ [(enS E now).1, (enS E oth).1]))
    else if 255 ≤ ws.length then none
    else pkL N st E f oth ((enS E now).2.2.toNat + bitsN N (p - (enS E now).2.1) (enS E now).2.1) (p - (enS E now).2.1) (ws ++ [(enS E now).1]) := rfl
/-- what the weights are that stand at a place, told by a table of states -/
def pkW (bs : List UInt8) (off q : Nat) : Option (List Nat) :=
  match rfS (num bs) bs.length (off + 1) 255 6 with
  | none => none
  | some (cs, fb, p) =>
    if bs.length < off + 1 + q ∨ (bs.getD (off + q) 0).toNat = 0 ∨ off + 1 + q ≤ (p + 7) / 8 then none
    else if 8 * (off + q) + wd (bs.getD (off + q) 0).toNat - 1 < 8 * ((p + 7) / 8) + 2 * fb then none
    else pkL (num bs) ((p + 7) / 8) (buildN cs fb) 257 (bitsN (num bs) (8 * (off + q) + wd (bs.getD (off + q) 0).toNat - 1 - fb) fb) (bitsN (num bs) (8 * (off + q) + wd (bs.getD (off + q) 0).toNat - 1 - 2 * fb) fb)
      (8 * (off + q) + wd (bs.getD (off + q) 0).toNat - 1 - 2 * fb) []
/-- a table of states, whole -/
structure Es (E : List St) (b : Nat) : Prop where
  b6 : b ≤ 6
  len : E.length = 2 ^ b
  mem : ∀ x ∈ E, x.1 < 256 ∧ x.2.1 ≤ b ∧ 0 ≤ x.2.2 ∧ x.2.2 + ((2 ^ x.2.1 : Nat) : Int) ≤ ((2 ^ b : Nat) : Int)
theorem Es.of {cs : List Int} {b : Nat} (hc : Counts cs b) (hs : (cs.map rN).sum = 2 ^ b) (h6 : b ≤ 6) : Es (buildN cs b) b :=
  ⟨h6, build_len hc hs, fun x hx => by
    obtain ⟨h1, h2, h3, h4⟩ := build_mem hc hs hx
    have := hc.len
    exact ⟨by omega, h2, h3, h4⟩⟩
theorem Es.at_ {E : List St} {b k : Nat} (h : Es E b) (hk : k < 2 ^ b) : E[k]? = some (enS E k) := by
  have : k < E.length := by rw [h.len]; exact hk
  simp [enS, this]
theorem Es.ent {E : List St} {b k : Nat} (h : Es E b) (hk : k < 2 ^ b) : (enS E k).1 < 256 ∧ (enS E k).2.1 ≤ b ∧ 0 ≤ (enS E k).2.2 ∧ (enS E k).2.2 + ((2 ^ (enS E k).2.1 : Nat) : Int) ≤ ((2 ^ b : Nat) : Int) :=
  h.mem _ (List.mem_of_getElem? (h.at_ hk))
theorem Es.next {E : List St} {b k N p : Nat} (h : Es E b) (hk : k < 2 ^ b) : (enS E k).2.2.toNat + bitsN N p (enS E k).2.1 < 2 ^ b := by
  obtain ⟨h1, h2, h3, h4⟩ := h.ent hk
  have := bitsN_lt N p (enS E k).2.1
  omega
theorem pkL_facts {N st b : Nat} {E : List St} (h : Es E b) : ∀ (f now oth p : Nat) (ws ws' : List Nat), now < 2 ^ b → oth < 2 ^ b → (∀ w ∈ ws, w < 256) → pkL N st E f now oth p ws = some ws' → ws'.length ≤ 255 ∧ 1 ≤ ws'.length ∧ ∀ w ∈ ws', w < 256
  | 0, _, _, _, _, _, _, _, _, hr => by simp [pkL] at hr
  | f + 1, now, oth, p, ws, ws', h1, h2, h3, hr => by
    rw [pkL_step] at hr
    have e1 := h.ent h1
    have e2 := h.ent h2
    split at hr
    · split at hr
      · cases hr
      · rename_i g
        injection hr with hr
        subst hr
        refine ⟨by simp only [List.length_append, List.length_cons, List.length_nil]; omega, by simp only [List.length_append, List.length_cons, List.length_nil]; omega, fun w hw => ?_⟩
        simp only [List.mem_append, List.mem_cons, List.not_mem_nil, or_false] at hw
        rcases hw with hw | rfl | rfl
        · exact h3 w hw
        · exact e1.1
        · exact e2.1
    · split at hr
      · cases hr
      · exact pkL_facts h f oth _ _ _ ws' h2 (h.next h1) (fun w hw => by
          simp only [List.mem_append, List.mem_singleton] at hw
          rcases hw with hw | rfl
          · exact h3 w hw
          · exact e1.1) hr
theorem pkW_facts {bs : List UInt8} {off q : Nat} {ws : List Nat} (h : pkW bs off q = some ws) : ws.length ≤ 255 ∧ 1 ≤ ws.length ∧ (∀ w ∈ ws, w < 256) ∧ off + 1 + q ≤ bs.length := by
  unfold pkW at h
  split at h
  · cases h
  · rename_i cs fb p hr
    obtain ⟨hc, hs, _, h6, _, _⟩ := rfS_facts hr (by omega) (by omega)
    split at h
    · cases h
    · split at h
      · cases h
      · obtain ⟨g1, g2, g3⟩ := pkL_facts (Es.of hc hs h6) _ _ _ _ _ _ (bitsN_lt _ _ _) (bitsN_lt _ _ _) (fun w hw => by cases hw) h
        exact ⟨g1, g2, g3, by omega⟩
theorem Rd.cell6 {w0 w : World} {W : Nat → Prop} {Hin Hr : Hp} (hw : HInv w0 W (Hin ++ Hr) w) {rb : Nat} {T : TypeId} {cs : List Value} (k : Nat) (hk : Hr[k]? = some (.blk rb T cs)) (h6 : cs[6]? = some (vI 0)) : Rd w (blocks Hin) (some ⟨rb, 6, none⟩) 1 1 [.int .i64 0] := by
  obtain ⟨hl6, he6⟩ := List.getElem?_eq_some_iff.1 h6
  have h := Rd.ofBlk (o := 6) (m := 1) (sz := 1) hw k hk (by omega)
  rw [List.drop_eq_getElem_cons hl6, he6] at h
  exact h
theorem flE_snoc_ (l : List En) (x : En) : flE (l ++ [x]) = flE l ++ enCells x := by
  simp [flE, List.flatMap_append]
theorem made_en_ (m : Nat) : (madeCells #[.int .u8 0, .int .u8 0, .int .u16 0] (m * 3)).toList = flE (List.replicate m (0, 0, 0)) := by
  induction m with
  | zero => simp [madeCells, flE]
  | succ m ih =>
    rw [List.replicate_succ', flE_snoc_, ← ih]
    have e0 : m * 3 % 3 = 0 := by omega
    have e1 : (m * 3 + 1) % 3 = 1 := by omega
    have e2 : (m * 3 + 2) % 3 = 2 := by omega
    simp only [madeCells, Nat.succ_mul, Array.toList_map, Array.toList_range, List.range_succ, List.map_append, List.map_cons, List.map_nil, List.append_assoc]
    congr 1
    simp [e0, e1, e2, enCells]
theorem fetchS_spec (b r : Nat) (A : Option Addr) (n c : Nat) (off st bits cnt q : Nat) (hq : q ≤ 24) (hof : off ≤ st) :
    FnS Tryd.prog 68 [.pointer (some ⟨b, 0, none⟩), .int .u8 q] (rbB b r A n c off st bits cnt) (fun _ => True)
      (fun v H => H = rbB b r A n c off st bits cnt ∧ v = vB (decide (q ≤ cnt))) := by
  refine FnS.intro Tryd.func68 rfl (by kernel_rfl) rfl fun w hH _ => ?_
  generalize hW : blocks (rbB b r A n c off st bits cnt) = W at *
  have eq : IntKind.u32.wrap (q : Int) = (q : Int) := IntWalk.u32_in _ (by omega)
  (conv => whnf); repeat ((first | refine RngK.mk (by omega) (by omega) ?_ | refine NzK.mk (by omega) ?_ | refine NnK.mk (by omega) ?_ | refine BdK.mk (by omega) (by omega) (by omega) ?_ | refine InsK.lit (by omega) (by omega) ?_ | refine SpK.lit ?_ | refine GrdK.same ?_ | refine GrdK.tf ?_ | refine GrdK.ft ?_ | refine PickK.t ?_ | refine PickK.f ?_); (conv => whnf))
  refine Wp.loop (fun _ : Unit => [(0, .pointer (some ⟨b, 0, none⟩)), (1, .int .u8 q), (4, .bool false)]) (fun _ => rbB b r A n c off st bits cnt) (fun _ => True) (fun _ => 0) ()
    ⟨rfl, rfl, rfl, trivial⟩ (HSub.refl _) trivial fun _ _ => ?_
  (conv => whnf); repeat ((first | refine RngK.mk (by omega) (by omega) ?_ | refine NzK.mk (by omega) ?_ | refine NnK.mk (by omega) ?_ | refine BdK.mk (by omega) (by omega) (by omega) ?_ | refine InsK.lit (by omega) (by omega) ?_ | refine SpK.lit ?_ | refine GrdK.same ?_ | refine GrdK.tf ?_ | refine GrdK.ft ?_ | refine PickK.t ?_ | refine PickK.f ?_); (conv => whnf))
  refine LdK.blk 0 rfl rfl rfl rfl ?_
  (conv => whnf); repeat ((first | refine RngK.mk (by omega) (by omega) ?_ | refine NzK.mk (by omega) ?_ | refine NnK.mk (by omega) ?_ | refine BdK.mk (by omega) (by omega) (by omega) ?_ | refine InsK.lit (by omega) (by omega) ?_ | refine SpK.lit ?_ | refine GrdK.same ?_ | refine GrdK.tf ?_ | refine GrdK.ft ?_ | refine PickK.t ?_ | refine PickK.f ?_); (conv => whnf))
  rw [eq]
  refine Wp.cond rfl (fun h => ?_) (fun h => ?_)
  · have h := dT h
    rw [decide_eq_false (show ¬ q ≤ cnt by omega)]
    (conv => whnf); repeat ((first | refine RngK.mk (by omega) (by omega) ?_ | refine NzK.mk (by omega) ?_ | refine NnK.mk (by omega) ?_ | refine BdK.mk (by omega) (by omega) (by omega) ?_ | refine InsK.lit (by omega) (by omega) ?_ | refine SpK.lit ?_ | refine GrdK.same ?_ | refine GrdK.tf ?_ | refine GrdK.ft ?_ | refine PickK.t ?_ | refine PickK.f ?_); (conv => whnf))
    refine DrwK.ord (by kernel_rfl) [0, 1, 2, 3, 4, 5, 6, 7, 8] (by kernel_rfl) ?_; conv => whnf
    (conv => whnf); repeat ((first | refine RngK.mk (by omega) (by omega) ?_ | refine NzK.mk (by omega) ?_ | refine NnK.mk (by omega) ?_ | refine BdK.mk (by omega) (by omega) (by omega) ?_ | refine InsK.lit (by omega) (by omega) ?_ | refine SpK.lit ?_ | refine GrdK.same ?_ | refine GrdK.tf ?_ | refine GrdK.ft ?_ | refine PickK.t ?_ | refine PickK.f ?_); (conv => whnf))
    refine LdK.blk 0 rfl rfl rfl rfl ?_
    (conv => whnf); repeat ((first | refine RngK.mk (by omega) (by omega) ?_ | refine NzK.mk (by omega) ?_ | refine NnK.mk (by omega) ?_ | refine BdK.mk (by omega) (by omega) (by omega) ?_ | refine InsK.lit (by omega) (by omega) ?_ | refine SpK.lit ?_ | refine GrdK.same ?_ | refine GrdK.tf ?_ | refine GrdK.ft ?_ | refine PickK.t ?_ | refine PickK.f ?_); (conv => whnf))
    refine LdK.blk 0 rfl rfl rfl rfl ?_
    (conv => whnf); repeat ((first | refine RngK.mk (by omega) (by omega) ?_ | refine NzK.mk (by omega) ?_ | refine NnK.mk (by omega) ?_ | refine BdK.mk (by omega) (by omega) (by omega) ?_ | refine InsK.lit (by omega) (by omega) ?_ | refine SpK.lit ?_ | refine GrdK.same ?_ | refine GrdK.tf ?_ | refine GrdK.ft ?_ | refine PickK.t ?_ | refine PickK.f ?_); (conv => whnf))
    refine Wp.cond rfl (fun h4 => ?_) (fun h4 => ?_)
    · (conv => whnf); repeat ((first | refine RngK.mk (by omega) (by omega) ?_ | refine NzK.mk (by omega) ?_ | refine NnK.mk (by omega) ?_ | refine BdK.mk (by omega) (by omega) (by omega) ?_ | refine InsK.lit (by omega) (by omega) ?_ | refine SpK.lit ?_ | refine GrdK.same ?_ | refine GrdK.tf ?_ | refine GrdK.ft ?_ | refine PickK.t ?_ | refine PickK.f ?_); (conv => whnf))
      exact ⟨rfl, rfl⟩
    · have h4 := dF h4
      omega
  · have h := dF h
    rw [decide_eq_true (show q ≤ cnt by omega)]
    (conv => whnf); repeat ((first | refine RngK.mk (by omega) (by omega) ?_ | refine NzK.mk (by omega) ?_ | refine NnK.mk (by omega) ?_ | refine BdK.mk (by omega) (by omega) (by omega) ?_ | refine InsK.lit (by omega) (by omega) ?_ | refine SpK.lit ?_ | refine GrdK.same ?_ | refine GrdK.tf ?_ | refine GrdK.ft ?_ | refine PickK.t ?_ | refine PickK.f ?_); (conv => whnf))
    exact ⟨rfl, rfl⟩
theorem rvalS_spec (b r : Nat) (A : Option Addr) (n c : Nat) (e u : Addr) (off st bits cnt q : Nat) (hq : q ≤ 24) (hof : off ≤ st) (hc : cnt < 32) (hof2 : off < 2 ^ 31) :
    FnS Tryd.prog 67 [.pointer (some ⟨b, 0, none⟩), .int .u8 q] (rbB b r A n c off st bits cnt)
      (fun w => Laid w (blocks (rbB b r A n c off st bits cnt)) e u ∧ Rd w (blocks (rbB b r A n c off st bits cnt)) (some ⟨r, 6, none⟩) 1 1 [.int .i64 0])
      (fun v H => (q ≤ cnt ∧ H = rbB b r A n c off st bits (cnt - q) ∧ ∃ x, v = .tuple #[.int .u32 x, .nilIface]) ∨ (cnt < q ∧ H = rbB b r A n c off st bits cnt ∧ ∃ T x, v = .tuple #[.int .u32 0, .iface T x])) := by
  refine FnS.intro Tryd.func67 rfl (by kernel_rfl) rfl fun w hH ⟨hL, hR⟩ => ?_
  (conv => whnf); repeat ((first | refine RngK.mk (by omega) (by omega) ?_ | refine NzK.mk (by omega) ?_ | refine NnK.mk (by omega) ?_ | refine BdK.mk (by omega) (by omega) (by omega) ?_ | refine InsK.lit (by omega) (by omega) ?_ | refine SpK.lit ?_ | refine GrdK.same ?_ | refine GrdK.tf ?_ | refine GrdK.ft ?_ | refine PickK.t ?_ | refine PickK.f ?_); (conv => whnf))
  refine CallK.of [0] (fetchS_spec b r A n c off st bits cnt q hq hof) rfl (fun _ _ => trivial) ?_
  rintro v _ ⟨rfl, rfl⟩
  by_cases hqc : q ≤ cnt
  · rw [decide_eq_true hqc]
    (conv => whnf); repeat ((first | refine RngK.mk (by omega) (by omega) ?_ | refine NzK.mk (by omega) ?_ | refine NnK.mk (by omega) ?_ | refine BdK.mk (by omega) (by omega) (by omega) ?_ | refine InsK.lit (by omega) (by omega) ?_ | refine SpK.lit ?_ | refine GrdK.same ?_ | refine GrdK.tf ?_ | refine GrdK.ft ?_ | refine PickK.t ?_ | refine PickK.f ?_); (conv => whnf))
    refine Wp.cond rfl (fun h => by cases h) (fun _ => ?_)
    (conv => whnf); repeat ((first | refine RngK.mk (by omega) (by omega) ?_ | refine NzK.mk (by omega) ?_ | refine NnK.mk (by omega) ?_ | refine BdK.mk (by omega) (by omega) (by omega) ?_ | refine InsK.lit (by omega) (by omega) ?_ | refine SpK.lit ?_ | refine GrdK.same ?_ | refine GrdK.tf ?_ | refine GrdK.ft ?_ | refine PickK.t ?_ | refine PickK.f ?_); (conv => whnf))
    refine LdK.blk 0 rfl rfl rfl rfl ?_
    (conv => whnf); repeat ((first | refine RngK.mk (by omega) (by omega) ?_ | refine NzK.mk (by omega) ?_ | refine NnK.mk (by omega) ?_ | refine BdK.mk (by omega) (by omega) (by omega) ?_ | refine InsK.lit (by omega) (by omega) ?_ | refine SpK.lit ?_ | refine GrdK.same ?_ | refine GrdK.tf ?_ | refine GrdK.ft ?_ | refine PickK.t ?_ | refine PickK.f ?_); (conv => whnf))
    have eq : IntKind.u32.wrap (q : Int) = (q : Int) := IntWalk.u32_in _ (by omega)
    refine StK.blkE 0 (rbc r A n c off st bits (cnt - q)) rfl rfl rfl rfl (Nat.le_of_ble_eq_true rfl) ?_ ?_
    · show [_, _, _, _, _, Value.int .u32 _] = [_, _, _, _, _, Value.int .u32 _]
      rw [eq, IntWalk.u32_in _ (by omega)]
      have : (cnt : Int) - (q : Int) = ((cnt - q : Nat) : Int) := by omega
      rw [this]
    (conv => whnf); repeat ((first | refine RngK.mk (by omega) (by omega) ?_ | refine NzK.mk (by omega) ?_ | refine NnK.mk (by omega) ?_ | refine BdK.mk (by omega) (by omega) (by omega) ?_ | refine InsK.lit (by omega) (by omega) ?_ | refine SpK.lit ?_ | refine GrdK.same ?_ | refine GrdK.tf ?_ | refine GrdK.ft ?_ | refine PickK.t ?_ | refine PickK.f ?_); (conv => whnf))
    refine DrwK.ord (by kernel_rfl) [0, 1, 2, 3, 4, 5, 6, 7, 8, 9, 10, 11, 12, 13] (by kernel_rfl) ?_; conv => whnf
    (conv => whnf); repeat ((first | refine RngK.mk (by omega) (by omega) ?_ | refine NzK.mk (by omega) ?_ | refine NnK.mk (by omega) ?_ | refine BdK.mk (by omega) (by omega) (by omega) ?_ | refine InsK.lit (by omega) (by omega) ?_ | refine SpK.lit ?_ | refine GrdK.same ?_ | refine GrdK.tf ?_ | refine GrdK.ft ?_ | refine PickK.t ?_ | refine PickK.f ?_); (conv => whnf))
    refine LdK.blk 0 rfl rfl rfl rfl ?_
    (conv => whnf); repeat ((first | refine RngK.mk (by omega) (by omega) ?_ | refine NzK.mk (by omega) ?_ | refine NnK.mk (by omega) ?_ | refine BdK.mk (by omega) (by omega) (by omega) ?_ | refine InsK.lit (by omega) (by omega) ?_ | refine SpK.lit ?_ | refine GrdK.same ?_ | refine GrdK.tf ?_ | refine GrdK.ft ?_ | refine PickK.t ?_ | refine PickK.f ?_); (conv => whnf))
    refine LdK.blk 0 rfl rfl rfl rfl ?_
    (conv => whnf); repeat ((first | refine RngK.mk (by omega) (by omega) ?_ | refine NzK.mk (by omega) ?_ | refine NnK.mk (by omega) ?_ | refine BdK.mk (by omega) (by omega) (by omega) ?_ | refine InsK.lit (by omega) (by omega) ?_ | refine SpK.lit ?_ | refine GrdK.same ?_ | refine GrdK.tf ?_ | refine GrdK.ft ?_ | refine PickK.t ?_ | refine PickK.f ?_); (conv => whnf))
    exact .inl ⟨hqc, rfl, _, rfl⟩
  · rw [decide_eq_false hqc]
    (conv => whnf); repeat ((first | refine RngK.mk (by omega) (by omega) ?_ | refine NzK.mk (by omega) ?_ | refine NnK.mk (by omega) ?_ | refine BdK.mk (by omega) (by omega) (by omega) ?_ | refine InsK.lit (by omega) (by omega) ?_ | refine SpK.lit ?_ | refine GrdK.same ?_ | refine GrdK.tf ?_ | refine GrdK.ft ?_ | refine PickK.t ?_ | refine PickK.f ?_); (conv => whnf))
    refine Wp.cond rfl (fun _ => ?_) (fun h => by cases h)
    (conv => whnf); repeat ((first | refine RngK.mk (by omega) (by omega) ?_ | refine NzK.mk (by omega) ?_ | refine NnK.mk (by omega) ?_ | refine BdK.mk (by omega) (by omega) (by omega) ?_ | refine InsK.lit (by omega) (by omega) ?_ | refine SpK.lit ?_ | refine GrdK.same ?_ | refine GrdK.tf ?_ | refine GrdK.ft ?_ | refine PickK.t ?_ | refine PickK.f ?_); (conv => whnf))
    refine DrwK.ord (by kernel_rfl) [0, 1, 2, 3, 4, 5, 6, 7, 8, 9, 10, 11] (by kernel_rfl) ?_; conv => whnf
    (conv => whnf); repeat ((first | refine RngK.mk (by omega) (by omega) ?_ | refine NzK.mk (by omega) ?_ | refine NnK.mk (by omega) ?_ | refine BdK.mk (by omega) (by omega) (by omega) ?_ | refine InsK.lit (by omega) (by omega) ?_ | refine SpK.lit ?_ | refine GrdK.same ?_ | refine GrdK.tf ?_ | refine GrdK.ft ?_ | refine PickK.t ?_ | refine PickK.f ?_); (conv => whnf))
    refine LdK.blk 0 rfl rfl rfl rfl ?_
    (conv => whnf); repeat ((first | refine RngK.mk (by omega) (by omega) ?_ | refine NzK.mk (by omega) ?_ | refine NnK.mk (by omega) ?_ | refine BdK.mk (by omega) (by omega) (by omega) ?_ | refine InsK.lit (by omega) (by omega) ?_ | refine SpK.lit ?_ | refine GrdK.same ?_ | refine GrdK.tf ?_ | refine GrdK.ft ?_ | refine PickK.t ?_ | refine PickK.f ?_); (conv => whnf))
    refine LdK.blk 0 rfl rfl rfl rfl ?_
    (conv => whnf); repeat ((first | refine RngK.mk (by omega) (by omega) ?_ | refine NzK.mk (by omega) ?_ | refine NnK.mk (by omega) ?_ | refine BdK.mk (by omega) (by omega) (by omega) ?_ | refine InsK.lit (by omega) (by omega) ?_ | refine SpK.lit ?_ | refine GrdK.same ?_ | refine GrdK.tf ?_ | refine GrdK.ft ?_ | refine PickK.t ?_ | refine PickK.f ?_); (conv => whnf))
    refine CallK.of [] (eof_spec r off e u (by omega) (by omega)) rfl (fun w hw => ⟨hL.pass hw, hR.pass hw⟩) ?_
    rintro _ _ ⟨⟨T, x, rfl⟩, rfl⟩
    (conv => whnf); repeat ((first | refine RngK.mk (by omega) (by omega) ?_ | refine NzK.mk (by omega) ?_ | refine NnK.mk (by omega) ?_ | refine BdK.mk (by omega) (by omega) (by omega) ?_ | refine InsK.lit (by omega) (by omega) ?_ | refine SpK.lit ?_ | refine GrdK.same ?_ | refine GrdK.tf ?_ | refine GrdK.ft ?_ | refine PickK.t ?_ | refine PickK.f ?_); (conv => whnf))
    repeat (refine KfK.of (LdK.blk 0 rfl rfl rfl rfl rfl) ?_; conv => whnf)
    (conv => whnf); repeat ((first | refine RngK.mk (by omega) (by omega) ?_ | refine NzK.mk (by omega) ?_ | refine NnK.mk (by omega) ?_ | refine BdK.mk (by omega) (by omega) (by omega) ?_ | refine InsK.lit (by omega) (by omega) ?_ | refine SpK.lit ?_ | refine GrdK.same ?_ | refine GrdK.tf ?_ | refine GrdK.ft ?_ | refine PickK.t ?_ | refine PickK.f ?_); (conv => whnf))
    exact .inr ⟨by omega, rfl, T, x, rfl⟩
theorem makeReverseG_spec (r : Nat) (A : Option Addr) (n c o st : Nat) (bs : List UInt8) (e u : Addr) (hn : n ≤ 16777216) (ho : o < bs.length) (hs : st ≤ 16777216) :
    FnS Tryd.prog 66 [.pointer (some ⟨r, 0, none⟩), .slice A n c, vI o, vI st] [] (fun w => BrPre w (blocks []) r A n c bs e u)
      (fun v H => H = [] ∧ ((bs[o].toNat = 0 ∧ ∃ cs T x, cs.size = 6 ∧ cs.toList.all (·.oneCell') = true ∧ v = .tuple #[.agg cs, .iface T x]) ∨
        (0 < bs[o].toNat ∧ v = .tuple #[.agg (rbc r A n c o st bs[o].toNat (wd bs[o].toNat - 1)).toArray, .nilIface]))) := by
  refine FnS.introD Tryd.func66 rfl (by kernel_rfl) rfl fun w hH hp => ?_
  obtain rfl : bs.length = n := hp.by_.len
  (conv => whnf); repeat ((first | refine RngK.mk (by omega) (by omega) ?_ | refine NzK.mk (by omega) ?_ | refine NnK.mk (by omega) ?_ | refine BdK.mk (by omega) (by omega) (by omega) ?_ | refine InsK.lit (by omega) (by omega) ?_ | refine SpK.lit ?_ | refine GrdK.same ?_ | refine GrdK.tf ?_ | refine GrdK.ft ?_ | refine PickK.t ?_ | refine PickK.f ?_); (conv => whnf))
  refine ⟨_, _, rfl, rfl, ?_⟩
  intro b8
  (conv => whnf); repeat ((first | refine RngK.mk (by omega) (by omega) ?_ | refine NzK.mk (by omega) ?_ | refine NnK.mk (by omega) ?_ | refine BdK.mk (by omega) (by omega) (by omega) ?_ | refine InsK.lit (by omega) (by omega) ?_ | refine SpK.lit ?_ | refine GrdK.same ?_ | refine GrdK.tf ?_ | refine GrdK.ft ?_ | refine PickK.t ?_ | refine PickK.f ?_); (conv => whnf))
  refine InsK.rd hp.by_.rd (by omega) (by omega) ?_
  (conv => whnf); repeat ((first | refine RngK.mk (by omega) (by omega) ?_ | refine NzK.mk (by omega) ?_ | refine NnK.mk (by omega) ?_ | refine BdK.mk (by omega) (by omega) (by omega) ?_ | refine InsK.lit (by omega) (by omega) ?_ | refine SpK.lit ?_ | refine GrdK.same ?_ | refine GrdK.tf ?_ | refine GrdK.ft ?_ | refine PickK.t ?_ | refine PickK.f ?_); (conv => whnf))
  refine LdK.rd (v := vU8 bs[o]) hp.by_.rd o rfl rfl rfl (by simp [ho]) ?_
  (conv => whnf); repeat ((first | refine RngK.mk (by omega) (by omega) ?_ | refine NzK.mk (by omega) ?_ | refine NnK.mk (by omega) ?_ | refine BdK.mk (by omega) (by omega) (by omega) ?_ | refine InsK.lit (by omega) (by omega) ?_ | refine SpK.lit ?_ | refine GrdK.same ?_ | refine GrdK.tf ?_ | refine GrdK.ft ?_ | refine PickK.t ?_ | refine PickK.f ?_); (conv => whnf))
  refine Wp.cond rfl (fun g => ?_) (fun g => ?_)
  · have g := eqT g
    (conv => whnf); repeat ((first | refine RngK.mk (by omega) (by omega) ?_ | refine NzK.mk (by omega) ?_ | refine NnK.mk (by omega) ?_ | refine BdK.mk (by omega) (by omega) (by omega) ?_ | refine InsK.lit (by omega) (by omega) ?_ | refine SpK.lit ?_ | refine GrdK.same ?_ | refine GrdK.tf ?_ | refine GrdK.ft ?_ | refine PickK.t ?_ | refine PickK.f ?_); (conv => whnf))
    refine ValK.build rfl ?_
    (conv => whnf); repeat ((first | refine RngK.mk (by omega) (by omega) ?_ | refine NzK.mk (by omega) ?_ | refine NnK.mk (by omega) ?_ | refine BdK.mk (by omega) (by omega) (by omega) ?_ | refine InsK.lit (by omega) (by omega) ?_ | refine SpK.lit ?_ | refine GrdK.same ?_ | refine GrdK.tf ?_ | refine GrdK.ft ?_ | refine PickK.t ?_ | refine PickK.f ?_); (conv => whnf))
    refine CallK.of [] (err_spec r o _ e u (by omega) (by omega)) rfl (fun w hw => ⟨hp.la.pass hw, hp.rr.pass hw⟩) ?_
    rintro _ _ ⟨⟨T, x, rfl⟩, rfl⟩
    (conv => whnf); repeat ((first | refine RngK.mk (by omega) (by omega) ?_ | refine NzK.mk (by omega) ?_ | refine NnK.mk (by omega) ?_ | refine BdK.mk (by omega) (by omega) (by omega) ?_ | refine InsK.lit (by omega) (by omega) ?_ | refine SpK.lit ?_ | refine GrdK.same ?_ | refine GrdK.tf ?_ | refine GrdK.ft ?_ | refine PickK.t ?_ | refine PickK.f ?_); (conv => whnf))
    refine StK.blkNE 0 _ rfl rfl rfl rfl rfl rfl ?_
    (conv => whnf); repeat ((first | refine RngK.mk (by omega) (by omega) ?_ | refine NzK.mk (by omega) ?_ | refine NnK.mk (by omega) ?_ | refine BdK.mk (by omega) (by omega) (by omega) ?_ | refine InsK.lit (by omega) (by omega) ?_ | refine SpK.lit ?_ | refine GrdK.same ?_ | refine GrdK.tf ?_ | refine GrdK.ft ?_ | refine PickK.t ?_ | refine PickK.f ?_); (conv => whnf))
    refine LdK.blkN 0 rfl rfl rfl rfl rfl ?_
    (conv => whnf); repeat ((first | refine RngK.mk (by omega) (by omega) ?_ | refine NzK.mk (by omega) ?_ | refine NnK.mk (by omega) ?_ | refine BdK.mk (by omega) (by omega) (by omega) ?_ | refine InsK.lit (by omega) (by omega) ?_ | refine SpK.lit ?_ | refine GrdK.same ?_ | refine GrdK.tf ?_ | refine GrdK.ft ?_ | refine PickK.t ?_ | refine PickK.f ?_); (conv => whnf))
    exact ⟨[], HSub.nil _, rfl, .inl ⟨by omega, _, T, x, rfl, rfl, rfl⟩⟩
  · have g := eqF g
    have hb : 0 < bs[o].toNat := by omega
    have hb2 := bs[o].toNat_lt
    have hw : wd bs[o].toNat ≤ 8 := wd_lt (by omega)
    have hw2 := wd_pos hb
    (conv => whnf); repeat ((first | refine RngK.mk (by omega) (by omega) ?_ | refine NzK.mk (by omega) ?_ | refine NnK.mk (by omega) ?_ | refine BdK.mk (by omega) (by omega) (by omega) ?_ | refine InsK.lit (by omega) (by omega) ?_ | refine SpK.lit ?_ | refine GrdK.same ?_ | refine GrdK.tf ?_ | refine GrdK.ft ?_ | refine PickK.t ?_ | refine PickK.f ?_); (conv => whnf))
    refine CallK.of0 (lz8_spec bs[o]) ?_
    rintro _ _ ⟨rfl, rfl⟩
    generalize wd bs[o].toNat = wv at hw hw2 ⊢
    (conv => whnf); repeat ((first | refine RngK.mk (by omega) (by omega) ?_ | refine NzK.mk (by omega) ?_ | refine NnK.mk (by omega) ?_ | refine BdK.mk (by omega) (by omega) (by omega) ?_ | refine InsK.lit (by omega) (by omega) ?_ | refine SpK.lit ?_ | refine GrdK.same ?_ | refine GrdK.tf ?_ | refine GrdK.ft ?_ | refine PickK.t ?_ | refine PickK.f ?_); (conv => whnf))
    refine ValK.buildS 6 rfl rfl rfl rfl rfl rfl rfl ?_
    (conv => whnf); repeat ((first | refine RngK.mk (by omega) (by omega) ?_ | refine NzK.mk (by omega) ?_ | refine NnK.mk (by omega) ?_ | refine BdK.mk (by omega) (by omega) (by omega) ?_ | refine InsK.lit (by omega) (by omega) ?_ | refine SpK.lit ?_ | refine GrdK.same ?_ | refine GrdK.tf ?_ | refine GrdK.ft ?_ | refine PickK.t ?_ | refine PickK.f ?_); (conv => whnf))
    refine ⟨_, _, rfl, rfl, ?_⟩
    intro b11
    (conv => whnf); repeat ((first | refine RngK.mk (by omega) (by omega) ?_ | refine NzK.mk (by omega) ?_ | refine NnK.mk (by omega) ?_ | refine BdK.mk (by omega) (by omega) (by omega) ?_ | refine InsK.lit (by omega) (by omega) ?_ | refine SpK.lit ?_ | refine GrdK.same ?_ | refine GrdK.tf ?_ | refine GrdK.ft ?_ | refine PickK.t ?_ | refine PickK.f ?_); (conv => whnf))
    refine StK.blkNE 0 (rbc r A bs.length c o st bs[o].toNat (wv - 1)) rfl rfl rfl rfl rfl ?_ ?_
    · show [_, _, Value.int .u32 _, Value.int .u32 _, Value.int .u32 _, Value.int .u32 _] = [_, _, Value.int .u32 _, Value.int .u32 _, Value.int .u32 _, Value.int .u32 _]
      have e1 : IntKind.u32.wrap (o : Int) = (o : Int) := IntWalk.u32_in _ (by omega)
      have e2 : IntKind.u32.wrap (st : Int) = (st : Int) := IntWalk.u32_in _ (by omega)
      have e3 : IntKind.u32.wrap (bs[o].toNat : Int) = (bs[o].toNat : Int) := IntWalk.u32_in _ (by omega)
      have e4 : IntKind.u32.wrap (7 - ((8 - wv : Nat) : Int)) = ((wv - 1 : Nat) : Int) := by
        rw [IntWalk.u32_in _ (by omega)]; omega
      rw [e1, e2, e3, e4]
    (conv => whnf); repeat ((first | refine RngK.mk (by omega) (by omega) ?_ | refine NzK.mk (by omega) ?_ | refine NnK.mk (by omega) ?_ | refine BdK.mk (by omega) (by omega) (by omega) ?_ | refine InsK.lit (by omega) (by omega) ?_ | refine SpK.lit ?_ | refine GrdK.same ?_ | refine GrdK.tf ?_ | refine GrdK.ft ?_ | refine PickK.t ?_ | refine PickK.f ?_); (conv => whnf))
    refine LdK.blkN 0 rfl rfl rfl rfl rfl ?_
    (conv => whnf); repeat ((first | refine RngK.mk (by omega) (by omega) ?_ | refine NzK.mk (by omega) ?_ | refine NnK.mk (by omega) ?_ | refine BdK.mk (by omega) (by omega) (by omega) ?_ | refine InsK.lit (by omega) (by omega) ?_ | refine SpK.lit ?_ | refine GrdK.same ?_ | refine GrdK.tf ?_ | refine GrdK.ft ?_ | refine PickK.t ?_ | refine PickK.f ?_); (conv => whnf))
    refine StK.blkNE 1 (rbc r A bs.length c o st bs[o].toNat (wv - 1)) rfl rfl rfl rfl rfl rfl ?_
    (conv => whnf); repeat ((first | refine RngK.mk (by omega) (by omega) ?_ | refine NzK.mk (by omega) ?_ | refine NnK.mk (by omega) ?_ | refine BdK.mk (by omega) (by omega) (by omega) ?_ | refine InsK.lit (by omega) (by omega) ?_ | refine SpK.lit ?_ | refine GrdK.same ?_ | refine GrdK.tf ?_ | refine GrdK.ft ?_ | refine PickK.t ?_ | refine PickK.f ?_); (conv => whnf))
    refine LdK.blkN 1 rfl rfl rfl rfl rfl ?_
    (conv => whnf); repeat ((first | refine RngK.mk (by omega) (by omega) ?_ | refine NzK.mk (by omega) ?_ | refine NnK.mk (by omega) ?_ | refine BdK.mk (by omega) (by omega) (by omega) ?_ | refine InsK.lit (by omega) (by omega) ?_ | refine SpK.lit ?_ | refine GrdK.same ?_ | refine GrdK.tf ?_ | refine GrdK.ft ?_ | refine PickK.t ?_ | refine PickK.f ?_); (conv => whnf))
    exact ⟨[], HSub.nil _, rfl, .inr ⟨hb, rfl⟩⟩
end Go.Proofs.YtgdhdkjbilifiaaDoor
