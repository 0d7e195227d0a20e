/- More rules: literals whose parts stand in order, clear. -/
import Derived.Test.YtgdhdkjbilifiaaDoorSx
import Derived.Great.FillDense
import Derived.Lib.SliceRun
namespace Go.Sx
open Go
section
variable {P : Program} {w0 : World} {W : Nat → Prop} {H : Hp}
/-- `[]T{a, b, ..}`: parts of one cell each, in order -/
theorem EffK.litV {t e : TypeId} {i : TypeInfo} {z : Value} {len : Nat} {ps : List (Nat × Value)} {K : Value → Hp → Prop} (ht : P.underlying t = some (.slice e)) (hi : P.info? e = some i) (hz : i.zero = some z)
    (hs : Nat.beq i.size 1 = true) (hzs : Nat.beq z.cells.size 1 = true) (hlen : Nat.ble len 16777216 = true) (hps : ps = ((ps.map (·.2)).zipIdx 0).map fun x => (x.2, x.1)) (hn : Nat.beq ps.length len = true) (h1 : (ps.map (·.2)).all (·.oneCell') = true)
    (h : listK (ps.map (·.2)) fun l => ∀ b, K (.slice (some ⟨b, 0, none⟩) len len) (.own (some ⟨b, 0, none⟩) len len e 1 l :: H)) :
    EffK P w0 W H (Instr.buildSlice t len ps.toArray) K := by
  have hs := Nat.eq_of_beq_eq_true hs
  have hzs := Nat.eq_of_beq_eq_true hzs
  have hn := Nat.eq_of_beq_eq_true hn
  have hlen := Nat.le_of_ble_eq_true hlen
  have hk := listK_sound h
  have hone : ∀ v ∈ ps.map (·.2), v.cells = #[v] := fun v hv => one_cells (List.all_eq_true.1 h1 v hv)
  have hfill := Great.fill_flat (ps.map (·.2)) ((Array.range (len * 1)).map (z.cells[· % z.cells.size]!)) hone (by simp [hn])
  refine ⟨fun w hw => ?_⟩
  have hnew := hw.new_own e len 1 (ps.map (·.2)) (by simp [hn]) (by simp [maxLen]; omega)
  refine ⟨.slice (some ⟨w.heap.size, 0, none⟩) len len, w.alloc (.cells (ps.map (·.2)).toArray e), _, ?_, hnew, hk _⟩
  have hnot : ¬ (len * 1 > 2 ^ 24) := by omega
  rw [← hps] at hfill
  by_cases h0 : len * 1 = 0
  · have : ps = [] := List.eq_nil_of_length_eq_zero (by omega)
    subst this
    simp only [Instr.buildSlice, Sem.run_bind, run_underlying ht, Result.andThen_ok, run_sizeOf hi, hs, h0, if_true]
    simp [newRow, Instr.fill, Array.range_zero']
  · simp only [Instr.buildSlice, Sem.run_bind, run_underlying ht, Result.andThen_ok, run_sizeOf hi, hs, hnot, if_false, h0, Sem.run_pure, zeroValue, typeInfo, run_program, hi, hz]
    simp only [hfill]
    simp [newRow]
/-- `[]T{a, b, ..}`: parts of several cells each, in order -/
theorem EffK.litN (sz : Nat) {t e : TypeId} {i : TypeInfo} {z : Value} {len : Nat} {ps : List (Nat × Value)} {K : Value → Hp → Prop} (ht : P.underlying t = some (.slice e)) (hi : P.info? e = some i) (hz : i.zero = some z)
    (hs : Nat.beq i.size sz = true) (h0 : Nat.blt 0 sz = true) (hl0 : Nat.blt 0 len = true) (hlen : Nat.ble (len * sz) 16777216 = true) (hlen2 : Nat.ble len 16777216 = true) (hps : ps = ((ps.map (·.2)).zipIdx 0).map fun x => (x.2, x.1)) (hn : Nat.beq ps.length len = true)
    (h1 : (ps.map (·.2)).all (fun v => Nat.beq v.cells.size sz) = true)
    (h : listK ((ps.map (·.2)).flatMap fun v => v.cells.toList) fun l => ∀ b, K (.slice (some ⟨b, 0, none⟩) len len) (.own (some ⟨b, 0, none⟩) len len e sz l :: H)) :
    EffK P w0 W H (Instr.buildSlice t len ps.toArray) K := by
  have hs := Nat.eq_of_beq_eq_true hs
  have h0 : 0 < sz := Nat.le_of_ble_eq_true h0
  have hl0 : 0 < len := Nat.le_of_ble_eq_true hl0
  have hn := Nat.eq_of_beq_eq_true hn
  have hlen := Nat.le_of_ble_eq_true hlen
  have hlen2 := Nat.le_of_ble_eq_true hlen2
  have hk := listK_sound h
  have hone : ∀ v ∈ ps.map (·.2), v.cells.size = sz := fun v hv => Nat.eq_of_beq_eq_true (List.all_eq_true.1 h1 v hv)
  have hfill := Great.fill_whole h0 (ps.map (·.2)) ((Array.range (len * sz)).map (z.cells[· % z.cells.size]!)) hone (by simp [hn])
  have hfl : ∀ l : List Value, (∀ v ∈ l, v.cells.size = sz) → (l.flatMap fun v => v.cells.toList).length = l.length * sz := by
    intro l
    induction l with
    | nil => intro _; simp
    | cons v r ih =>
      intro hv
      have := hv v List.mem_cons_self
      rw [List.flatMap_cons, List.length_append, ih (fun u hu => hv u (List.mem_cons_of_mem _ hu)), Array.length_toList, this, List.length_cons, Nat.succ_mul]
      omega
  refine ⟨fun w hw => ?_⟩
  have hnew := hw.new_own e len sz ((ps.map (·.2)).flatMap fun v => v.cells.toList) (by rw [hfl _ hone]; simp [hn]) (by simp [maxLen]; omega)
  refine ⟨.slice (some ⟨w.heap.size, 0, none⟩) len len, w.alloc (.cells ((ps.map (·.2)).flatMap fun v => v.cells.toList).toArray e), _, ?_, hnew, hk _⟩
  have hnot : ¬ (len * sz > 2 ^ 24) := by omega
  have hz0 : ¬ (len * sz = 0) := by have := Nat.mul_pos hl0 h0; omega
  rw [← hps] at hfill
  simp only [Instr.buildSlice, Sem.run_bind, run_underlying ht, Result.andThen_ok, run_sizeOf hi, hs, hnot, if_false, hz0, Sem.run_pure, zeroValue, typeInfo, run_program, hi, hz]
  simp only [hfill]
  simp [newRow]
/-- what was read is still so: it could be read again -/
theorem KfK.of {t : TypeId} {p : Option Addr} {v : Value} {K : Prop} (h : LdK P w0 W H t p fun u => u = v) (hk : K) : KfK P w0 W H t p v K := by
  obtain ⟨u, h1, rfl⟩ := h
  exact ⟨h1, hk⟩
/-- into a block: what the cells are then is told -/
theorem StK.blkE (k : Nat) {t : TypeId} {b o : Nat} {T : TypeId} {cs : List Value} {i : TypeInfo} {v : Value} {K : Hp → Prop} (cs' : List Value) (hk : H[k]? = some (.blk b T cs)) (hi : P.info? t = some i) (hs : Nat.beq i.size 1 = true) (h1 : v.oneCell' = true)
    (hl : o < cs.length) (he : cs.set o v = cs') (h : setH H k (.blk b T cs') K) : StK P w0 W H t (some ⟨b, o, none⟩) v K :=
  StK.blkS k hk hi hs h1 hl (he.symm ▸ h)
/-- `clear(x[a:b])` of a part of a block -/
theorem EffK.clearBlk (k : Nat) {t ty e : TypeId} {i : TypeInfo} {z : Value} {n c b o : Nat} {T : TypeId} {cs : List Value} {K : Value → Hp → Prop} (hk : H[k]? = some (.blk b T cs)) (ht : P.underlying t = some (.slice e)) (hi : P.info? e = some i) (hz : i.zero = some z)
    (h1 : z.oneCell' = true) (hn : 0 < n) (hfit : o + n ≤ cs.length)
    (h : setH H k (.blk b T (cs.take o ++ List.replicate n z ++ cs.drop (o + n))) fun H' => K (.tuple #[]) H') : EffK P w0 W H (Builtin.clear_ #[t] ty #[.slice (some ⟨b, o, none⟩) n c]) K := by
  refine ⟨fun w hw => ⟨.tuple #[], w.setRow b (cs.take o ++ List.replicate n z ++ cs.drop (o + n)).toArray, _, ?_, hw.setRow hk, setH_sound h⟩⟩
  have hzc : (Builtin.zeroCells z.cells n).toList = List.replicate n z := by
    rw [one_cells h1]
    simp [Builtin.zeroCells]
    apply List.ext_getElem
    · simp
    · intro i h1 h2
      simp [Nat.mod_one]
  have hst := run_storeCells_at P b o T (List.replicate n z) 0 cs.toArray w (hw.at_ hk) (by simp only [List.size_toArray, Nat.add_zero, List.length_replicate]; omega) (by intro v hv'; rw [List.eq_of_mem_replicate hv']; exact h1)
  simp only [Nat.add_zero] at hst
  obtain ⟨m, rfl⟩ : ∃ m, n = m + 1 := ⟨n - 1, by omega⟩
  simp [Builtin.clear_, run_underlying ht, zeroValue, typeInfo, hi, hz, hzc, hst]
theorem cutA_lt {b o l m : Nat} (h : l < m) : cutA (some ⟨b, o, none⟩) l m 1 = some ⟨b, o + l, none⟩ := by
  unfold cutA
  rw [if_neg (by omega)]
  simp [adv]
/-- a slice that is nil is one's own -/
theorem HInv.nilOwn {w : World} (h : HInv w0 W H w) (E : TypeId) (sz : Nat) : HInv w0 W (.own none 0 0 E sz [] :: H) w := by
  have hb : (Chunk.own none 0 0 E sz []).block = none := rfl
  refine ⟨h.keeps, ⟨fun c hc => ?_, List.pairwise_cons.2 ⟨fun d _ b hb' => (by rw [hb] at hb'; cases hb'), h.hok.apart⟩⟩, fun c hc b hcb => ?_⟩
  · rcases List.mem_cons.1 hc with rfl | hc
    · exact ⟨by simp, .inl ⟨rfl, rfl⟩⟩
    · exact h.hok.ok c hc
  · rcases List.mem_cons.1 hc with rfl | hc
    · rw [hb] at hcb; cases hcb
    · exact h.new c hc b hcb
theorem EffK.nil (e : TypeId) (sz : Nat) {s : Sem Value} {K : Value → Hp → Prop} (h : EffK P w0 W (.own none 0 0 e sz [] :: H) s K) : EffK P w0 W H s K := ⟨fun w hw => h.ex w (hw.nilOwn e sz)⟩
/-- part of a block -/
theorem Src.blk {k b o : Nat} {T : TypeId} {cs : List Value} {m sz : Nat} {A : Option Addr} {news : List Value} (hk : H[k]? = some (.blk b T cs)) (hA : A = some ⟨b, o, none⟩) (hl : o + m * sz ≤ cs.length) (he : (cs.drop o).take (m * sz) = news) : Src w0 W H A m sz news := by
  subst hA he
  refine ⟨by rw [List.length_take, List.length_drop]; omega, fun w hw h0 => ⟨_, rfl, fun j v hv => ?_⟩⟩
  rw [Addr_add_mid, blk_cell (hw.at_ hk)]
  rw [List.getElem?_take] at hv
  split at hv
  · rw [List.getElem?_drop] at hv; exact hv
  · cases hv
theorem Src.ownW {k : Nat} {A : Option Addr} {m cap : Nat} {E : TypeId} {sz : Nat} {xs : List Value} (hk : H[k]? = some (.own A m cap E sz xs)) (hl : xs.length = m * sz) : Src w0 W H A m sz xs := by
  have := Src.own (w0 := w0) (W := W) hk (Nat.le_refl m) hl
  rwa [← hl, List.take_length] at this
theorem GrdK.same {b : Bool} {Y N : Prop} (h : Y) : GrdK b b Y N := ⟨fun _ => h, fun e => by cases b <;> cases e⟩
theorem GrdK.tf {Y N : Prop} (h : N) : GrdK true false Y N := ⟨fun e => (by cases e), fun _ => h⟩
theorem GrdK.ft {Y N : Prop} (h : N) : GrdK false true Y N := ⟨fun e => (by cases e), fun _ => h⟩
theorem PickK.t {a b : Value} {K : Value → Prop} (h : K a) : PickK true a b K := ⟨fun _ => h, fun e => by cases e⟩
theorem PickK.f {a b : Value} {K : Value → Prop} (h : K b) : PickK false a b K := ⟨fun e => (by cases e), fun _ => h⟩
theorem HSub.take (k : Nat) {H : Hp} : HSub (H.take k) H := ⟨H.take k, List.take_sublist k H, List.Perm.refl _⟩
theorem SpK.lit {b o l m : Nat} {K : Prop} (h : K) : SpK (some ⟨b, o, none⟩) l m K := ⟨fun _ a ha => by injection ha with ha; subst ha; rfl, h⟩
theorem EffK.copyBlkE (k : Nat) {t t2 ty e : TypeId} {i : TypeInfo} {p A2 : Option Addr} {m cap m2 c2 b : Nat} {T : TypeId} {cs news : List Value} {K : Value → Hp → Prop} (q o : Nat) (cs' : List Value) (hp : p = some ⟨b, o, none⟩) (hk : H[k]? = some (.blk b T cs)) (ht : P.underlying t = some (.slice e)) (hi : P.info? e = some i)
    (hs : Nat.beq i.size 1 = true) (hq : q = min m2 m) (hsrc : Src w0 W H A2 q 1 news) (h1 : ∀ u ∈ news, u.oneCell' = true) (hfit : o + q ≤ cs.length) (he : cs.take o ++ news ++ cs.drop (o + q) = cs')
    (h : setH H k (.blk b T cs') fun H' => K (.int .i64 q) H') : EffK P w0 W H (Builtin.copy_ #[t, t2] ty #[.slice p m cap, .slice A2 m2 c2]) K := by
  subst hp he
  exact EffK.copyBlk k q hk ht hi hs hq hsrc h1 hfit h
end
/-! ### Two loud operations of which either may come first -/
section
variable (P : Program) (w0 : World) (W : Nat → Prop)
def loudAt (ops : Array Oper) (i : Nat) : Bool := match ops[i]? with | some ⟨_, op, _, _, _, none⟩ => loud op | _ => false
def okQ (ops : Array Oper) (i : Nat) (l : Array Bool) : Bool := (Region.ready .any ops l).contains i && (match ops[i]? with | some o => !loud o.op && Region.free .any ops l i | none => false)
def heads : List (List Nat) → List Nat
  | [] => []
  | [] :: r => heads r
  | (k :: _) :: r => if (heads r).contains k then heads r else k :: heads r
def tailsOf (i : Nat) : List (List Nat) → List (List Nat)
  | [] => []
  | [] :: r => tailsOf i r
  | (k :: t) :: r => if k == i then t :: tailsOf i r else tailsOf i r
def isZ : Nat → Bool
  | 0 => true
  | _ + 1 => false
def allK : List Nat → (Nat → Prop) → Prop
  | [], _ => True
  | i :: r, K => K i ∧ allK r K
/-- all orders that are told, step by step: where they part, each is walked -/
noncomputable def vcSStep (ops : Array Oper) (fuel : Nat) (k : List (List Nat) → Dt) (ls : List (List Nat)) : Dt := fun σ H Fs =>
  match heads ls with
  | [i] => match ops[i]? with
    | some ⟨dst, op, ty, _, _, none⟩ => vcDOne P w0 W op ty σ H Fs (isZ fuel) fun v H' Fs' => k (tailsOf i ls) (put dst v σ) H' Fs'
    | _ => False
  | is => allK is fun i => match ops[i]? with
    | some ⟨dst, op, ty, _, _, none⟩ => vcDOne P w0 W op ty σ H Fs (isZ fuel) fun v H' Fs' => k (tailsOf i ls) (put dst v σ) H' Fs'
    | _ => False
noncomputable def vcS (ops : Array Oper) (fuel : Nat) (ls : List (List Nat)) (σ : Sl) (H : Hp) (Fs : List Fact) (K : Kt) : Prop :=
  Nat.rec (motive := fun _ => List (List Nat) → Dt) (fun _ σ H _ => K σ H) (fun fuel ih => vcSStep P w0 W ops fuel ih) fuel ls σ H Fs
theorem vcS_succ {ops : Array Oper} {fuel : Nat} {ls : List (List Nat)} {σ : Sl} {H : Hp} {Fs : List Fact} {K : Kt} : vcS P w0 W ops (fuel + 1) ls σ H Fs K = vcSStep P w0 W ops fuel (fun ls σ H Fs => vcS P w0 W ops fuel ls σ H Fs K) ls σ H Fs := rfl
def ordS (ops : Array Oper) : Nat → List (List Nat) → Array Bool → Bool
  | 0, _, l => (Region.ready .any ops l).isEmpty
  | fuel + 1, ls, l =>
    match heads ls with
    | [i] => (if loudAt ops i then Region.ready .any ops l == [i] && (!isZ fuel || waitsAll ops i) else okQ ops i l) && ordS ops fuel (tailsOf i ls) (l.setIfInBounds i true)
    | is => Region.ready .any ops l == is && !is.isEmpty && is.all fun i => loudAt ops i && (!isZ fuel || waitsAll ops i) && ordS ops fuel (tailsOf i ls) (l.setIfInBounds i true)
end
section
variable {P : Program} {n : Nat} {w0 : World} {W : Nat → Prop} {ops : Array Oper}
theorem quiet_sound {i : Nat} {o : Oper} {fuel : Nat} {last : Bool} {σ : Sl} {H : Hp} {Fs : List Fact} {a : Act} {w : World} {listed : Array Bool} {Kc : Value → Hp → List Fact → Prop} {K : Kt}
    (hi : ops[i]? = some o) (hsel : Region.noSelect ops = true) (hcl : Closed ops listed) (hrd : i ∈ Region.ready .any ops listed) (hl : loud o.op = false) (hfree : Region.free .any ops listed i = true)
    (hr : Rep n σ a) (hw : HInv w0 W H w) (hF : Facts P Fs w) (hwant : Region.wanted o (yielded ops a.tmps) = true)
    (h : vcDOne P w0 W o.op o.type σ H Fs last Kc)
    (next : ∀ v H' Fs' w', HInv w0 W H' w' → Kc v H' Fs' → Facts P Fs' w' → anyG P ops (Facts P Fs') (nrm n w0 W K) fuel (listed.setIfInBounds i true) (a.put o.dst v) w') :
    anyG P ops (Facts P Fs) (nrm n w0 W K) (fuel + 1) listed a w := by
  unfold vcDOne at h
  split at h
  · obtain ⟨v, hv, hK⟩ := pureOp_sound hr h
    exact anyG_first hi (Region.noSelect_spec hsel) (fun c a w hh => hh.elim) fuel listed a w (Region.free_spec hi hfree) hcl hrd hF (.inl ⟨hwant, fun w _ => hv w⟩)
      (next v H Fs w hw hK hF)
  · split at h
    · rename_i t x ho
      have h := vget_sound hr h
      split at h
      · rename_i p he
        obtain ⟨v, hv, hK⟩ := h.ex
        have hF' : Facts P ((t, p, v) :: Fs) w := fun f hf => by
          rcases List.mem_cons.1 hf with rfl | hf
          · exact hv w hw
          · exact hF f hf
        refine anyG_mono (C' := Facts P ((t, p, v) :: Fs)) (fun w hw f hf => hw f (List.mem_cons_of_mem _ hf)) _ _ _ _ ?_
        refine anyG_first hi (Region.noSelect_spec hsel) (fun c a w hh => hh.elim) fuel listed a w (Region.free_spec hi hfree) hcl hrd hF' (.inl ⟨hwant, fun w hw => ?_⟩)
          (next v H _ w hw hK hF')
        have := hw _ List.mem_cons_self
        simp only at this
        simp only [execOp, ho]
        rw [he]
        simp [this]
      · exact h.elim
    · exact h.elim
  · rename_i hk h0 h1
    unfold loud at hl
    split at hl
    · rename_i hk'; exact absurd hk' (by simpa using h0)
    · rename_i hk'; exact absurd hk' (by simpa using h1)
    · cases hl
theorem loud_sound {i : Nat} {o : Oper} {r : List Nat} {σ : Sl} {H : Hp} {Fs : List Fact} {a : Act} {w : World} {listed : Array Bool} {Kc : Value → Hp → List Fact → Prop} {K : Kt}
    (hi : ops[i]? = some o) (hl : loud o.op = true) (hlast : (!r.isEmpty || waitsAll ops i) = true) (hr : Rep n σ a) (hw : HInv w0 W H w)
    (hwant : Region.wanted o (yielded ops a.tmps) = true) (h : vcDOne P w0 W o.op o.type σ H Fs r.isEmpty Kc)
    (next : ∀ v H' Fs' w', HInv w0 W H' w' → Kc v H' Fs' → (r = [] ∨ Facts P Fs' w') → anyG P ops (Facts P Fs') (nrm n w0 W K) r.length (listed.setIfInBounds i true) (a.put o.dst v) w') :
    wpOp P ops (nrm n w0 W K) i (fun a' w' => (Facts P Fs w' ∨ waitsAll ops i = true) ∧ anyG P ops (Facts P Fs) (nrm n w0 W K) r.length (listed.setIfInBounds i true) a' w') a w := by
  unfold vcDOne at h
  split at h
  · rename_i h0; simp [loud, h0] at hl
  · rename_i h0; simp [loud, h0] at hl
  · unfold wpOp
    simp only [hi, hwant, if_true]
    refine .inl (wp_of_opsTo (effOp_sound hr hw h) fun v w' H' h1 h2 => ?_)
    cases hre : r with
    | nil =>
      simp only [hre, List.isEmpty_nil] at h2
      have := next v H' [] w' h1 (by simpa [hre] using h2) (.inl hre)
      rw [hre] at this
      exact ⟨.inr (by simpa [hre] using hlast), this⟩
    | cons x y =>
      simp only [hre, List.isEmpty_cons] at h2
      obtain ⟨h3, h4⟩ := KpK_sound h2
      have := next v H' Fs w' h1 h3 (.inr (h4 w' h1))
      rw [hre] at this
      exact ⟨.inl (h4 w' h1), this⟩
theorem allK_mem : ∀ {l : List Nat} {K : Nat → Prop}, allK l K → ∀ i ∈ l, K i
  | _ :: _, _, h, i, hi => by
    rcases List.mem_cons.1 hi with rfl | hi
    · exact h.1
    · exact allK_mem h.2 i hi
theorem loudOne {K : Kt} (hd : ops.toList.all (dstOk n) = true) {i fuel : Nat} {ls : List (List Nat)} {σ : Sl} {H : Hp} {Fs : List Fact} {a : Act} {w : World} {listed : Array Bool}
    (hl : loudAt ops i = true) (hlast : (!isZ fuel || waitsAll ops i) = true) (hr : Rep n σ a) (hw : HInv w0 W H w)
    (h : match ops[i]? with
      | some ⟨dst, op, ty, _, _, none⟩ => vcDOne P w0 W op ty σ H Fs (isZ fuel) fun v H' Fs' => vcS P w0 W ops fuel ls (put dst v σ) H' Fs' K
      | _ => False)
    (next : ∀ σ H Fs a w, Rep n σ a → HInv w0 W H w → (fuel = 0 ∨ Facts P Fs w) → vcS P w0 W ops fuel ls σ H Fs K → anyG P ops (Facts P Fs) (nrm n w0 W K) fuel (listed.setIfInBounds i true) a w) :
    wpOp P ops (nrm n w0 W K) i (fun a' w' => (Facts P Fs w' ∨ waitsAll ops i = true) ∧ anyG P ops (Facts P Fs) (nrm n w0 W K) fuel (listed.setIfInBounds i true) a' w') a w := by
  have e1 : (List.replicate fuel 0).length = fuel := List.length_replicate
  have e2 : (List.replicate fuel 0).isEmpty = isZ fuel := by cases fuel <;> rfl
  unfold loudAt at hl
  split at hl
  · rename_i dst op ty pos after hi
    have hput : ∀ t, dst = some t → t < n := put_of_dstOk (o := ⟨dst, op, ty, pos, after, none⟩) (List.all_eq_true.1 hd _ (List.mem_of_getElem? (by simpa using hi)))
    simp only [hi] at h
    have := loud_sound (P := P) (n := n) (r := List.replicate fuel 0) (K := K) (listed := listed) (Fs := Fs) (a := a) (w := w) hi hl (by rw [e2]; exact hlast) hr hw (by simp [Region.wanted]) (by rw [e2]; exact h) fun v H' Fs' w' h1 h2 h3 => by
      rw [e1]
      exact next _ _ _ _ _ (hr.put hput v) h1 (h3.imp_left fun h => by cases fuel with | zero => rfl | succ _ => cases h) h2
    rw [e1] at this
    exact this
  · cases hl
theorem vcS_sound {K : Kt} (hsel : Region.noSelect ops = true) (hd : ops.toList.all (dstOk n) = true) : ∀ {fuel : Nat} {ls : List (List Nat)} {σ : Sl} {H : Hp} {Fs : List Fact} {a : Act} {w : World} {listed : Array Bool},
    Closed ops listed → ordS ops fuel ls listed = true → vcS P w0 W ops fuel ls σ H Fs K → Rep n σ a → HInv w0 W H w → (fuel = 0 ∨ Facts P Fs w) → anyG P ops (Facts P Fs) (nrm n w0 W K) fuel listed a w := by
  intro fuel
  induction fuel with
  | zero =>
    intro ls σ H Fs a w listed _ ho h hr hw _
    exact ⟨by simpa [ordS] using ho, σ, H, hr, hw, h⟩
  | succ fuel ih =>
    intro ls σ H Fs a w listed hcl ho h hr hw hF
    have hF : Facts P Fs w := hF.resolve_left (by simp)
    simp only [ordS] at ho
    rw [vcS_succ] at h
    simp only [vcSStep] at h
    split at ho
    · rename_i i hh
      rw [hh] at h
      simp only [Bool.and_eq_true] at ho
      obtain ⟨hm, hgo⟩ := ho
      simp only at h
      by_cases hl : loudAt ops i = true
      · rw [if_pos hl] at hm
        simp only [Bool.and_eq_true, beq_iff_eq] at hm
        have hri : i ∈ Region.ready .any ops listed := by rw [hm.1]; simp
        refine ⟨fun h0 => (by rw [hm.1] at h0; cases h0), fun m hmr => ?_⟩
        rw [hm.1] at hmr
        obtain rfl := List.mem_singleton.1 hmr
        exact loudOne hd hl hm.2 hr hw h fun σ H Fs a w h1 h2 h3 h4 => ih (hcl.set hri) hgo h4 h1 h2 h3
      · rw [if_neg hl] at hm
        unfold okQ at hm
        simp only [Bool.and_eq_true] at hm
        obtain ⟨hrd, hq⟩ := hm
        have hrd : i ∈ Region.ready .any ops listed := by simpa using hrd
        split at h
        · rename_i dst op ty pos after hi
          have hput : ∀ t, dst = some t → t < n := put_of_dstOk (o := ⟨dst, op, ty, pos, after, none⟩) (List.all_eq_true.1 hd _ (List.mem_of_getElem? (by simpa using hi)))
          rw [hi] at hq
          simp only [Bool.and_eq_true, Bool.not_eq_true'] at hq
          exact quiet_sound hi hsel hcl hrd hq.1 hq.2 hr hw hF (by simp [Region.wanted]) h fun v H' Fs' w' h1 h2 h3 => ih (hcl.set hrd) hgo h2 (hr.put hput v) h1 (.inr h3)
        · exact h.elim
    · rename_i is hne
      simp only [Bool.and_eq_true, beq_iff_eq] at ho
      obtain ⟨⟨hready, hnil⟩, hall⟩ := ho
      have h : allK (heads ls) fun i => match ops[i]? with
          | some ⟨dst, op, ty, _, _, none⟩ => vcDOne P w0 W op ty σ H Fs (isZ fuel) fun v H' Fs' => vcS P w0 W ops fuel (tailsOf i ls) (put dst v σ) H' Fs' K
          | _ => False := by
        split at h
        · rename_i j hj; exact absurd hj (hne j)
        · exact h
      refine ⟨fun h0 => (by rw [hready] at h0; rw [h0] at hnil; cases hnil), fun m hmr => ?_⟩
      have hmr' := hmr
      rw [hready] at hmr'
      have hm := List.all_eq_true.1 hall m hmr'
      simp only [Bool.and_eq_true] at hm
      exact loudOne hd hm.1.1 hm.1.2 hr hw (allK_mem h m hmr') fun σ H Fs a w h1 h2 h3 h4 => ih (hcl.set hmr) hm.2 h4 h1 h2 h3
/-- the orders that are told serve every order -/
theorem DrwK.ords {σ : Sl} {H : Hp} {K : Kt} (hm : P.follows .mixedOrders = true) (ls : List (List Nat)) (ho : (Region.noSelect ops && ordS ops ops.size ls (Array.replicate ops.size false)) = true)
    (h : vcS P w0 W ops ops.size ls σ H [] K) : DrwK P n w0 W ops σ H K := by
  simp only [Bool.and_eq_true] at ho
  refine ⟨fun hd id a w hr hw => wp_region_any hm ?_⟩
  exact anyG_any _ _ _ _ (vcS_sound (a := a) ho.1 hd (fun k hk => by simp only [Array.getD_eq_getD_getElem?, Array.getElem?_replicate] at hk; split at hk <;> cases hk) ho.2 h hr hw.drew (.inr fun f hf => by cases hf))
/-- what stands behind a region, told once -/
theorem DrwK.cut {S : Type} (st : S → Sl) (hs : S → Hp) (I : S → Prop) {σ : Sl} {H : Hp} {K : Kt} (h : DrwK P n w0 W ops σ H (At st hs I)) (k : ∀ s, I s → K (st s) (hs s)) : DrwK P n w0 W ops σ H K :=
  ⟨fun hd id a w hr hw => wp_mono (h.wp hd id a w hr hw) fun e a' w' he => by
    cases e with
    | normal =>
      obtain ⟨_, _, h1, h2, s, h3, h4, h5⟩ := he
      exact ⟨st s, hs s, h1.sub h3, h2.hsub h4, k s h5⟩
    | _ => exact he⟩
end
theorem pick1_sub {H : Hp} : ∀ {l : Hp} {k : Nat} {y : Chunk} {r : Hp}, pick1 l k = some (y, r) → HSub H r → HSub (y :: H) l
  | [], k, y, r, h, _ => by unfold pick1 at h; cases h
  | x :: l, 0, y, r, h, hs => by
    unfold pick1 at h
    obtain ⟨L, h1, h2⟩ := hs
    injection h with h; injection h with e1 e2
    subst e1 e2
    exact ⟨x :: L, h1.cons_cons x, h2.cons x⟩
  | x :: l, k + 1, y, r, h, hs => by
    unfold pick1 at h
    split at h
    · rename_i z r' hz
      injection h with h; injection h with e1 e2
      subst e1 e2
      obtain ⟨L, h1, h2⟩ := hs
      rcases List.sublist_cons_iff.1 h1 with h1 | ⟨L', rfl, h3⟩
      · obtain ⟨M, m1, m2⟩ := pick1_sub hz ⟨L, h1, h2⟩
        exact ⟨M, m1.cons x, m2⟩
      · obtain ⟨M, m1, m2⟩ := pick1_sub hz ⟨L', h3, List.Perm.refl _⟩
        exact ⟨x :: M, m1.cons_cons x, (m2.cons x).trans ((List.Perm.swap z x L').trans (h2.cons z))⟩
    · cases h
theorem HSub.of (ks : List Nat) {H a b : Hp} (h : picks H ks = some (a, b)) : HSub a H := by
  induction ks generalizing H a b with
  | nil =>
    simp only [picks, Option.some.injEq, Prod.mk.injEq] at h
    rw [← h.1]; exact HSub.nil _
  | cons k ks ih =>
    simp only [picks] at h
    split at h
    · rename_i c r hc
      split at h
      · rename_i a' b' hp
        simp only [Option.some.injEq, Prod.mk.injEq] at h
        rw [← h.1]
        exact pick1_sub hc (ih hp)
      · cases h
    · cases h
end Go.Sx
