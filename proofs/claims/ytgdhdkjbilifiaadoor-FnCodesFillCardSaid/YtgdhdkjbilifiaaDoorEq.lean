/- Rules for comparing booleans and interface values. More rules for comparing interface values with nil; new cells of arrays. No program. -/
import Derived.Test.YtgdhdkjbilifiaaDoorSy
import Derived.LaidEql
namespace Go.Sx
open Go
section
variable {P : Program} {w0 : World} {W : Nat → Prop} {H : Hp}
theorem ValK.build {t : TypeId} {ps : List (Nat × Value)} {cells : Array Value} {K : Value → Prop} (h : P.built t ps = some cells) (hk : listK cells.toList fun l => K (.agg l.toArray)) : ValK P (Instr.build t ps.toArray) K :=
  ⟨⟨.agg cells, fun w => run_build w t ps.toArray cells h, by simpa using listK_sound hk⟩⟩
/-- a struct of one-cell fields, built field by field -/
def setAll : List Value → List (Nat × Value) → List Value
  | l, [] => l
  | l, (i, v) :: r => setAll (l.set i v) r
def setAllK : List (Nat × Value) → List Value → (List Value → Prop) → Prop
  | [], l, K => K l
  | (i, v) :: r, l, K => setK l i v fun l' => setAllK r l' K
theorem setAllK_sound : ∀ {ps : List (Nat × Value)} {l : List Value} {K : List Value → Prop}, setAllK ps l K → K (setAll l ps)
  | [], _, _, h => h
  | (_, _) :: r, _, _, h => setAllK_sound (ps := r) (setK_sound h)
theorem fill_set {place : Nat → Option (Nat × Nat)} : ∀ {ps : List (Nat × Value)} {cells : Array Value}, (∀ p ∈ ps, p.2.oneCell' = true ∧ place p.1 = some (p.1, 1) ∧ p.1 < cells.size) → Instr.fill place cells ps = some (setAll cells.toList ps).toArray
  | [], cells, _ => by simp [Instr.fill, setAll]
  | (i, v) :: r, cells, h => by
    obtain ⟨h1, h2, h3⟩ := h (i, v) List.mem_cons_self
    have hc : v.cells = #[v] := one_cells h1
    unfold Instr.fill
    simp only at h2 h3
    simp only [h2, hc]
    rw [if_neg (by simp; omega)]
    have := fill_set (place := place) (ps := r) (cells := cells.setIfInBounds i v) (fun p hp => by
      obtain ⟨g1, g2, g3⟩ := h p (List.mem_cons_of_mem _ hp)
      exact ⟨g1, g2, by simpa using g3⟩)
    simpa [setAll] using this
theorem ValK.buildS (k : Nat) {t : TypeId} {ps : List (Nat × Value)} {it : TypeInfo} {fs : Array Field} {z : Value} {zs : List Value} {K : Value → Prop} (hi : P.info? t = some it) (hu : P.underlying t = some (.struct fs)) (hz : it.zero = some z) (hzs : z.cells.toList = zs)
    (hf : (fs.toList.mapM fun f => (P.info? f.type).map fun i => (f.offset, i.size)) = some ((List.range k).map fun i => (i, 1))) (hl : Nat.ble k zs.length = true) (h1 : ps.all (fun p => p.2.oneCell' && Nat.blt p.1 k) = true)
    (h : setAllK ps zs fun l => K (.agg l.toArray)) : ValK P (Instr.build t ps.toArray) K := by
  subst hzs
  have hl := Nat.le_of_ble_eq_true hl
  refine ⟨⟨.agg (setAll z.cells.toList ps).toArray, fun w => run_build w t ps.toArray _ ?_, setAllK_sound h⟩⟩
  unfold Program.built
  rw [hi, hu]
  simp only [hz, hf]
  refine fill_set fun p hp => ?_
  have := List.all_eq_true.1 h1 p hp
  simp only [Bool.and_eq_true] at this
  have hk : p.1 < k := Nat.le_of_ble_eq_true this.2
  exact ⟨this.1, by simp [hk], by simp at hl; omega⟩
/-- a value of several cells into a block: what the cells are then is told -/
theorem StK.blkNE (k : Nat) {t : TypeId} {b o : Nat} {T : TypeId} {cs : List Value} {i : TypeInfo} {vs : Array Value} {K : Hp → Prop} (cs' : List Value) (hk : H[k]? = some (.blk b T cs)) (hi : P.info? t = some i) (hs : Nat.beq vs.size i.size = true) (h1 : vs.toList.all (·.oneCell') = true)
    (hl : Nat.ble (o + i.size) cs.length = true) (he : cs.take o ++ vs.toList ++ cs.drop (o + i.size) = cs') (h : setH H k (.blk b T cs') K) : StK P w0 W H t (some ⟨b, o, none⟩) (.agg vs) K :=
  StK.blkN k hk hi (Nat.eq_of_beq_eq_true hs) (List.all_eq_true.1 h1) (Nat.le_of_ble_eq_true hl) (he.symm ▸ h)
theorem ValK.eqBool {t : TypeId} {x y : Operand} {a b : Bool} {K : Value → Prop} (ht : P.underlying t = some .bool) (h : K (.bool (a == b))) : ValK P (do eqGuard .eql t x y (.bool a) (.bool b); binOp .eql t (.bool a) (.bool b)) K :=
  ⟨⟨.bool (a == b), fun w => by simp [eqGuard, run_eql_bool w t a b ht], h⟩⟩
theorem run_equal_iface_nil {t tp : TypeId} {v : Value} {ms : Array (String × TypeId)} (ht : P.underlying t = some (.interface ms)) (w : World) : (Op.equal t (.iface tp v) .nilIface).run P w = .ok false w := by
  have h : ∀ d : Nat, (Op.equalIn (d + 1) t (.iface tp v) .nilIface).run P w = .ok false w := fun d => by simp [Op.equalIn, run_underlying ht]
  exact h 9999
theorem run_equal_nil_nil {t : TypeId} {ms : Array (String × TypeId)} (ht : P.underlying t = some (.interface ms)) (w : World) : (Op.equal t .nilIface .nilIface).run P w = .ok true w := by
  have h : ∀ d : Nat, (Op.equalIn (d + 1) t .nilIface .nilIface).run P w = .ok true w := fun d => by simp [Op.equalIn, run_underlying ht]
  exact h 9999
theorem ValK.neIface {t tp : TypeId} {x y : Operand} {v : Value} {ms : Array (String × TypeId)} {K : Value → Prop} (ht : P.underlying t = some (.interface ms)) (h : K (.bool true)) : ValK P (do eqGuard .neq t x y (.iface tp v) .nilIface; binOp .neq t (.iface tp v) .nilIface) K :=
  ⟨⟨.bool true, fun w => by simp only [binOp]; simp [eqGuard, run_equal_iface_nil ht], h⟩⟩
theorem ValK.neNil {t : TypeId} {x : Operand} {c : Value} {ms : Array (String × TypeId)} {K : Value → Prop} (ht : P.underlying t = some (.interface ms)) (h : K (.bool false)) : ValK P (do eqGuard .neq t x (.const c) .nilIface .nilIface; binOp .neq t .nilIface .nilIface) K :=
  ⟨⟨.bool false, fun w => by simp only [binOp]; simp [eqGuard, run_equal_nil_nil ht], h⟩⟩
/-- two pointers in interface values, told apart -/
theorem EffK.neqPtr {t tp te : TypeId} {x y : Operand} {ms : Array (String × TypeId)} {i j : TypeInfo} {a b : Addr} {K : Value → Hp → Prop}
    (hi : P.underlying t = some (.interface ms)) (hp : P.underlying tp = some (.pointer te)) (hinfo : P.info? tp = some i) (hcomp : i.comparable = true) (hte : P.info? te = some j) (hsz : Nat.beq j.size 0 = false)
    (hne : ∀ w, HInv w0 W H w → a ≠ b) (ha : ∀ w, HInv w0 W H w → ∃ c t, w.heap[a.block]? = some (.cells c t (0, 0))) (hb : ∀ w, HInv w0 W H w → ∃ c t, w.heap[b.block]? = some (.cells c t (0, 0))) (h : K (.bool false) H) :
    EffK P w0 W H (do eqGuard .eql t x y (.iface tp (.pointer (some a))) (.iface tp (.pointer (some b))); binOp .eql t (.iface tp (.pointer (some a))) (.iface tp (.pointer (some b)))) K := by
  refine ⟨fun w hw => ⟨.bool false, w, H, ?_, hw, h⟩⟩
  obtain ⟨ca, ta, ha⟩ := ha w hw
  obtain ⟨cb, tb, hb⟩ := hb w hw
  have := run_eql_iface_ptr_other w hi hp hinfo hcomp hte (Nat.ne_of_beq_eq_false hsz) (hne w hw) ha hb
  simp [eqGuard, this]
/-- a block of the world before, none of ours, is as it was -/
theorem HInv.kept {w : World} (hw : HInv w0 W H w) {b : Nat} (hn : ¬ W b) {o : Obj} (h : w0.heap[b]? = some o) : w.heap[b]? = some o := by
  rw [hw.keeps.block b (Array.getElem?_eq_some_iff.1 h).1 hn]; exact h
/-- a block of the world before is none that was made -/
theorem HInv.old_ne {w : World} (hw : HInv w0 W H w) {k b : Nat} {T : TypeId} {cs : List Value} (hk : H[k]? = some (.blk b T cs)) {a : Nat} {o : Obj} (hn : ¬ W a) (h : w0.heap[a]? = some o) : a ≠ b := by
  rintro rfl
  have hlt := (Array.getElem?_eq_some_iff.1 h).1
  rcases hw.new _ (List.mem_of_getElem? hk) a rfl with h1 | h1
  · exact hn h1
  · omega
end
/-- what stands behind a way out, told once -/
theorem Wp.cutEx {P : Program} {n : Nat} {w0 : World} {W : Nat → Prop} {S : Type} (i : Nat) (st : S → Sl) (hs : S → Hp) (I : S → Prop) {c : Code} {σ : Sl} {H : Hp} {nx : Kt} {ex : Nat → Kt} {rt : Kt}
    (h : Wp P n w0 W c σ H ⟨nx, fun j => match Nat.beq j i with | true => At st hs I | false => ex j, rt⟩) (k : ∀ s, I s → ex i (st s) (hs s)) : Wp P n w0 W c σ H ⟨nx, ex, rt⟩ :=
  ⟨fun hok a w hr hw => wp_mono (h.wp hok a w hr hw) fun e a' w' he => by
    cases e with
    | exit j =>
      simp only [post] at he ⊢
      by_cases hj : Nat.beq j i = true
      · rw [hj] at he
        have := Nat.eq_of_beq_eq_true hj
        subst this
        obtain ⟨_, _, h1, h2, s, h3, h4, h5⟩ := he
        exact ⟨st s, hs s, h1.sub h3, h2.hsub h4, k s h5⟩
      · have hj : Nat.beq j i = false := eq_false_of_ne_true hj
        rw [hj] at he
        exact he
    | _ => exact he⟩
end Go.Sx
namespace Go.Sx
open Go
section
variable {P : Program} {w0 : World} {W : Nat → Prop} {H : Hp}
theorem ValK.eqNil {t : TypeId} {x : Operand} {c : Value} {ms : Array (String × TypeId)} {K : Value → Prop} (ht : P.underlying t = some (.interface ms)) (h : K (.bool true)) : ValK P (do eqGuard .eql t x (.const c) .nilIface .nilIface; binOp .eql t .nilIface .nilIface) K :=
  ⟨⟨.bool true, fun w => by simp only [binOp]; simp [eqGuard, run_equal_nil_nil ht], h⟩⟩
theorem ValK.eqIface {t tp : TypeId} {x y : Operand} {v : Value} {ms : Array (String × TypeId)} {K : Value → Prop} (ht : P.underlying t = some (.interface ms)) (h : K (.bool false)) : ValK P (do eqGuard .eql t x y (.iface tp v) .nilIface; binOp .eql t (.iface tp v) .nilIface) K :=
  ⟨⟨.bool false, fun w => by simp only [binOp]; simp [eqGuard, run_equal_iface_nil ht], h⟩⟩
/-- new cells of a type, told as a list -/
theorem NewK.rep {e : TypeId} {K : List Value → Prop} (l : List Value) {i : TypeInfo} {z : Value} (hi : P.info? e = some i) (hz : i.zero = some z) (hl : z.cells.toList = l) (h : K l) : NewK P e K := ⟨i, z, hi, hz, hl ▸ h⟩
end
end Go.Sx
