/- Errors where one sentinel stands in the world: what the functions that make them return. -/
import Derived.Test.YtkdfminibmdkgaaDoorSize
import Derived.Test.YtkdfminibmdkgaaDoorEq2
import Derived.Test.YtkdfminibmdkgaaDoorRows
import Derived.Stop.LaidErr
import Derived.Deep.DeepHandedRow
namespace Go.Proofs.YtkdfminibmdkgaaDoor
open Go Go.Sx Go.ChangeShapes Go.WideShapes Go.ChangeAt Go.RowKit
set_option maxRecDepth 100000
structure LaidE (w : World) (W : Nat → Prop) (e : Addr) : Prop where
  ge : Rd w W (some ⟨0, 0, none⟩) 1 1 [.iface 73 (.pointer (some e))]
  he : ∃ c t, w.heap[e.block]? = some (.cells c t (0, 0))
  ke : ¬ W e.block
theorem kept_not {w0 w : World} {W : Nat → Prop} {Hin Hr : Hp} (hw : HInv w0 W (Hin ++ Hr) w) {a : Nat} {o : Obj} (hn : ¬ W a) (h : w0.heap[a]? = some o) : ¬ blocks Hin a := by
  rintro ⟨c, hc, hcb⟩
  have hlt := (Array.getElem?_eq_some_iff.1 h).1
  rcases hw.new c (List.mem_append_left _ hc) a hcb with h1 | h1
  · exact hn h1
  · omega
theorem LaidE.pass {w0 w : World} {W : Nat → Prop} {Hin Hr : Hp} (hw : HInv w0 W (Hin ++ Hr) w) {e : Addr} (h : LaidE w0 W e) : LaidE w (blocks Hin) e := by
  obtain ⟨c1, t1, h1⟩ := h.he
  exact ⟨h.ge.pass hw, ⟨c1, t1, hw.kept h.ke h1⟩, kept_not hw h.ke h1⟩
abbrev Err : Value → Hp → Prop := fun v H => (∃ T x, v = .iface T x) ∧ H = []
theorem wrap_spec (r : Nat) (off : Int) (a e : Addr) (h0 : 0 ≤ off) (h1 : off ≤ 9007199254740992) : FnS Tryd.prog 20 [.pointer (some ⟨r, 0, none⟩), .int .i64 off, .iface 73 (.pointer (some a))] []
    (fun w => LaidE w (blocks []) e ∧ Rd w (blocks []) (some ⟨r, 6, none⟩) 1 1 [.int .i64 0] ∧ a ≠ e ∧ ∃ c t, w.heap[a.block]? = some (.cells c t (0, 0))) Err := by
  refine FnS.introD Tryd.func20 rfl (by kernel_rfl) rfl fun w hH ⟨hL, hR, hne, c, t, ha⟩ => ?_
  have hnb : ∀ b, ¬ blocks [] b := fun b ⟨_, h, _⟩ => by cases h
  (conv => whnf); repeat ((first | refine RngK.mk (by omega) (by omega) ?_ | refine NzK.mk (by omega) ?_ | refine NnK.mk (by omega) ?_ | refine BdK.mk (by omega) (by omega) (by omega) ?_ | refine InsK.lit (by omega) (by omega) ?_ | refine SpK.lit ?_ | refine GrdK.same ?_ | refine GrdK.tf ?_ | refine GrdK.ft ?_ | refine PickK.t ?_ | refine PickK.f ?_); (conv => whnf))
  refine LdK.rd hL.ge 0 rfl rfl rfl rfl ?_
  (conv => whnf); repeat ((first | refine RngK.mk (by omega) (by omega) ?_ | refine NzK.mk (by omega) ?_ | refine NnK.mk (by omega) ?_ | refine BdK.mk (by omega) (by omega) (by omega) ?_ | refine InsK.lit (by omega) (by omega) ?_ | refine SpK.lit ?_ | refine GrdK.same ?_ | refine GrdK.tf ?_ | refine GrdK.ft ?_ | refine PickK.t ?_ | refine PickK.f ?_); (conv => whnf))
  obtain ⟨c2, t2, h2⟩ := hL.he
  refine EffK.neqPtr rfl rfl rfl rfl rfl rfl (fun _ _ => hne) (fun w hw => ⟨c, t, hw.kept (hnb _) ha⟩) (fun w hw => ⟨c2, t2, hw.kept (hnb _) h2⟩) ?_
  (conv => whnf); repeat ((first | refine RngK.mk (by omega) (by omega) ?_ | refine NzK.mk (by omega) ?_ | refine NnK.mk (by omega) ?_ | refine BdK.mk (by omega) (by omega) (by omega) ?_ | refine InsK.lit (by omega) (by omega) ?_ | refine SpK.lit ?_ | refine GrdK.same ?_ | refine GrdK.tf ?_ | refine GrdK.ft ?_ | refine PickK.t ?_ | refine PickK.f ?_); (conv => whnf))
  refine Wp.cond rfl (fun h => by cases h) (fun _ => ?_)
  (conv => whnf); repeat ((first | refine RngK.mk (by omega) (by omega) ?_ | refine NzK.mk (by omega) ?_ | refine NnK.mk (by omega) ?_ | refine BdK.mk (by omega) (by omega) (by omega) ?_ | refine InsK.lit (by omega) (by omega) ?_ | refine SpK.lit ?_ | refine GrdK.same ?_ | refine GrdK.tf ?_ | refine GrdK.ft ?_ | refine PickK.t ?_ | refine PickK.f ?_); (conv => whnf))
  refine LdK.rd (A := some ⟨r, 6, none⟩) hR 0 rfl rfl rfl rfl ?_
  (conv => whnf); repeat ((first | refine RngK.mk (by omega) (by omega) ?_ | refine NzK.mk (by omega) ?_ | refine NnK.mk (by omega) ?_ | refine BdK.mk (by omega) (by omega) (by omega) ?_ | refine InsK.lit (by omega) (by omega) ?_ | refine SpK.lit ?_ | refine GrdK.same ?_ | refine GrdK.tf ?_ | refine GrdK.ft ?_ | refine PickK.t ?_ | refine PickK.f ?_); (conv => whnf))
  refine ValK.build rfl ?_
  (conv => whnf); repeat ((first | refine RngK.mk (by omega) (by omega) ?_ | refine NzK.mk (by omega) ?_ | refine NnK.mk (by omega) ?_ | refine BdK.mk (by omega) (by omega) (by omega) ?_ | refine InsK.lit (by omega) (by omega) ?_ | refine SpK.lit ?_ | refine GrdK.same ?_ | refine GrdK.tf ?_ | refine GrdK.ft ?_ | refine PickK.t ?_ | refine PickK.f ?_); (conv => whnf))
  intro b2
  (conv => whnf); repeat ((first | refine RngK.mk (by omega) (by omega) ?_ | refine NzK.mk (by omega) ?_ | refine NnK.mk (by omega) ?_ | refine BdK.mk (by omega) (by omega) (by omega) ?_ | refine InsK.lit (by omega) (by omega) ?_ | refine SpK.lit ?_ | refine GrdK.same ?_ | refine GrdK.tf ?_ | refine GrdK.ft ?_ | refine PickK.t ?_ | refine PickK.f ?_); (conv => whnf))
  exact ⟨[], HSub.nil _, ⟨_, _, rfl⟩, rfl⟩
theorem new_spec (s : ByteArray) : FnS Tryd.prog 21 [.string s] [] (fun _ => True) (fun v H => ∃ b, v = .iface 73 (.pointer (some ⟨b, 0, none⟩)) ∧ H = [.blk b 75 [.string s]]) := by
  refine FnS.intro Tryd.func21 rfl (by kernel_rfl) rfl fun w hH _ => ?_
  (conv => whnf); repeat ((first | refine RngK.mk (by omega) (by omega) ?_ | refine NzK.mk (by omega) ?_ | refine NnK.mk (by omega) ?_ | refine BdK.mk (by omega) (by omega) (by omega) ?_ | refine InsK.lit (by omega) (by omega) ?_ | refine SpK.lit ?_ | refine GrdK.same ?_ | refine GrdK.tf ?_ | refine GrdK.ft ?_ | refine PickK.t ?_ | refine PickK.f ?_); (conv => whnf))
  refine ValK.build rfl ?_
  (conv => whnf); repeat ((first | refine RngK.mk (by omega) (by omega) ?_ | refine NzK.mk (by omega) ?_ | refine NnK.mk (by omega) ?_ | refine BdK.mk (by omega) (by omega) (by omega) ?_ | refine InsK.lit (by omega) (by omega) ?_ | refine SpK.lit ?_ | refine GrdK.same ?_ | refine GrdK.tf ?_ | refine GrdK.ft ?_ | refine PickK.t ?_ | refine PickK.f ?_); (conv => whnf))
  intro b2
  (conv => whnf); repeat ((first | refine RngK.mk (by omega) (by omega) ?_ | refine NzK.mk (by omega) ?_ | refine NnK.mk (by omega) ?_ | refine BdK.mk (by omega) (by omega) (by omega) ?_ | refine InsK.lit (by omega) (by omega) ?_ | refine SpK.lit ?_ | refine GrdK.same ?_ | refine GrdK.tf ?_ | refine GrdK.ft ?_ | refine PickK.t ?_ | refine PickK.f ?_); (conv => whnf))
  exact ⟨b2, rfl, rfl⟩
theorem err_spec (r : Nat) (off : Int) (s : ByteArray) (e : Addr) (h0 : 0 ≤ off) (h1 : off ≤ 9007199254740992) : FnS Tryd.prog 19 [.pointer (some ⟨r, 0, none⟩), .int .i64 off, .string s] []
    (fun w => LaidE w (blocks []) e ∧ Rd w (blocks []) (some ⟨r, 6, none⟩) 1 1 [.int .i64 0]) Err := by
  refine FnS.introD Tryd.func19 rfl (by kernel_rfl) rfl fun w hH ⟨hL, hR⟩ => ?_
  (conv => whnf); repeat ((first | refine RngK.mk (by omega) (by omega) ?_ | refine NzK.mk (by omega) ?_ | refine NnK.mk (by omega) ?_ | refine BdK.mk (by omega) (by omega) (by omega) ?_ | refine InsK.lit (by omega) (by omega) ?_ | refine SpK.lit ?_ | refine GrdK.same ?_ | refine GrdK.tf ?_ | refine GrdK.ft ?_ | refine PickK.t ?_ | refine PickK.f ?_); (conv => whnf))
  refine CallK.of0 (new_spec s) ?_
  rintro _ _ ⟨b, rfl, rfl⟩
  (conv => whnf); repeat ((first | refine RngK.mk (by omega) (by omega) ?_ | refine NzK.mk (by omega) ?_ | refine NnK.mk (by omega) ?_ | refine BdK.mk (by omega) (by omega) (by omega) ?_ | refine InsK.lit (by omega) (by omega) ?_ | refine SpK.lit ?_ | refine GrdK.same ?_ | refine GrdK.tf ?_ | refine GrdK.ft ?_ | refine PickK.t ?_ | refine PickK.f ?_); (conv => whnf))
  obtain ⟨c2, t2, h2⟩ := hL.he
  refine CallK.of [] (wrap_spec r off ⟨b, 0, none⟩ e h0 h1) rfl (fun w hw => ⟨hL.pass hw, hR.pass hw, ?_, _, _, hw.at_ (k := 0) rfl⟩) ?_
  · intro he
    subst he
    exact HInv.old_ne hw (k := 0) rfl hL.ke h2 rfl
  rintro _ _ ⟨⟨T, x, rfl⟩, rfl⟩
  (conv => whnf); repeat ((first | refine RngK.mk (by omega) (by omega) ?_ | refine NzK.mk (by omega) ?_ | refine NnK.mk (by omega) ?_ | refine BdK.mk (by omega) (by omega) (by omega) ?_ | refine InsK.lit (by omega) (by omega) ?_ | refine SpK.lit ?_ | refine GrdK.same ?_ | refine GrdK.tf ?_ | refine GrdK.ft ?_ | refine PickK.t ?_ | refine PickK.f ?_); (conv => whnf))
  exact ⟨[], HSub.nil _, ⟨_, _, rfl⟩, rfl⟩
/-! ### What the card's list gives -/
theorem gE : Tryd.prog.globalNamed "io.EOF" = some 0 := by kernel_rfl
theorem gEt : (Tryd.prog.globals[0]?).map (·.type) = some 33 := by kernel_rfl
theorem cellsES : Tryd.prog.cellsOf 75 = 1 := by kernel_rfl
theorem cellsStr : Tryd.prog.cellsOf 9 = 1 := by kernel_rfl
theorem starES : "*" ++ "errors.errorString" = "*errors.errorString" := by decide
theorem rowES (u : TypeId) (h : Tryd.prog.typeName? 3 u = some "*errors.errorString") : u = 73 :=
  typeName_ptr_named (nm := "errors.errorString") (by rw [starES]; kernel_rfl) (by kernel_rfl) (by decide) u (by rw [starES]; exact h)
theorem rd_var {W : World} {g : Nat} {nm : String} {v : Value} (hg : Tryd.prog.globalNamed nm = some g) (h : W.var? Tryd.prog nm = some #[v]) : Rd W (blocks []) (some ⟨g, 0, none⟩) 1 1 [v] := by
  have hc := World.var?_cell hg h 0
  have hc : W.cell? ⟨g, 0, none⟩ = some v := by simpa using hc
  refine ⟨rfl, fun _ => ⟨g, 0, rfl, fun ⟨_, h, _⟩ => (by cases h), World.block_lt_of_cell? W _ hc⟩, fun b o hA j u hv => ?_⟩
  injection hA with hA; injection hA with h1 h2
  subst h1 h2
  cases j with
  | zero => simp only [List.getElem?_cons_zero, Option.some.injEq] at hv; subst hv; simpa using hc
  | succ j => simp at hv
theorem laid_one {P : Program} {n nm : String} {text : List UInt8} {r : List (String × DataW Unit)} {W : World} {g : Nat} {ti tp te ts : TypeId} {ms : Array (String × TypeId)} {f : Field}
    (h : laidMet P ((n, .iface nm (.ptr (.agg [.lit (.string text)]))) :: r) W)
    (hg : P.globalNamed n = some g) (ht : (P.globals[g]?).map (·.type) = some ti) (hi : P.underlying ti = some (.interface ms)) (hrow : ∀ u, P.typeName? 3 u = some nm → u = tp)
    (hp : P.underlying tp = some (.pointer te)) (he : P.underlying te = some (.struct #[f])) (hft : f.type = ts) (hfo : f.offset = 0) (hs : P.underlying ts = some .string) (hc : P.cellsOf te = 1) (hcs : P.cellsOf ts = 1) :
    ∃ (a : Addr) (c : Array Value) (t : TypeId), W.var? P n = some #[.iface tp (.pointer (some a))] ∧ W.heap[a.block]? = some (.cells c t (0, 0)) := by
  obtain ⟨ps, ⟨g0, t0, cs0, f0, p0, q0, hg0, ht0, hv0, hd0, _, e0⟩, _, hrows⟩ := h
  obtain rfl := Option.some.inj (hg.symm.trans hg0)
  obtain rfl := Option.some.inj (ht.symm.trans ht0)
  subst e0
  obtain ⟨l0⟩ := cs0
  have ok0 : ∀ u v, l0 = [.iface u v] → Value.okWide P W .any 0 u v := fun u v e => by
    subst e
    exact (hrows g 0 (by simp [MemPlace.row])).2 u v (by simpa using World.var?_cell hg0 hv0 0)
  obtain ⟨a0, s0, rfl, hc0, hs0, hz0, rfl⟩ := errorString_of_trod hi hrow hp he hft hfo hs hc hcs hd0 ok0
  obtain ⟨c0, t0, hb0⟩ := (hrows a0.block a0.off (by simp [MemPlace.row])).1
  exact ⟨a0, c0, t0, hv0, hb0⟩
theorem laid_of {W : World} (h : laidMet Tryd.prog [("io.EOF", Rows.laid_io_EOF)] W) : ∃ e, LaidE W (blocks []) e := by
  obtain ⟨a0, c0, t0, hv0, hb0⟩ :=
    laid_one h gE gEt Tryd.underlying33 rowES Tryd.underlying73 Tryd.underlying75 rfl rfl Tryd.underlying9 cellsES cellsStr
  exact ⟨a0, rd_var gE hv0, ⟨_, _, hb0⟩, fun ⟨_, h, _⟩ => (by cases h)⟩
abbrev eofS : ByteArray := { data := #[69, 79, 70] }
noncomputable def low : Nat := (World.holding Tryd.prog default ⟨#[], #[], []⟩).heap.size
noncomputable def laidWorld (os : Os) : World :=
  let w0 := World.holding Tryd.prog os ⟨#[.cells #[.string eofS] 75], #[], []⟩
  { w0 with heap := w0.heap.modify 0 fun
      | .cells _ t frozen => .cells #[.iface 73 (.pointer (some ⟨low, 0, none⟩))] t frozen
      | o => o }
theorem laid_met1 (os : Os) (args : Array Value) : laidMet Tryd.prog [("io.EOF", Rows.laid_io_EOF)] ((laidWorld os).forCall (fun _ _ => 0) ⟨#[], args, []⟩).memory :=
  laidMet_of_run (ps := [.cell 0 0, .cell low 0]) 8 (by kernel_rfl) (by kernel_rfl) (by kernel_rfl)
end Go.Proofs.YtkdfminibmdkgaaDoor
