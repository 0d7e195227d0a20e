/- Errors: what the functions that make them return: some error, none of them nil. The two sentinels of package io stand in the world. -/
import Derived.Test.YtgdhdkjbilifiaaDoorSize
import Derived.Test.YtgdhdkjbilifiaaDoorEq
import Derived.Stop.LaidTwo
namespace Go.Proofs.YtgdhdkjbilifiaaDoor
open Go Go.Sx
set_option maxRecDepth 100000
structure Laid (w : World) (W : Nat → Prop) (e u : Addr) : Prop where
  ge : Rd w W (some ⟨1, 0, none⟩) 1 1 [.iface 159 (.pointer (some e))]
  gu : Rd w W (some ⟨0, 0, none⟩) 1 1 [.iface 159 (.pointer (some u))]
  ne : u ≠ e
  he : ∃ c t, w.heap[e.block]? = some (.cells c t (0, 0))
  hu : ∃ c t, w.heap[u.block]? = some (.cells c t (0, 0))
  ke : ¬ W e.block
  ku : ¬ W u.block
theorem kept_not {w0 w : World} {W : Nat → Prop} {Hin Hr : Hp} (hw : HInv w0 W (Hin ++ Hr) w) {a : Nat} {o : Obj} (hn : ¬ W a) (h : w0.heap[a]? = some o) : ¬ blocks Hin a := by
  rintro ⟨c, hc, hcb⟩
  have hlt := (Array.getElem?_eq_some_iff.1 h).1
  rcases hw.new c (List.mem_append_left _ hc) a hcb with h1 | h1
  · exact hn h1
  · omega
theorem Laid.pass {w0 w : World} {W : Nat → Prop} {Hin Hr : Hp} (hw : HInv w0 W (Hin ++ Hr) w) {e u : Addr} (h : Laid w0 W e u) : Laid w (blocks Hin) e u := by
  obtain ⟨c1, t1, h1⟩ := h.he
  obtain ⟨c2, t2, h2⟩ := h.hu
  exact ⟨h.ge.pass hw, h.gu.pass hw, h.ne, ⟨c1, t1, hw.kept h.ke h1⟩, ⟨c2, t2, hw.kept h.ku h2⟩, kept_not hw h.ke h1, kept_not hw h.ku h2⟩
abbrev Err : Value → Hp → Prop := fun v H => (∃ T x, v = .iface T x) ∧ H = []
theorem wrap_spec (r : Nat) (off : Int) (a e u : Addr) (h0 : 0 ≤ off) (h1 : off ≤ 9007199254740992) : FnS Tryd.prog 75 [.pointer (some ⟨r, 0, none⟩), .int .i64 off, .iface 159 (.pointer (some a))] []
    (fun w => Laid w (blocks []) e u ∧ Rd w (blocks []) (some ⟨r, 6, none⟩) 1 1 [.int .i64 0] ∧ a ≠ e ∧ ∃ c t, w.heap[a.block]? = some (.cells c t (0, 0))) Err := by
  refine FnS.introD Tryd.func75 rfl (by kernel_rfl) rfl fun w hH ⟨hL, hR, hne, c, t, ha⟩ => ?_
  have hnb : ∀ b, ¬ blocks [] b := fun b ⟨_, h, _⟩ => by cases h
  (conv => whnf); repeat ((first | refine RngK.mk (by omega) (by omega) ?_ | refine NzK.mk (by omega) ?_ | refine NnK.mk (by omega) ?_ | refine BdK.mk (by omega) (by omega) (by omega) ?_ | refine InsK.lit (by omega) (by omega) ?_ | refine SpK.lit ?_ | refine GrdK.same ?_ | refine GrdK.tf ?_ | refine GrdK.ft ?_ | refine PickK.t ?_ | refine PickK.f ?_); (conv => whnf))
  refine LdK.rd hL.ge 0 rfl rfl rfl rfl ?_
  (conv => whnf); repeat ((first | refine RngK.mk (by omega) (by omega) ?_ | refine NzK.mk (by omega) ?_ | refine NnK.mk (by omega) ?_ | refine BdK.mk (by omega) (by omega) (by omega) ?_ | refine InsK.lit (by omega) (by omega) ?_ | refine SpK.lit ?_ | refine GrdK.same ?_ | refine GrdK.tf ?_ | refine GrdK.ft ?_ | refine PickK.t ?_ | refine PickK.f ?_); (conv => whnf))
  obtain ⟨c2, t2, h2⟩ := hL.he
  refine EffK.neqPtr rfl rfl rfl rfl rfl rfl (fun _ _ => hne) (fun w hw => ⟨c, t, hw.kept (hnb _) ha⟩) (fun w hw => ⟨c2, t2, hw.kept (hnb _) h2⟩) ?_
  (conv => whnf); repeat ((first | refine RngK.mk (by omega) (by omega) ?_ | refine NzK.mk (by omega) ?_ | refine NnK.mk (by omega) ?_ | refine BdK.mk (by omega) (by omega) (by omega) ?_ | refine InsK.lit (by omega) (by omega) ?_ | refine SpK.lit ?_ | refine GrdK.same ?_ | refine GrdK.tf ?_ | refine GrdK.ft ?_ | refine PickK.t ?_ | refine PickK.f ?_); (conv => whnf))
  refine Wp.cond rfl (fun h => by cases h) (fun _ => ?_)
  (conv => whnf); repeat ((first | refine RngK.mk (by omega) (by omega) ?_ | refine NzK.mk (by omega) ?_ | refine NnK.mk (by omega) ?_ | refine BdK.mk (by omega) (by omega) (by omega) ?_ | refine InsK.lit (by omega) (by omega) ?_ | refine SpK.lit ?_ | refine GrdK.same ?_ | refine GrdK.tf ?_ | refine GrdK.ft ?_ | refine PickK.t ?_ | refine PickK.f ?_); (conv => whnf))
  refine LdK.rd (A := some ⟨r, 6, none⟩) hR 0 rfl rfl rfl rfl ?_
  (conv => whnf); repeat ((first | refine RngK.mk (by omega) (by omega) ?_ | refine NzK.mk (by omega) ?_ | refine NnK.mk (by omega) ?_ | refine BdK.mk (by omega) (by omega) (by omega) ?_ | refine InsK.lit (by omega) (by omega) ?_ | refine SpK.lit ?_ | refine GrdK.same ?_ | refine GrdK.tf ?_ | refine GrdK.ft ?_ | refine PickK.t ?_ | refine PickK.f ?_); (conv => whnf))
  refine ValK.build rfl ?_
  (conv => whnf); repeat ((first | refine RngK.mk (by omega) (by omega) ?_ | refine NzK.mk (by omega) ?_ | refine NnK.mk (by omega) ?_ | refine BdK.mk (by omega) (by omega) (by omega) ?_ | refine InsK.lit (by omega) (by omega) ?_ | refine SpK.lit ?_ | refine GrdK.same ?_ | refine GrdK.tf ?_ | refine GrdK.ft ?_ | refine PickK.t ?_ | refine PickK.f ?_); (conv => whnf))
  intro b2
  (conv => whnf); repeat ((first | refine RngK.mk (by omega) (by omega) ?_ | refine NzK.mk (by omega) ?_ | refine NnK.mk (by omega) ?_ | refine BdK.mk (by omega) (by omega) (by omega) ?_ | refine InsK.lit (by omega) (by omega) ?_ | refine SpK.lit ?_ | refine GrdK.same ?_ | refine GrdK.tf ?_ | refine GrdK.ft ?_ | refine PickK.t ?_ | refine PickK.f ?_); (conv => whnf))
  exact ⟨[], HSub.nil _, ⟨_, _, rfl⟩, rfl⟩
theorem eof_spec (r : Nat) (off : Int) (e u : Addr) (h0 : 0 ≤ off) (h1 : off ≤ 9007199254740992) : FnS Tryd.prog 64 [.pointer (some ⟨r, 0, none⟩), .int .i64 off] []
    (fun w => Laid w (blocks []) e u ∧ Rd w (blocks []) (some ⟨r, 6, none⟩) 1 1 [.int .i64 0]) Err := by
  refine FnS.intro Tryd.func64 rfl (by kernel_rfl) rfl fun w hH ⟨hL, hR⟩ => ?_
  (conv => whnf); repeat ((first | refine RngK.mk (by omega) (by omega) ?_ | refine NzK.mk (by omega) ?_ | refine NnK.mk (by omega) ?_ | refine BdK.mk (by omega) (by omega) (by omega) ?_ | refine InsK.lit (by omega) (by omega) ?_ | refine SpK.lit ?_ | refine GrdK.same ?_ | refine GrdK.tf ?_ | refine GrdK.ft ?_ | refine PickK.t ?_ | refine PickK.f ?_); (conv => whnf))
  refine LdK.rd hL.gu 0 rfl rfl rfl rfl ?_
  (conv => whnf); repeat ((first | refine RngK.mk (by omega) (by omega) ?_ | refine NzK.mk (by omega) ?_ | refine NnK.mk (by omega) ?_ | refine BdK.mk (by omega) (by omega) (by omega) ?_ | refine InsK.lit (by omega) (by omega) ?_ | refine SpK.lit ?_ | refine GrdK.same ?_ | refine GrdK.tf ?_ | refine GrdK.ft ?_ | refine PickK.t ?_ | refine PickK.f ?_); (conv => whnf))
  refine CallK.of [] (wrap_spec r off u e u h0 h1) rfl (fun w hw => ⟨hL.pass hw, hR.pass hw, hL.ne, (hL.pass hw).hu⟩) ?_
  rintro _ _ ⟨⟨T, x, rfl⟩, rfl⟩
  (conv => whnf); repeat ((first | refine RngK.mk (by omega) (by omega) ?_ | refine NzK.mk (by omega) ?_ | refine NnK.mk (by omega) ?_ | refine BdK.mk (by omega) (by omega) (by omega) ?_ | refine InsK.lit (by omega) (by omega) ?_ | refine SpK.lit ?_ | refine GrdK.same ?_ | refine GrdK.tf ?_ | refine GrdK.ft ?_ | refine PickK.t ?_ | refine PickK.f ?_); (conv => whnf))
  exact ⟨⟨_, _, rfl⟩, rfl⟩
theorem new_spec (s : ByteArray) : FnS Tryd.prog 83 [.string s] [] (fun _ => True) (fun v H => ∃ b, v = .iface 159 (.pointer (some ⟨b, 0, none⟩)) ∧ H = [.blk b 161 [.string s]]) := by
  refine FnS.intro Tryd.func83 rfl (by kernel_rfl) rfl fun w hH _ => ?_
  (conv => whnf); repeat ((first | refine RngK.mk (by omega) (by omega) ?_ | refine NzK.mk (by omega) ?_ | refine NnK.mk (by omega) ?_ | refine BdK.mk (by omega) (by omega) (by omega) ?_ | refine InsK.lit (by omega) (by omega) ?_ | refine SpK.lit ?_ | refine GrdK.same ?_ | refine GrdK.tf ?_ | refine GrdK.ft ?_ | refine PickK.t ?_ | refine PickK.f ?_); (conv => whnf))
  refine ValK.build rfl ?_
  (conv => whnf); repeat ((first | refine RngK.mk (by omega) (by omega) ?_ | refine NzK.mk (by omega) ?_ | refine NnK.mk (by omega) ?_ | refine BdK.mk (by omega) (by omega) (by omega) ?_ | refine InsK.lit (by omega) (by omega) ?_ | refine SpK.lit ?_ | refine GrdK.same ?_ | refine GrdK.tf ?_ | refine GrdK.ft ?_ | refine PickK.t ?_ | refine PickK.f ?_); (conv => whnf))
  intro b2
  (conv => whnf); repeat ((first | refine RngK.mk (by omega) (by omega) ?_ | refine NzK.mk (by omega) ?_ | refine NnK.mk (by omega) ?_ | refine BdK.mk (by omega) (by omega) (by omega) ?_ | refine InsK.lit (by omega) (by omega) ?_ | refine SpK.lit ?_ | refine GrdK.same ?_ | refine GrdK.tf ?_ | refine GrdK.ft ?_ | refine PickK.t ?_ | refine PickK.f ?_); (conv => whnf))
  exact ⟨b2, rfl, rfl⟩
theorem err_spec (r : Nat) (off : Int) (s : ByteArray) (e u : Addr) (h0 : 0 ≤ off) (h1 : off ≤ 9007199254740992) : FnS Tryd.prog 70 [.pointer (some ⟨r, 0, none⟩), .int .i64 off, .string s] []
    (fun w => Laid w (blocks []) e u ∧ Rd w (blocks []) (some ⟨r, 6, none⟩) 1 1 [.int .i64 0]) Err := by
  refine FnS.introD Tryd.func70 rfl (by kernel_rfl) rfl fun w hH ⟨hL, hR⟩ => ?_
  (conv => whnf); repeat ((first | refine RngK.mk (by omega) (by omega) ?_ | refine NzK.mk (by omega) ?_ | refine NnK.mk (by omega) ?_ | refine BdK.mk (by omega) (by omega) (by omega) ?_ | refine InsK.lit (by omega) (by omega) ?_ | refine SpK.lit ?_ | refine GrdK.same ?_ | refine GrdK.tf ?_ | refine GrdK.ft ?_ | refine PickK.t ?_ | refine PickK.f ?_); (conv => whnf))
  refine CallK.of0 (new_spec s) ?_
  rintro _ _ ⟨b, rfl, rfl⟩
  (conv => whnf); repeat ((first | refine RngK.mk (by omega) (by omega) ?_ | refine NzK.mk (by omega) ?_ | refine NnK.mk (by omega) ?_ | refine BdK.mk (by omega) (by omega) (by omega) ?_ | refine InsK.lit (by omega) (by omega) ?_ | refine SpK.lit ?_ | refine GrdK.same ?_ | refine GrdK.tf ?_ | refine GrdK.ft ?_ | refine PickK.t ?_ | refine PickK.f ?_); (conv => whnf))
  obtain ⟨c2, t2, h2⟩ := hL.he
  refine CallK.of [] (wrap_spec r off ⟨b, 0, none⟩ e u h0 h1) rfl (fun w hw => ⟨hL.pass hw, hR.pass hw, ?_, _, _, hw.at_ (k := 0) rfl⟩) ?_
  · intro he
    subst he
    exact HInv.old_ne hw (k := 0) rfl hL.ke h2 rfl
  rintro _ _ ⟨⟨T, x, rfl⟩, rfl⟩
  (conv => whnf); repeat ((first | refine RngK.mk (by omega) (by omega) ?_ | refine NzK.mk (by omega) ?_ | refine NnK.mk (by omega) ?_ | refine BdK.mk (by omega) (by omega) (by omega) ?_ | refine InsK.lit (by omega) (by omega) ?_ | refine SpK.lit ?_ | refine GrdK.same ?_ | refine GrdK.tf ?_ | refine GrdK.ft ?_ | refine PickK.t ?_ | refine PickK.f ?_); (conv => whnf))
  exact ⟨[], HSub.nil _, ⟨_, _, rfl⟩, rfl⟩
end Go.Proofs.YtgdhdkjbilifiaaDoor
