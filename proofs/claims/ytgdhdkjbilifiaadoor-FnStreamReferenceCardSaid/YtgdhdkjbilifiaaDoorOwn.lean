/- What is known of a slice of the call's own, whose address is not told; more rules. No program. -/
import Derived.Test.YtgdhdkjbilifiaaDoorEq
namespace Go.Sx
open Go
section
variable {P : Program} {n : Nat} {w0 : World} {W : Nat → Prop} {H : Hp}
/-- nil, or a row of cells from its first one on -/
def OwnA (A : Option Addr) (m cap : Nat) : Prop := m ≤ cap ∧ cap ≤ maxLen ∧ ((A = none ∧ m = 0 ∧ cap = 0) ∨ ∃ g, A = some ⟨g, 0, none⟩)
theorem OwnA.of {w : World} {A : Option Addr} {m cap : Nat} {E : TypeId} {sz : Nat} {xs : List Value} (hok : (Chunk.own A m cap E sz xs).ok w) : OwnA A m cap := by
  rcases hok.2 with ⟨h1, h2⟩ | ⟨g, cap', cur, h1, hb, hg, h2, h3, h4, htake⟩
  · injection h1 with h3 h4 h5
    exact ⟨by omega, by omega, .inl ⟨h3, by omega, by omega⟩⟩
  · injection h1 with h5 h6 h7
    subst h7
    exact ⟨h2, h3, .inr ⟨g, h5⟩⟩
theorem Wp.own (k : Nat) {c : Code} {σ : Sl} {κ : Conts} {A : Option Addr} {m cap : Nat} {E : TypeId} {sz : Nat} {xs : List Value} (hk : H[k]? = some (.own A m cap E sz xs)) (h : OwnA A m cap → Wp P n w0 W c σ H κ) : Wp P n w0 W c σ H κ :=
  ⟨fun hok a w hr hw => (h (OwnA.of (hw.at_ hk))).wp hok a w hr hw⟩
theorem DrwK.own (k : Nat) {ops : Array Oper} {σ : Sl} {K : Kt} {A : Option Addr} {m cap : Nat} {E : TypeId} {sz : Nat} {xs : List Value} (hk : H[k]? = some (.own A m cap E sz xs)) (h : OwnA A m cap → DrwK P n w0 W ops σ H K) : DrwK P n w0 W ops σ H K :=
  ⟨fun hok id a w hr hw => (h (OwnA.of (hw.at_ hk))).wp hok id a w hr hw⟩
theorem CallK.own (k : Nat) {f : FuncId} {args : List Value} {K : Value → Hp → Prop} {A : Option Addr} {m cap : Nat} {E : TypeId} {sz : Nat} {xs : List Value} (hk : H[k]? = some (.own A m cap E sz xs)) (h : OwnA A m cap → CallK P w0 W H f args K) : CallK P w0 W H f args K :=
  ⟨fun w hw => (h (OwnA.of (hw.at_ hk))).ex w hw⟩
theorem EffK.own (k : Nat) {s : Sem Value} {K : Value → Hp → Prop} {A : Option Addr} {m cap : Nat} {E : TypeId} {sz : Nat} {xs : List Value} (hk : H[k]? = some (.own A m cap E sz xs)) (h : OwnA A m cap → EffK P w0 W H s K) : EffK P w0 W H s K :=
  ⟨fun w hw => (h (OwnA.of (hw.at_ hk))).ex w hw⟩
theorem InsK.own {A : Option Addr} {m cap : Nat} {i : Int} {K : Prop} (h : OwnA A m cap) (h0 : 0 ≤ i) (h1 : i < m) (hk : K) : InsK A i m K :=
  ⟨fun hm => by
    rcases h.2.2 with ⟨_, h2, _⟩ | ⟨g, h2⟩
    · omega
    · exact ⟨g, 0, h2⟩, h0, h1, hk⟩
theorem OwnA.ad {A : Option Addr} {m cap : Nat} (h : OwnA A m cap) (hm : 0 < m) : ∃ g, A = some ⟨g, 0, none⟩ := by
  rcases h.2.2 with ⟨_, h2, _⟩ | h2
  · omega
  · exact h2
/-- `make([]T, m)` of one-cell elements -/
theorem EffK.made1 {t e : TypeId} {i : TypeInfo} {z : Value} {K : Value → Hp → Prop} {kl kc : IntKind} {l : Int} (m : Nat) (ht : P.underlying t = some (.slice e)) (hi : P.info? e = some i) (hz : i.zero = some z)
    (hl : l = m) (hs : Nat.beq i.size 1 = true) (h1 : z.oneCell' = true) (hb : i.bytes * m ≤ 281474976710656) (h63 : m ≤ maxLen)
    (h : ∀ b, K (.slice (some ⟨b, 0, none⟩) m m) (.own (some ⟨b, 0, none⟩) m m e 1 (List.replicate m z) :: H)) :
    EffK P w0 W H (Instr.makeSlice t (.int kl l) (.int kc l)) K := by
  have hs := Nat.eq_of_beq_eq_true hs
  refine EffK.made m ht hi hz hl hb h63 fun b => ?_
  rw [one_cells h1, hs, Nat.mul_one, toList_madeCells_one]
  exact h b
end
end Go.Sx
