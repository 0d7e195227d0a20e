/- Slices of slices of the call's own. No program. -/
import Derived.Test.YtgdhdkjbilifiaaDoorOwn
namespace Go.Sx
open Go
section
variable {P : Program} {n : Nat} {w0 : World} {W : Nat → Prop} {H : Hp}
theorem HInv.shrink {w : World} {k : Nat} {A : Option Addr} {m cap : Nat} {E : TypeId} {sz : Nat} {xs : List Value} (hw : HInv w0 W H w) (hk : H[k]? = some (.own A m cap E sz xs)) : HInv w0 W (H.set k (.own A 0 cap E sz [])) w := by
  have hok := hw.at_ hk
  refine hw.turnAt hk rfl rfl rfl (Nat.le_refl _) (fun _ _ _ => rfl) ⟨by simp, ?_⟩ fun b hb => .inl ?_
  · rcases hok.2 with ⟨h1, h2⟩ | ⟨g, cap', cur, h1, hb, hg, h2, h3, h4, htake⟩
    · injection h1 with h3 h4 h5
      exact .inl ⟨by rw [h3, h5], rfl⟩
    · injection h1 with h5 h6 h7
      exact .inr ⟨g, cap', cur, by rw [h5, h7], hb, hg, Nat.zero_le _, h3, h4, by simp⟩
  · cases A with
    | none => cases hb
    | some a => exact hb
/-- the same slice with no element: nothing of its row is read any more -/
theorem EffK.shrink (k : Nat) {s : Sem Value} {K : Value → Hp → Prop} {A : Option Addr} {m cap : Nat} {E : TypeId} {sz : Nat} {xs : List Value} (hk : H[k]? = some (.own A m cap E sz xs)) (h : setH H k (.own A 0 cap E sz []) fun H' => EffK P w0 W H' s K) : EffK P w0 W H s K :=
  ⟨fun w hw => (setH_sound h).ex w (hw.shrink hk)⟩
theorem StK.shrink (k : Nat) {t : TypeId} {p : Option Addr} {v : Value} {K : Hp → Prop} {A : Option Addr} {m cap : Nat} {E : TypeId} {sz : Nat} {xs : List Value} (hk : H[k]? = some (.own A m cap E sz xs)) (h : setH H k (.own A 0 cap E sz []) fun H' => StK P w0 W H' t p v K) : StK P w0 W H t p v K := by
  obtain ⟨H', h1, h2⟩ := setH_sound h
  exact ⟨H', fun w hw => h1 w (hw.shrink hk), h2⟩
theorem SpK.own {A : Option Addr} {m cap l c : Nat} {K : Prop} (h : OwnA A m cap) (hk : K) : SpK A l c K :=
  ⟨fun _ a ha => by
    rcases h.2.2 with ⟨h1, _⟩ | ⟨g, h1⟩
    · rw [h1] at ha; cases ha
    · rw [h1] at ha; injection ha with ha; subst ha; rfl, hk⟩
theorem OwnA.cut0 {A : Option Addr} {m cap : Nat} (h : OwnA A m cap) (sz : Nat) : cutA A 0 cap sz = A := by
  unfold cutA
  split
  · rfl
  · rw [Nat.zero_mul]
    rcases h.2.2 with ⟨h1, _⟩ | ⟨g, h1⟩ <;> rw [h1] <;> rfl
theorem OwnA.cut {A : Option Addr} {cap l : Nat} (hl : l < cap) : cutA A l cap 1 = adv A l := by
  unfold cutA
  rw [if_neg (by omega), Nat.mul_one]
/-- a part of a slice of the call's own as what is appended or copied -/
theorem Src.ownCut {k : Nat} {A B : Option Addr} {m cap : Nat} {E : TypeId} {sz : Nat} {xs news : List Value} {l q c : Nat} (hk : H[k]? = some (.own A m cap E sz xs)) (hx : xs.length = m * sz) (hB : B = cutA A l c sz) (hl : l + q ≤ m) (hc : m ≤ c) (hn : news = (xs.drop (l * sz)).take (q * sz)) :
    Src w0 W H B q sz news := by
  subst hB hn
  have hle : l * sz + q * sz ≤ m * sz := by rw [← Nat.add_mul]; exact Nat.mul_le_mul_right _ hl
  refine ⟨by rw [List.length_take, List.length_drop, hx]; omega, fun w hw h0 => ?_⟩
  obtain ⟨g, hA⟩ := (OwnA.of (hw.at_ hk)).ad (by omega)
  have hcut : cutA A l c sz = some ⟨g, 0 + l * sz, none⟩ := by
    unfold cutA
    rw [if_neg (by omega), hA]; rfl
  refine ⟨_, hcut, fun j v hv => ?_⟩
  rw [Addr_add_mid, Nat.zero_add]
  have hv' : xs[l * sz + j]? = some v := by
    rw [List.getElem?_take] at hv
    split at hv
    · rw [List.getElem?_drop] at hv; exact hv
    · cases hv
  obtain ⟨g', e, hcell⟩ := own_cell (hw.at_ hk) hv'
  rw [hA] at e
  injection e with e; injection e with e
  rw [e]; exact hcell
end
end Go.Sx
