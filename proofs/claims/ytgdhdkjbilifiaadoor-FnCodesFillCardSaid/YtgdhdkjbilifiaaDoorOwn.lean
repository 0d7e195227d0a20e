/- What is known of a slice of the call's own, whose address is not told; more rules. No program. Slices of slices of the call's own. No program. A call by its contract, with what is known of the slices that it leaves. No program. Zeros appended to a slice of the call's own. No program. -/
import Derived.Test.YtgdhdkjbilifiaaDoorEq
namespace Go.Sx
open Go
section
variable {P : Program} {n : Nat} {w0 : World} {W : Nat → Prop} {H : Hp}
/-- nil, or a row of cells from its first one on -/
def OwnA (A : Option Addr) (m cap : Nat) : Prop := m ≤ cap ∧ cap ≤ maxLen ∧ ((A = none ∧ m = 0 ∧ cap = 0) ∨ ∃ g, A = some ⟨g, 0, none⟩)
theorem OwnA.of {w : World} {A : Option Addr} {m cap : Nat} {E : TypeId} {sz : Nat} {xs : List Value} (hok : (Chunk.own A m cap E sz xs).ok w) : OwnA A m cap := by
  rcases hok.2 with ⟨h1, h2⟩ | ⟨g, cap', cur, h1, hb, hg, h2, h3, h4, htake⟩
  · injection h1 with h3 h4 h5
    exact ⟨by omega, by omega, .inl ⟨h3, by omega, by omega⟩⟩
  · injection h1 with h5 h6 h7
    subst h7
    exact ⟨h2, h3, .inr ⟨g, h5⟩⟩
theorem Wp.own (k : Nat) {c : Code} {σ : Sl} {κ : Conts} {A : Option Addr} {m cap : Nat} {E : TypeId} {sz : Nat} {xs : List Value} (hk : H[k]? = some (.own A m cap E sz xs)) (h : OwnA A m cap → Wp P n w0 W c σ H κ) : Wp P n w0 W c σ H κ :=
  ⟨fun hok a w hr hw => (h (OwnA.of (hw.at_ hk))).wp hok a w hr hw⟩
theorem DrwK.own (k : Nat) {ops : Array Oper} {σ : Sl} {K : Kt} {A : Option Addr} {m cap : Nat} {E : TypeId} {sz : Nat} {xs : List Value} (hk : H[k]? = some (.own A m cap E sz xs)) (h : OwnA A m cap → DrwK P n w0 W ops σ H K) : DrwK P n w0 W ops σ H K :=
  ⟨fun hok id a w hr hw => (h (OwnA.of (hw.at_ hk))).wp hok id a w hr hw⟩
theorem CallK.own (k : Nat) {f : FuncId} {args : List Value} {K : Value → Hp → Prop} {A : Option Addr} {m cap : Nat} {E : TypeId} {sz : Nat} {xs : List Value} (hk : H[k]? = some (.own A m cap E sz xs)) (h : OwnA A m cap → CallK P w0 W H f args K) : CallK P w0 W H f args K :=
  ⟨fun w hw => (h (OwnA.of (hw.at_ hk))).ex w hw⟩
theorem EffK.own (k : Nat) {s : Sem Value} {K : Value → Hp → Prop} {A : Option Addr} {m cap : Nat} {E : TypeId} {sz : Nat} {xs : List Value} (hk : H[k]? = some (.own A m cap E sz xs)) (h : OwnA A m cap → EffK P w0 W H s K) : EffK P w0 W H s K :=
  ⟨fun w hw => (h (OwnA.of (hw.at_ hk))).ex w hw⟩
theorem InsK.own {A : Option Addr} {m cap : Nat} {i : Int} {K : Prop} (h : OwnA A m cap) (h0 : 0 ≤ i) (h1 : i < m) (hk : K) : InsK A i m K :=
  ⟨fun hm => by
    rcases h.2.2 with ⟨_, h2, _⟩ | ⟨g, h2⟩
    · omega
    · exact ⟨g, 0, h2⟩, h0, h1, hk⟩
theorem OwnA.ad {A : Option Addr} {m cap : Nat} (h : OwnA A m cap) (hm : 0 < m) : ∃ g, A = some ⟨g, 0, none⟩ := by
  rcases h.2.2 with ⟨_, h2, _⟩ | h2
  · omega
  · exact h2
/-- `make([]T, m)` of one-cell elements -/
theorem EffK.made1 {t e : TypeId} {i : TypeInfo} {z : Value} {K : Value → Hp → Prop} {kl kc : IntKind} {l : Int} (m : Nat) (ht : P.underlying t = some (.slice e)) (hi : P.info? e = some i) (hz : i.zero = some z)
    (hl : l = m) (hs : Nat.beq i.size 1 = true) (h1 : z.oneCell' = true) (hb : i.bytes * m ≤ 281474976710656) (h63 : m ≤ maxLen)
    (h : ∀ b, K (.slice (some ⟨b, 0, none⟩) m m) (.own (some ⟨b, 0, none⟩) m m e 1 (List.replicate m z) :: H)) :
    EffK P w0 W H (Instr.makeSlice t (.int kl l) (.int kc l)) K := by
  have hs := Nat.eq_of_beq_eq_true hs
  refine EffK.made m ht hi hz hl hb h63 fun b => ?_
  rw [one_cells h1, hs, Nat.mul_one, toList_madeCells_one]
  exact h b
end
end Go.Sx
namespace Go.Sx
open Go
section
variable {P : Program} {n : Nat} {w0 : World} {W : Nat → Prop} {H : Hp}
theorem HInv.shrink {w : World} {k : Nat} {A : Option Addr} {m cap : Nat} {E : TypeId} {sz : Nat} {xs : List Value} (hw : HInv w0 W H w) (hk : H[k]? = some (.own A m cap E sz xs)) : HInv w0 W (H.set k (.own A 0 cap E sz [])) w := by
  have hok := hw.at_ hk
  refine hw.turnAt hk rfl rfl rfl (Nat.le_refl _) (fun _ _ _ => rfl) ⟨by simp, ?_⟩ fun b hb => .inl ?_
  · rcases hok.2 with ⟨h1, h2⟩ | ⟨g, cap', cur, h1, hb, hg, h2, h3, h4, htake⟩
    · injection h1 with h3 h4 h5
      exact .inl ⟨by rw [h3, h5], rfl⟩
    · injection h1 with h5 h6 h7
      exact .inr ⟨g, cap', cur, by rw [h5, h7], hb, hg, Nat.zero_le _, h3, h4, by simp⟩
  · cases A with
    | none => cases hb
    | some a => exact hb
/-- the same slice with no element: nothing of its row is read any more -/
theorem EffK.shrink (k : Nat) {s : Sem Value} {K : Value → Hp → Prop} {A : Option Addr} {m cap : Nat} {E : TypeId} {sz : Nat} {xs : List Value} (hk : H[k]? = some (.own A m cap E sz xs)) (h : setH H k (.own A 0 cap E sz []) fun H' => EffK P w0 W H' s K) : EffK P w0 W H s K :=
  ⟨fun w hw => (setH_sound h).ex w (hw.shrink hk)⟩
theorem StK.shrink (k : Nat) {t : TypeId} {p : Option Addr} {v : Value} {K : Hp → Prop} {A : Option Addr} {m cap : Nat} {E : TypeId} {sz : Nat} {xs : List Value} (hk : H[k]? = some (.own A m cap E sz xs)) (h : setH H k (.own A 0 cap E sz []) fun H' => StK P w0 W H' t p v K) : StK P w0 W H t p v K := by
  obtain ⟨H', h1, h2⟩ := setH_sound h
  exact ⟨H', fun w hw => h1 w (hw.shrink hk), h2⟩
theorem SpK.own {A : Option Addr} {m cap l c : Nat} {K : Prop} (h : OwnA A m cap) (hk : K) : SpK A l c K :=
  ⟨fun _ a ha => by
    rcases h.2.2 with ⟨h1, _⟩ | ⟨g, h1⟩
    · rw [h1] at ha; cases ha
    · rw [h1] at ha; injection ha with ha; subst ha; rfl, hk⟩
theorem OwnA.cut0 {A : Option Addr} {m cap : Nat} (h : OwnA A m cap) (sz : Nat) : cutA A 0 cap sz = A := by
  unfold cutA
  split
  · rfl
  · rw [Nat.zero_mul]
    rcases h.2.2 with ⟨h1, _⟩ | ⟨g, h1⟩ <;> rw [h1] <;> rfl
theorem OwnA.cut {A : Option Addr} {cap l : Nat} (hl : l < cap) : cutA A l cap 1 = adv A l := by
  unfold cutA
  rw [if_neg (by omega), Nat.mul_one]
/-- a part of a slice of the call's own as what is appended or copied -/
theorem Src.ownCut {k : Nat} {A B : Option Addr} {m cap : Nat} {E : TypeId} {sz : Nat} {xs news : List Value} {l q c : Nat} (hk : H[k]? = some (.own A m cap E sz xs)) (hx : xs.length = m * sz) (hB : B = cutA A l c sz) (hl : l + q ≤ m) (hc : m ≤ c) (hn : news = (xs.drop (l * sz)).take (q * sz)) :
    Src w0 W H B q sz news := by
  subst hB hn
  have hle : l * sz + q * sz ≤ m * sz := by rw [← Nat.add_mul]; exact Nat.mul_le_mul_right _ hl
  refine ⟨by rw [List.length_take, List.length_drop, hx]; omega, fun w hw h0 => ?_⟩
  obtain ⟨g, hA⟩ := (OwnA.of (hw.at_ hk)).ad (by omega)
  have hcut : cutA A l c sz = some ⟨g, 0 + l * sz, none⟩ := by
    unfold cutA
    rw [if_neg (by omega), hA]; rfl
  refine ⟨_, hcut, fun j v hv => ?_⟩
  rw [Addr_add_mid, Nat.zero_add]
  have hv' : xs[l * sz + j]? = some v := by
    rw [List.getElem?_take] at hv
    split at hv
    · rw [List.getElem?_drop] at hv; exact hv
    · cases hv
  obtain ⟨g', e, hcell⟩ := own_cell (hw.at_ hk) hv'
  rw [hA] at e
  injection e with e; injection e with e
  rw [e]; exact hcell
end
end Go.Sx
namespace Go.Sx
open Go
def ownAll (H : Hp) : Prop := ∀ A m cap E sz xs, Chunk.own A m cap E sz xs ∈ H → OwnA A m cap
theorem CallK.ofA {P : Program} {w0 : World} {W : Nat → Prop} {H : Hp} (ks : List Nat) {f : FuncId} {args : List Value} {Hin Hr : Hp} {pre : World → Prop} {Q : Value → Hp → Prop} {K : Value → Hp → Prop} (hf : FnS P f args Hin pre Q) (hk : picks H ks = some (Hin, Hr))
    (hp : ∀ w, HInv w0 W (Hin ++ Hr) w → pre w) (h : ∀ v H', Q v H' → ownAll H' → restK H ks fun Hr => appK H' Hr fun H'' => K v H'') : CallK P w0 W H f args K :=
  CallK.of (Q := fun v H' => Q v H' ∧ ownAll H') ks (fun w h1 h2 => (hf w h1 h2).mono fun _ _ ⟨v, H', e, h3, h4⟩ => ⟨v, H', e, h3, h4, fun _ _ _ _ _ _ hm => OwnA.of (h3.hok.ok _ hm)⟩) hk hp fun v H' hq => h v H' hq.1 hq.2
end Go.Sx
namespace Go.Sx
open Go
section
variable {P : Program} {n : Nat} {w0 : World} {W : Nat → Prop} {H : Hp}
theorem zero_cells {z : Value} (h1 : z.oneCell' = true) (q : Nat) : Builtin.zeroCells z.cells q = (List.replicate q z).toArray := by
  rw [one_cells h1]
  apply Array.ext'
  simp [Builtin.zeroCells]
  apply List.ext_getElem
  · simp
  · intro i h1 h2
    simp [Nat.mod_one]
theorem run_appendZ {w : World} {t t2 ty e : TypeId} {k2 : IntKind} {i : TypeInfo} {z : Value} (ht : P.underlying t = some (.slice e)) (ht2 : P.underlying t2 = some (.int k2)) (hi : P.info? e = some i) (hz : i.zero = some z) (hs : i.size = 1) (h1 : z.oneCell' = true)
    {A : Option Addr} {m cap : Nat} {xs : List Value} (q : Nat) (hown : w.ownsRow 0 e 1 (.slice A m cap) m xs) (h63 : m + q ≤ maxLen) (hb : (m + q) * i.bytes ≤ 140737488355328) :
    ∃ v' w', (Builtin.append_ #[t, t2] ty #[.slice A m cap, .int .i64 q]).run P w = .ok v' w' ∧ w'.ownsRow 0 e 1 v' (m + q) (xs ++ List.replicate q z) ∧ w.grownBy w' (Value.slice A m cap).ownBlock ∧
      (v'.ownBlock = (Value.slice A m cap).ownBlock ∨ v'.ownBlock = some w.heap.size) := by
  have hsmall : m + q ≤ 9223372036854775807 := by simp only [maxLen] at h63; omega
  have hwr : IntKind.i64.wrap (q : Int) = (q : Int) := IntWalk.i64_in _ (by omega)
  have hqb : q * i.bytes ≤ (m + q) * i.bytes := Nat.mul_le_mul_right _ (by omega)
  have hqb' : ¬ (281474976710656 < (q : Int) * (i.bytes : Int)) := by
    have : ((q * i.bytes : Nat) : Int) ≤ 140737488355328 := by omega
    rw [Int.natCast_mul] at this
    omega
  have hq0 : ¬ ((q : Int) < 0) := by omega
  have hw0 : IntKind.i64.wrap 0 = 0 := by decide
  have hlen : (xs ++ List.replicate q z).length = (m + q) * 1 := by simp [hown.1]
  have hzc := zero_cells h1
  have grown : ∀ (old : Nat), old < m + q → ∀ (row : Option Nat),
      (w.drew.alloc (.cells (xs.toArray ++ (List.replicate q z).toArray ++ Builtin.zeroCells z.cells (grownCap w (m + q) old e - (m + q))) e)).ownsRow 0 e 1
        (.slice (some ⟨w.heap.size, 0, none⟩) (m + q) (grownCap w (m + q) old e)) (m + q) (xs ++ List.replicate q z) ∧
      w.grownBy (w.drew.alloc (.cells (xs.toArray ++ (List.replicate q z).toArray ++ Builtin.zeroCells z.cells (grownCap w (m + q) old e - (m + q))) e)) row := by
    intro old ho row
    have hge := grownCap_ge w (m + q) old e
    have hcm : grownCap w (m + q) old e ≤ maxLen := grownCap_le_maxLen w (m + q) old e h63
    refine ⟨⟨hlen, .inr ⟨w.heap.size, _, _, rfl, Nat.zero_le _, heap_alloc_new w.drew _, hge, hcm, ?_, ?_⟩⟩, ⟨rfl, rfl, rfl, by simp, fun k hk _ => heap_alloc_old w.drew _ hk⟩⟩
    · have hx := hown.1
      simp only [Array.size_append, List.size_toArray, hzc, List.length_replicate, hx]
      omega
    · simp only [Array.toList_append, List.append_assoc]
      rw [← List.append_assoc, ← hlen]
      exact List.take_left
  rcases hown.2 with ⟨hv, hm⟩ | ⟨g, cap', cur, hv, hbg, hg, hnc, hcm, hcs, htake⟩
  · injection hv with e1 e2 e3
    subst e1 e2 e3
    have hx : xs = [] := List.eq_nil_of_length_eq_zero (by simpa using hown.1)
    subst hx
    by_cases hq : q = 0
    · subst hq
      refine ⟨.slice none 0 0, w, ?_, by simpa using World.ownsRow_nil w 0 e 1, ⟨rfl, rfl, rfl, Nat.le_refl _, fun _ _ _ => rfl⟩, Or.inl rfl⟩
      simp [Builtin.append_, run_underlying ht, run_underlying ht2, sizeOf, typeInfo, hi, asInt, asIntOf, hw0]
    · have hgr := grown 0 (by omega) (Value.ownBlock (.slice none 0 0))
      simp only [Nat.zero_add, List.nil_append] at hgr
      have h48' : ¬ (281474976710656 < Builtin.nextslicecap q 0 * i.bytes) := by rw [nextslicecap_zero (by omega)]; omega
      have h63' : ¬ (9223372036854775807 < (q : Int)) := by omega
      refine ⟨.slice (some ⟨w.heap.size, 0, none⟩) q (grownCap w q 0 e), w.drew.alloc (.cells (#[] ++ (List.replicate q z).toArray ++ Builtin.zeroCells z.cells (grownCap w q 0 e - q)) e), ?_, ?_, ?_, Or.inr rfl⟩
      · simp [Builtin.append_, run_underlying ht, run_underlying ht2, sizeOf, typeInfo, zeroValue, hi, hz, asInt, asIntOf, hwr, hq0, hqb', hs, hq, h63', h48', Question.forced, run_firstCells_none, newRow, grownCap, hzc]
      · rw [Nat.zero_add, List.nil_append]; exact hgr.1
      · exact hgr.2
  · injection hv with e1 e2 e3
    subst e1 e3
    have hzl : (List.replicate q z).length = q := List.length_replicate
    have hz1 : ∀ u ∈ List.replicate q z, u.oneCell' = true := fun u hu => by rw [List.eq_of_mem_replicate hu]; exact h1
    by_cases hroom : m + q ≤ cap
    · have hfit : m * 1 + (List.replicate q z).length ≤ cur.size := by rw [hzl, hcs]; omega
      have hst := run_storeCells_at P g (m * 1) e (List.replicate q z) 0 cur w hg (by simpa using hfit) hz1
      simp only [Nat.add_zero] at hst
      refine ⟨.slice (some ⟨g, 0, none⟩) (m + q) cap, w.setRow g (cur.toList.take (m * 1) ++ List.replicate q z ++ cur.toList.drop (m * 1 + (List.replicate q z).length)).toArray, ?_, ⟨hlen, .inr ⟨g, cap, _, rfl, hbg, setRow_heap w g cur _ e _ hg, hroom, hcm, ?_, ?_⟩⟩, ⟨rfl, rfl, rfl, by simp, fun k _ hk => setRow_other w g k _ (fun e => hk (by simp [Value.ownBlock, e]))⟩, Or.inl rfl⟩
      · by_cases hq : q = 0
        · have hst0 : w.setRow g (cur.toList.take (m * 1) ++ List.replicate q z ++ cur.toList.drop (m * 1 + (List.replicate q z).length)).toArray = w := by
            rw [hq] at hst ⊢
            simp only [List.replicate_zero, storeCells, Sem.run_pure, Result.ok.injEq, true_and] at hst
            exact hst.symm
          rw [hst0]
          simp [Builtin.append_, run_underlying ht, run_underlying ht2, sizeOf, typeInfo, hi, asInt, asIntOf, hw0, hq, hnc, storeCells]
        · simp [Builtin.append_, run_underlying ht, run_underlying ht2, sizeOf, typeInfo, zeroValue, hi, hz, asInt, asIntOf, hwr, hq0, hqb', hs, hq, hroom, hzc, Addr.add_lit] at hst ⊢
          simp [hst]
      · simp only [List.size_toArray, List.length_append, List.length_take, List.length_drop, Array.length_toList]
        omega
      · rw [htake, ← hlen]
        exact List.take_left
    · have hq : q ≠ 0 := by omega
      have holds : ∀ j u, xs[j]? = some u → w.cell? ((⟨g, 0, none⟩ : Addr).add j) = some u := hown.cells (g := g) rfl
      have hfo := run_firstCells_some (P := P) w.drew 1 m ⟨g, 0, none⟩ m cap xs hown.1 (by simpa using holds)
      have h63' : ¬ (9223372036854775807 < ((m : Int) + (q : Int))) := by omega
      have h48' : ¬ (281474976710656 < Builtin.nextslicecap (m + q) cap * i.bytes) := by have := growslice_fits (need := m + q) (old := cap) (by omega) hb; omega
      have hgr := grown cap (by omega) (Value.ownBlock (.slice (some ⟨g, 0, none⟩) m cap))
      refine ⟨_, _, ?_, hgr.1, hgr.2, Or.inr rfl⟩
      simp [Builtin.append_, run_underlying ht, run_underlying ht2, sizeOf, typeInfo, zeroValue, hi, hz, asInt, asIntOf, hwr, hq0, hqb', hs, hq, hroom, h63', h48', Question.forced, hfo, newRow, grownCap, hzc]
theorem EffK.appendZ (k : Nat) {t t2 ty e : TypeId} {k2 : IntKind} {i : TypeInfo} {z : Value} {A : Option Addr} {m cap : Nat} {xs : List Value} {l : Int} {K : Value → Hp → Prop} (q : Nat) (hk : H[k]? = some (.own A m cap e 1 xs))
    (ht : P.underlying t = some (.slice e)) (ht2 : P.underlying t2 = some (.int k2)) (hi : P.info? e = some i) (hz : i.zero = some z) (hs : Nat.beq i.size 1 = true) (h1 : z.oneCell' = true) (hl : l = q) (h63 : m + q ≤ maxLen) (hb : (m + q) * i.bytes ≤ 140737488355328)
    (h : ∀ A' cap', setH H k (.own A' (m + q) cap' e 1 (xs ++ List.replicate q z)) fun H' => K (.slice A' (m + q) cap') H') :
    EffK P w0 W H (Builtin.append_ #[t, t2] ty #[.slice A m cap, .int .i64 l]) K := by
  have hs := Nat.eq_of_beq_eq_true hs
  subst hl
  refine ⟨fun w hw => ?_⟩
  have hown : w.ownsRow 0 e 1 (.slice A m cap) m xs := hw.at_ hk
  obtain ⟨v', w', r1, r2, r3, r4⟩ := run_appendZ (P := P) (ty := ty) ht ht2 hi hz hs h1 q hown h63 hb
  have hform : ∃ A' cap', v' = .slice A' (m + q) cap' := by
    rcases r2.2 with ⟨e1, e2⟩ | ⟨g, cap', cur, e1, _⟩
    · exact ⟨none, 0, by rw [e1, e2]⟩
    · exact ⟨_, _, e1⟩
  obtain ⟨A', cap', rfl⟩ := hform
  refine ⟨_, w', _, r1, ?_, setH_sound (h A' cap')⟩
  exact hw.turnAt hk r3.os r3.tape r3.output r3.size (fun b hb hne => r3.block b hb (fun e => hne e.symm)) r2
    (fun b hb => by rcases r4 with e | e
                    · exact .inl (by rw [← hb]; exact e.symm)
                    · refine .inr ?_
                      have hb' : (Value.slice A' (m + q) cap').ownBlock = some b := hb
                      rw [e] at hb'
                      injection hb' with hb'
                      omega)
end
end Go.Sx
