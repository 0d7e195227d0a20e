/- Structs of whole numbers, told apart. No program. Tables that have the same entries: spec.SameBased, spec.SameStates. -/
import Derived.Test.YtgdhdkjbilifiaaDoorEq
import Derived.Laws.StructEq
import Derived.Test.YtgdhdkjbilifiaaDoorStM
namespace Go.Sx
open Go
def flatInts (P : Program) : List Field → Nat → Bool
  | [], _ => true
  | f :: r, j => f.name != "_" && (match P.underlying f.type with | some (.int _) => true | _ => false) && Nat.beq f.offset j && flatInts P r (j + 1)
theorem run_part1 {P : Program} {t : TypeId} {k : IntKind} {cs : Array Value} {j : Nat} {v : Value} (ht : P.underlying t = some (.int k)) (hv : cs[j]? = some v) (w : World) : (part t cs j).run P w = .ok v w := by
  have : (isAgg t).run P w = .ok false w := by
    simp only [isAgg, Sem.run_bind, run_underlying ht, Result.andThen_ok]
    rfl
  simp [part, this, hv]
theorem run_eqFields_ints {P : Program} (w : World) (d : Nat) : ∀ (fs : List Field) (j : Nat) (xs ys : List Int), flatInts P fs j = true → xs.length = j + fs.length → ys.length = j + fs.length →
    (Op.eqFields (d + 1) (xs.map (.int .i64)).toArray (ys.map (.int .i64)).toArray fs).run P w = .ok (decide (xs.drop j = ys.drop j)) w
  | [], j, xs, ys, _, hx, hy => by
    rw [List.drop_of_length_le (by simp at hx; omega), List.drop_of_length_le (by simp at hy; omega)]
    simp [Op.eqFields]
  | f :: r, j, xs, ys, h, hx, hy => by
    simp only [flatInts, Bool.and_eq_true] at h
    obtain ⟨⟨⟨h1, h2⟩, h3⟩, h4⟩ := h
    have h3 := Nat.eq_of_beq_eq_true h3
    simp only [List.length_cons] at hx hy
    have hxj : j < xs.length := by omega
    have hyj : j < ys.length := by omega
    split at h2
    · rename_i k hk
      have hn : f.name ≠ "_" := by simpa using h1
      have ih := run_eqFields_ints w d r (j + 1) xs ys h4 (by omega) (by omega)
      unfold Op.eqFields
      rw [if_pos hn, h3]
      simp only [Sem.run_bind, run_part1 hk (show (xs.map (Value.int .i64)).toArray[j]? = some (Value.int .i64 xs[j]) by simp [hxj]) w, run_part1 hk (show (ys.map (Value.int .i64)).toArray[j]? = some (Value.int .i64 ys[j]) by simp [hyj]) w,
        Result.andThen_ok, run_equalIn_int w d f.type .i64 k xs[j] ys[j] hk]
      rw [List.drop_eq_getElem_cons hxj, List.drop_eq_getElem_cons hyj]
      by_cases e : xs[j] = ys[j]
      · simp only [e, beq_self_eq_true, Bool.not_true, Bool.false_eq_true, if_false, ih, List.cons.injEq, true_and]
      · have eb : (xs[j] == ys[j]) = false := by simpa using e
        simp only [eb, Bool.not_false, if_true, Sem.run_pure, List.cons.injEq, e, false_and, decide_false]
    · cases h2
theorem ValK.neInts {P : Program} {t : TypeId} {x y : Operand} {fs : Array Field} {xs ys : List Int} {K : Value → Prop} (hu : P.underlying t = some (.struct fs)) (hp : P.stoodInHeld t = false) (hm : P.eqGuardType P.depth t = false)
    (hf : flatInts P fs.toList 0 = true) (hx : xs.length = fs.size) (hy : ys.length = fs.size) (h : K (.bool (!decide (xs = ys)))) :
    ValK P (do eqGuard .neq t x y (.agg (xs.map (.int .i64)).toArray) (.agg (ys.map (.int .i64)).toArray); binOp .neq t (.agg (xs.map (.int .i64)).toArray) (.agg (ys.map (.int .i64)).toArray)) K := by
  have hfo : P.fieldsOf t = fs := by simp [Program.fieldsOf, hu]
  refine ⟨⟨.bool (!decide (xs = ys)), fun w => ?_, h⟩⟩
  have he := run_eqFields_ints (P := P) w 9998 fs.toList 0 xs ys hf (by simpa using hx) (by simpa using hy)
  rw [List.drop_zero, List.drop_zero] at he
  have h2 := run_equalIn_agg (P := P) w 9999 t (xs.map (.int .i64)).toArray (ys.map (.int .i64)).toArray (by rw [hfo]; exact hu) hp
  rw [hfo] at h2
  simp only [Sem.run_bind, run_eqGuard_agg w .neq t x y _ _ hm, Result.andThen_ok, run_neq_struct]
  rw [h2, he]
  rfl
end Go.Sx
namespace Go.Proofs.YtgdhdkjbilifiaaDoor
open Go Go.Sx
set_option maxRecDepth 100000
def flat (rows : List (List Int)) : List Value := rows.flatMap fun r => r.map vI
theorem flat_len {s : Nat} : ∀ {rows : List (List Int)}, (∀ r ∈ rows, r.length = s) → (flat rows).length = rows.length * s
  | [], _ => by simp [flat]
  | r :: rs, h => by
    have := flat_len (rows := rs) fun x hx => h x (List.mem_cons_of_mem _ hx)
    have h1 := h r List.mem_cons_self
    simp only [flat, List.flatMap_cons, List.length_append, List.length_map, List.length_cons, Nat.succ_mul] at *
    omega
theorem flat_at {s : Nat} : ∀ {rows : List (List Int)} {k : Nat} (hk : k < rows.length) {q : Nat} {v : Value}, (∀ r ∈ rows, r.length = s) → (rows[k].map vI)[q]? = some v → (flat rows)[k * s + q]? = some v
  | r :: rs, 0, _, q, v, h, hv => by
    have hq : q < (r.map vI).length := (List.getElem?_eq_some_iff.1 hv).1
    simp only [flat, List.flatMap_cons, Nat.zero_mul, Nat.zero_add]
    rw [List.getElem?_append_left hq]
    exact hv
  | r :: rs, k + 1, hk, q, v, h, hv => by
    have h1 := h r List.mem_cons_self
    have := flat_at (rows := rs) (k := k) (by simpa using hk) (q := q) (v := v) (fun x hx => h x (List.mem_cons_of_mem _ hx)) (by simpa using hv)
    simp only [flat, List.flatMap_cons]
    rw [List.getElem?_append_right (by simp; rw [Nat.succ_mul]; omega)]
    have e : (k + 1) * s + q - (r.map vI).length = k * s + q := by simp [h1, Nat.succ_mul]; omega
    rw [e]
    exact this
theorem sameFlat_spec (A B : Option Addr) (n m c c' : Nat) (xs ys : List (List Int)) (hx : ∀ r ∈ xs, r.length = 2) (hy : ∀ r ∈ ys, r.length = 2) : FnS Tryd.prog 20 [.slice A n c, .slice B m c'] []
    (fun w => Rd w (blocks []) A n 2 (flat xs) ∧ Rd w (blocks []) B m 2 (flat ys) ∧ n ≤ 1000000) (Is (vB (decide (xs = ys)))) := by
  refine FnS.intro Tryd.func20 rfl (by kernel_rfl) rfl fun w hH ⟨h1, h2, hmax⟩ => ?_
  have hl : xs.length = n := by have := h1.len; rw [flat_len hx] at this; omega
  have hm : ys.length = m := by have := h2.len; rw [flat_len hy] at this; omega
  (conv => whnf); repeat ((first | refine RngK.mk (by omega) (by omega) ?_ | refine NzK.mk (by omega) ?_ | refine NnK.mk (by omega) ?_ | refine BdK.mk (by omega) (by omega) (by omega) ?_ | refine InsK.lit (by omega) (by omega) ?_ | refine SpK.lit ?_ | refine GrdK.same ?_ | refine GrdK.tf ?_ | refine GrdK.ft ?_ | refine PickK.t ?_ | refine PickK.f ?_); (conv => whnf))
  refine Wp.cond rfl (fun h => ?_) (fun h => ?_)
  · (conv => whnf); repeat ((first | refine RngK.mk (by omega) (by omega) ?_ | refine NzK.mk (by omega) ?_ | refine NnK.mk (by omega) ?_ | refine BdK.mk (by omega) (by omega) (by omega) ?_ | refine InsK.lit (by omega) (by omega) ?_ | refine SpK.lit ?_ | refine GrdK.same ?_ | refine GrdK.tf ?_ | refine GrdK.ft ?_ | refine PickK.t ?_ | refine PickK.f ?_); (conv => whnf))
    have h := neT h
    have : decide (xs = ys) = false := by simp; rintro rfl; omega
    exact ⟨by rw [this], rfl⟩
  · have h := neF h
    obtain rfl : n = m := by omega
    obtain ⟨R, hR⟩ : ∃ R, decide (xs = ys) = R := ⟨_, rfl⟩
    rw [hR]
    (conv => whnf); repeat ((first | refine RngK.mk (by omega) (by omega) ?_ | refine NzK.mk (by omega) ?_ | refine NnK.mk (by omega) ?_ | refine BdK.mk (by omega) (by omega) (by omega) ?_ | refine InsK.lit (by omega) (by omega) ?_ | refine SpK.lit ?_ | refine GrdK.same ?_ | refine GrdK.tf ?_ | refine GrdK.ft ?_ | refine PickK.t ?_ | refine PickK.f ?_); (conv => whnf))
    refine Wp.loop (fun k : Nat => [(0, .slice A n c), (1, .slice B n c'), (12, vN n), (13, vN k)]) (fun _ => []) (fun k => k ≤ n ∧ R = decide (xs.drop k = ys.drop k)) (fun k => n - k) 0
      ⟨rfl, rfl, rfl, rfl, trivial⟩ (HSub.refl _) ⟨Nat.zero_le _, by rw [← hR]; simp⟩ fun k ⟨hk, he⟩ => ?_
    (conv => whnf); repeat ((first | refine RngK.mk (by omega) (by omega) ?_ | refine NzK.mk (by omega) ?_ | refine NnK.mk (by omega) ?_ | refine BdK.mk (by omega) (by omega) (by omega) ?_ | refine InsK.lit (by omega) (by omega) ?_ | refine SpK.lit ?_ | refine GrdK.same ?_ | refine GrdK.tf ?_ | refine GrdK.ft ?_ | refine PickK.t ?_ | refine PickK.f ?_); (conv => whnf))
    refine Wp.cond rfl (fun h3 => ?_) (fun h3 => ?_)
    · have h3 := dT h3
      have hk1 : k < xs.length := by omega
      have hk2 : k < ys.length := by omega
      rw [drop_at hk1, drop_at hk2] at he
      have l1 := hx _ (List.getElem_mem hk1)
      have l2 := hy _ (List.getElem_mem hk2)
      (conv => whnf); repeat ((first | refine RngK.mk (by omega) (by omega) ?_ | refine NzK.mk (by omega) ?_ | refine NnK.mk (by omega) ?_ | refine BdK.mk (by omega) (by omega) (by omega) ?_ | refine InsK.lit (by omega) (by omega) ?_ | refine SpK.lit ?_ | refine GrdK.same ?_ | refine GrdK.tf ?_ | refine GrdK.ft ?_ | refine PickK.t ?_ | refine PickK.f ?_); (conv => whnf))
      refine DrwK.ord (by kernel_rfl) [0, 1, 2, 3, 4, 5, 6, 7, 8] (by kernel_rfl) ?_; conv => whnf
      (conv => whnf); repeat ((first | refine RngK.mk (by omega) (by omega) ?_ | refine NzK.mk (by omega) ?_ | refine NnK.mk (by omega) ?_ | refine BdK.mk (by omega) (by omega) (by omega) ?_ | refine InsK.lit (by omega) (by omega) ?_ | refine SpK.lit ?_ | refine GrdK.same ?_ | refine GrdK.tf ?_ | refine GrdK.ft ?_ | refine PickK.t ?_ | refine PickK.f ?_); (conv => whnf))
      refine InsK.rd h1 (by omega) (by omega) ?_
      (conv => whnf); repeat ((first | refine RngK.mk (by omega) (by omega) ?_ | refine NzK.mk (by omega) ?_ | refine NnK.mk (by omega) ?_ | refine BdK.mk (by omega) (by omega) (by omega) ?_ | refine InsK.lit (by omega) (by omega) ?_ | refine SpK.lit ?_ | refine GrdK.same ?_ | refine GrdK.tf ?_ | refine GrdK.ft ?_ | refine PickK.t ?_ | refine PickK.f ?_); (conv => whnf))
      refine LdK.rdN (cs := xs[k].map vI) h1 (k * 2) rfl rfl rfl rfl rfl (by rw [List.length_map]; exact l1) (fun q v hv => flat_at hk1 hx hv) ?_
      (conv => whnf); repeat ((first | refine RngK.mk (by omega) (by omega) ?_ | refine NzK.mk (by omega) ?_ | refine NnK.mk (by omega) ?_ | refine BdK.mk (by omega) (by omega) (by omega) ?_ | refine InsK.lit (by omega) (by omega) ?_ | refine SpK.lit ?_ | refine GrdK.same ?_ | refine GrdK.tf ?_ | refine GrdK.ft ?_ | refine PickK.t ?_ | refine PickK.f ?_); (conv => whnf))
      refine InsK.rd h2 (by omega) (by omega) ?_
      (conv => whnf); repeat ((first | refine RngK.mk (by omega) (by omega) ?_ | refine NzK.mk (by omega) ?_ | refine NnK.mk (by omega) ?_ | refine BdK.mk (by omega) (by omega) (by omega) ?_ | refine InsK.lit (by omega) (by omega) ?_ | refine SpK.lit ?_ | refine GrdK.same ?_ | refine GrdK.tf ?_ | refine GrdK.ft ?_ | refine PickK.t ?_ | refine PickK.f ?_); (conv => whnf))
      refine LdK.rdN (cs := ys[k].map vI) h2 (k * 2) rfl rfl rfl rfl rfl (by rw [List.length_map]; exact l2) (fun q v hv => flat_at hk2 hy hv) ?_
      (conv => whnf); repeat ((first | refine RngK.mk (by omega) (by omega) ?_ | refine NzK.mk (by omega) ?_ | refine NnK.mk (by omega) ?_ | refine BdK.mk (by omega) (by omega) (by omega) ?_ | refine InsK.lit (by omega) (by omega) ?_ | refine SpK.lit ?_ | refine GrdK.same ?_ | refine GrdK.tf ?_ | refine GrdK.ft ?_ | refine PickK.t ?_ | refine PickK.f ?_); (conv => whnf))
      refine ValK.neInts rfl (by kernel_rfl) (by kernel_rfl) rfl l1 l2 ?_
      (conv => whnf); repeat ((first | refine RngK.mk (by omega) (by omega) ?_ | refine NzK.mk (by omega) ?_ | refine NnK.mk (by omega) ?_ | refine BdK.mk (by omega) (by omega) (by omega) ?_ | refine InsK.lit (by omega) (by omega) ?_ | refine SpK.lit ?_ | refine GrdK.same ?_ | refine GrdK.tf ?_ | refine GrdK.ft ?_ | refine PickK.t ?_ | refine PickK.f ?_); (conv => whnf))
      by_cases e : xs[k] = ys[k]
      · rw [decide_eq_true e]
        refine Wp.cond rfl (fun h => by cases h) (fun _ => ?_)
        (conv => whnf); repeat ((first | refine RngK.mk (by omega) (by omega) ?_ | refine NzK.mk (by omega) ?_ | refine NnK.mk (by omega) ?_ | refine BdK.mk (by omega) (by omega) (by omega) ?_ | refine InsK.lit (by omega) (by omega) ?_ | refine SpK.lit ?_ | refine GrdK.same ?_ | refine GrdK.tf ?_ | refine GrdK.ft ?_ | refine PickK.t ?_ | refine PickK.f ?_); (conv => whnf))
        refine ⟨k + 1, ⟨rfl, rfl, rfl, rfl, trivial⟩, HSub.refl _, ⟨by omega, ?_⟩, by omega⟩
        rw [he, e]
        simp only [List.cons.injEq, true_and]
      · rw [decide_eq_false e]
        refine Wp.cond rfl (fun _ => ?_) (fun h => by cases h)
        (conv => whnf); repeat ((first | refine RngK.mk (by omega) (by omega) ?_ | refine NzK.mk (by omega) ?_ | refine NnK.mk (by omega) ?_ | refine BdK.mk (by omega) (by omega) (by omega) ?_ | refine InsK.lit (by omega) (by omega) ?_ | refine SpK.lit ?_ | refine GrdK.same ?_ | refine GrdK.tf ?_ | refine GrdK.ft ?_ | refine PickK.t ?_ | refine PickK.f ?_); (conv => whnf))
        refine ⟨?_, rfl⟩
        rw [he]
        simp only [List.cons.injEq, e, false_and, decide_false]
    · have h3 := dF h3
      (conv => whnf); repeat ((first | refine RngK.mk (by omega) (by omega) ?_ | refine NzK.mk (by omega) ?_ | refine NnK.mk (by omega) ?_ | refine BdK.mk (by omega) (by omega) (by omega) ?_ | refine InsK.lit (by omega) (by omega) ?_ | refine SpK.lit ?_ | refine GrdK.same ?_ | refine GrdK.tf ?_ | refine GrdK.ft ?_ | refine PickK.t ?_ | refine PickK.f ?_); (conv => whnf))
      rw [List.drop_of_length_le (by omega), List.drop_of_length_le (by omega)] at he
      exact ⟨by rw [he]; rfl, rfl⟩
end Go.Proofs.YtgdhdkjbilifiaaDoor
