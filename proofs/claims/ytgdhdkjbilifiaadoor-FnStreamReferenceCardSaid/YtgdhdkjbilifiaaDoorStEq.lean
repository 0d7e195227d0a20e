/- Structs of whole numbers, told apart. No program. -/
import Derived.Test.YtgdhdkjbilifiaaDoorEq
import Derived.Laws.StructEq
namespace Go.Sx
open Go
def flatInts (P : Program) : List Field → Nat → Bool
  | [], _ => true
  | f :: r, j => f.name != "_" && (match P.underlying f.type with | some (.int _) => true | _ => false) && Nat.beq f.offset j && flatInts P r (j + 1)
theorem run_part1 {P : Program} {t : TypeId} {k : IntKind} {cs : Array Value} {j : Nat} {v : Value} (ht : P.underlying t = some (.int k)) (hv : cs[j]? = some v) (w : World) : (part t cs j).run P w = .ok v w := by
  have : (isAgg t).run P w = .ok false w := by
    simp only [isAgg, Sem.run_bind, run_underlying ht, Result.andThen_ok]
    rfl
  simp [part, this, hv]
theorem run_eqFields_ints {P : Program} (w : World) (d : Nat) : ∀ (fs : List Field) (j : Nat) (xs ys : List Int), flatInts P fs j = true → xs.length = j + fs.length → ys.length = j + fs.length →
    (Op.eqFields (d + 1) (xs.map (.int .i64)).toArray (ys.map (.int .i64)).toArray fs).run P w = .ok (decide (xs.drop j = ys.drop j)) w
  | [], j, xs, ys, _, hx, hy => by
    rw [List.drop_of_length_le (by simp at hx; omega), List.drop_of_length_le (by simp at hy; omega)]
    simp [Op.eqFields]
  | f :: r, j, xs, ys, h, hx, hy => by
    simp only [flatInts, Bool.and_eq_true] at h
    obtain ⟨⟨⟨h1, h2⟩, h3⟩, h4⟩ := h
    have h3 := Nat.eq_of_beq_eq_true h3
    simp only [List.length_cons] at hx hy
    have hxj : j < xs.length := by omega
    have hyj : j < ys.length := by omega
    split at h2
    · rename_i k hk
      have hn : f.name ≠ "_" := by simpa using h1
      have ih := run_eqFields_ints w d r (j + 1) xs ys h4 (by omega) (by omega)
      unfold Op.eqFields
      rw [if_pos hn, h3]
      simp only [Sem.run_bind, run_part1 hk (show (xs.map (Value.int .i64)).toArray[j]? = some (Value.int .i64 xs[j]) by simp [hxj]) w, run_part1 hk (show (ys.map (Value.int .i64)).toArray[j]? = some (Value.int .i64 ys[j]) by simp [hyj]) w,
        Result.andThen_ok, run_equalIn_int w d f.type .i64 k xs[j] ys[j] hk]
      rw [List.drop_eq_getElem_cons hxj, List.drop_eq_getElem_cons hyj]
      by_cases e : xs[j] = ys[j]
      · simp only [e, beq_self_eq_true, Bool.not_true, Bool.false_eq_true, if_false, ih, List.cons.injEq, true_and]
      · have eb : (xs[j] == ys[j]) = false := by simpa using e
        simp only [eb, Bool.not_false, if_true, Sem.run_pure, List.cons.injEq, e, false_and, decide_false]
    · cases h2
theorem ValK.neInts {P : Program} {t : TypeId} {x y : Operand} {fs : Array Field} {xs ys : List Int} {K : Value → Prop} (hu : P.underlying t = some (.struct fs)) (hp : P.stoodInHeld t = false) (hm : P.eqGuardType P.depth t = false)
    (hf : flatInts P fs.toList 0 = true) (hx : xs.length = fs.size) (hy : ys.length = fs.size) (h : K (.bool (!decide (xs = ys)))) :
    ValK P (do eqGuard .neq t x y (.agg (xs.map (.int .i64)).toArray) (.agg (ys.map (.int .i64)).toArray); binOp .neq t (.agg (xs.map (.int .i64)).toArray) (.agg (ys.map (.int .i64)).toArray)) K := by
  have hfo : P.fieldsOf t = fs := by simp [Program.fieldsOf, hu]
  refine ⟨⟨.bool (!decide (xs = ys)), fun w => ?_, h⟩⟩
  have he := run_eqFields_ints (P := P) w 9998 fs.toList 0 xs ys hf (by simpa using hx) (by simpa using hy)
  rw [List.drop_zero, List.drop_zero] at he
  have h2 := run_equalIn_agg (P := P) w 9999 t (xs.map (.int .i64)).toArray (ys.map (.int .i64)).toArray (by rw [hfo]; exact hu) hp
  rw [hfo] at h2
  simp only [Sem.run_bind, run_eqGuard_agg w .neq t x y _ _ hm, Result.andThen_ok, run_neq_struct]
  rw [h2, he]
  rfl
end Go.Sx
