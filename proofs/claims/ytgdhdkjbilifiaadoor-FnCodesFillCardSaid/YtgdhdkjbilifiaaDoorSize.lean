/- How long arguments are together: what the functions return that look at it. -/
import Derived.Test.YtgdhdkjbilifiaaDoorRows
import Derived.Test.YtgdhdkjbilifiaaDoorOpen
import Derived.KernelRfl
namespace Go.Proofs.YtgdhdkjbilifiaaDoor
open Go Go.Sx
set_option maxRecDepth 100000
/-- a call that only reckons -/
abbrev Is (v : Value) : Value → Hp → Prop := fun u H => u = v ∧ H = []
abbrev vI (n : Int) : Value := .int .i64 n
abbrev vB (b : Bool) : Value := .bool b
theorem piece_at {ps : List Piece} {k : Nat} (hk : k < ps.length) : (ps.map Piece.v)[k]? = some (Value.slice ps[k].A ps[k].n ps[k].c) := by
  simp [hk, Piece.v]
theorem drop_at {α : Type} {l : List α} {k : Nat} (hk : k < l.length) : l.drop k = l[k] :: l.drop (k + 1) := List.drop_eq_getElem_cons hk
def tooLong (sum : Int) : List Int → Bool
  | [] => false
  | x :: r => if x > 1000000 - sum then true else tooLong (sum + x) r
theorem tooLong_spec (A : Option Addr) (n c : Nat) (xs : List Int) (hx : ∀ x ∈ xs, 0 ≤ x ∧ x ≤ 9223372036854775807) :
    FnS Tryd.prog 12 [.slice A n c] [] (fun w => Rd w (blocks []) A n 1 (xs.map vI) ∧ n ≤ maxLen) (Is (vB (tooLong 0 xs))) := by
  refine FnS.intro Tryd.func12 rfl (by kernel_rfl) rfl fun w hH ⟨hp, hmax⟩ => ?_
  have hl : xs.length = n := by simpa using hp.len
  simp [maxLen] at hmax
  conv => whnf
  refine Wp.loop (fun s : Nat × Int => [(6, .slice A n c), (7, vI n), (8, vI s.1), (3, vI s.2)]) (fun _ => []) (fun s => s.1 ≤ n ∧ 0 ≤ s.2 ∧ s.2 ≤ 1000000 ∧ tooLong 0 xs = tooLong s.2 (xs.drop s.1)) (fun s => n - s.1) (0, 0)
    ⟨rfl, rfl, rfl, rfl, trivial⟩ (HSub.refl _) ⟨Nat.zero_le _, Int.le_refl _, by omega, by simp⟩ fun ⟨k, sum⟩ ⟨hk, h0, h1, he⟩ => ?_
  dsimp only at hk h0 h1 he ⊢
  conv => whnf
  refine Wp.cond rfl (fun h2 => ?_) (fun h2 => ?_)
  · have h2 := dT h2
    have hk' : k < xs.length := by omega
    have hb := hx _ (List.getElem_mem hk')
    rw [drop_at hk', tooLong] at he
    conv => whnf
    refine InsK.rd hp (by omega) (by omega) ?_
    conv => whnf
    refine LdK.rd (v := vI xs[k]) hp k rfl rfl rfl (by simp [hk']) ?_
    conv => whnf
    refine RngK.mk (by omega) (by omega) ?_
    conv => whnf
    refine Wp.cond rfl (fun h3 => ?_) (fun h3 => ?_)
    · have h3 := dT h3
      conv => whnf
      rw [if_pos h3] at he
      exact ⟨by rw [he], rfl⟩
    · have h3 := dF h3
      conv => whnf
      rw [if_neg h3] at he
      refine RngK.mk (by omega) (by omega) ?_
      conv => whnf
      refine RngK.mk (by omega) (by omega) ?_
      conv => whnf
      exact ⟨(k + 1, sum + xs[k]), ⟨rfl, rfl, rfl, rfl, trivial⟩, HSub.refl _, ⟨by simp only; omega, by simp only; omega, by simp only; omega, he⟩, by simp only; omega⟩
  · have h2 := dF h2
    conv => whnf
    rw [List.drop_of_length_le (by omega)] at he
    exact ⟨by rw [he]; rfl, rfl⟩
def sizeP (sum : Int) : List Piece → Int
  | [] => sum
  | p :: r => if (p.n : Int) ≥ 1000000 - sum then 1000001 else sizeP (sum + (p.n + 1)) r
theorem sizeP_bound : ∀ (ps : List Piece) (sum : Int), 0 ≤ sum → sum ≤ 1000000 → 0 ≤ sizeP sum ps ∧ sizeP sum ps ≤ 1000001
  | [], sum, h0, h1 => ⟨h0, by unfold sizeP; omega⟩
  | p :: r, sum, h0, h1 => by
    unfold sizeP
    split
    · omega
    · exact sizeP_bound r _ (by omega) (by omega)
def joined (ps : List Piece) : List UInt8 := ps.flatMap (·.bs)
theorem sizeP_joined : ∀ (ps : List Piece) (sum : Int), (∀ p ∈ ps, p.bs.length = p.n) → 0 ≤ sum → sum ≤ 1000000 → sizeP sum ps ≤ 1000000 → sum + (joined ps).length + ps.length ≤ 1000000
  | [], sum, _, _, _, h => by simp [joined]; unfold sizeP at h; omega
  | p :: r, sum, hp, h0, h1, h => by
    unfold sizeP at h
    split at h
    · omega
    · have := sizeP_joined r _ (fun q hq => hp q (List.mem_cons_of_mem _ hq)) (by omega) (by omega) h
      have h2 := hp p List.mem_cons_self
      simp only [joined, List.flatMap_cons, List.length_append, List.length_cons] at *
      omega
abbrev OwnU8 (E : TypeId) (bs : List UInt8) : Value → Hp → Prop := fun v H => ∃ A cap, v = .slice A bs.length cap ∧ H = [.own A bs.length cap E 1 (bs.map vU8)]
theorem vU8_one {bs : List UInt8} : ∀ u ∈ bs.map vU8, u.oneCell' = true := by
  intro u hu
  obtain ⟨b, _, rfl⟩ := List.mem_map.1 hu
  rfl
theorem sameBytes_spec (A B : Option Addr) (n m c c' : Nat) (xs ys : List UInt8) : FnS Tryd.prog 25 [.slice A n c, .slice B m c'] []
    (fun w => Rd w (blocks []) A n 1 (xs.map vU8) ∧ Rd w (blocks []) B m 1 (ys.map vU8) ∧ n ≤ maxLen) (Is (vB (decide (xs = ys)))) := by
  refine FnS.intro Tryd.func25 rfl (by kernel_rfl) rfl fun w hH ⟨h1, h2, hmax⟩ => ?_
  have hl : xs.length = n := by simpa using h1.len
  have hm : ys.length = m := by simpa using h2.len
  simp [maxLen] at hmax
  conv => whnf
  refine Wp.cond rfl (fun h => ?_) (fun h => ?_)
  · conv => whnf
    have h := neT h
    have : decide (xs = ys) = false := by simp; rintro rfl; omega
    exact ⟨by rw [this], rfl⟩
  · have h := neF h
    obtain rfl : n = m := by omega
    conv => whnf
    refine Wp.loop (fun k : Nat => [(0, .slice A n c), (1, .slice B n c'), (12, vI n), (13, vI k)]) (fun _ => []) (fun k => k ≤ n ∧ xs.take k = ys.take k) (fun k => n - k) 0
      ⟨rfl, rfl, rfl, rfl, trivial⟩ (HSub.refl _) ⟨Nat.zero_le _, rfl⟩ fun k ⟨hk, he⟩ => ?_
    conv => whnf
    refine Wp.cond rfl (fun h3 => ?_) (fun h3 => ?_)
    · have h3 := dT h3
      have hx : k < xs.length := by omega
      have hy : k < ys.length := by omega
      conv => whnf
      refine DrwK.ord (by kernel_rfl) (List.range 9) (by kernel_rfl) ?_; conv => whnf
      refine InsK.rd h1 (by omega) (by omega) ?_
      conv => whnf
      refine LdK.rd (v := vU8 xs[k]) h1 k rfl rfl rfl (by simp [hx]) ?_
      conv => whnf
      refine InsK.rd h2 (by omega) (by omega) ?_
      conv => whnf
      refine LdK.rd (v := vU8 ys[k]) h2 k rfl rfl rfl (by simp [hy]) ?_
      conv => whnf
      refine Wp.cond rfl (fun h4 => ?_) (fun h4 => ?_)
      · have h4 := neT h4
        conv => whnf
        have : decide (xs = ys) = false := by
          simp only [decide_eq_false_iff_not]
          rintro rfl
          exact h4 rfl
        exact ⟨by rw [this], rfl⟩
      · have h4 := neF h4
        conv => whnf
        refine RngK.mk (by omega) (by omega) ?_
        conv => whnf
        refine ⟨k + 1, ⟨rfl, rfl, rfl, rfl, trivial⟩, HSub.refl _, ⟨by omega, ?_⟩, by omega⟩
        rw [List.take_succ_eq_append_getElem hx, List.take_succ_eq_append_getElem hy, he]
        have : xs[k] = ys[k] := by
          apply UInt8.toNat_inj.1
          omega
        rw [this]
    · have h3 := dF h3
      conv => whnf
      rw [List.take_of_length_le (by omega), List.take_of_length_le (by omega)] at he
      subst he
      exact ⟨by simp, rfl⟩
end Go.Proofs.YtgdhdkjbilifiaaDoor
