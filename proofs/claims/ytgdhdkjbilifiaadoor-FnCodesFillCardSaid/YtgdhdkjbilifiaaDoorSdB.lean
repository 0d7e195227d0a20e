/- Tables of states as plain data. -/
import Derived.Test.YtgdhdkjbilifiaaDoorSdA
import Derived.Test.YtgdhdkjbilifiaaDoorStD
import Derived.Test.YtgdhdkjbilifiaaDoorOwn
import Derived.Test.YtgdhdkjbilifiaaDoorEq
namespace Go.Proofs.YtgdhdkjbilifiaaDoor
open Go Go.Sx
set_option maxRecDepth 100000
theorem Wp.nil {P : Program} {n : Nat} {w0 : World} {W : Nat → Prop} {H : Hp} (e : TypeId) (sz : Nat) {c : Code} {σ : Sl} {κ : Conts} (h : Wp P n w0 W c σ (.own none 0 0 e sz [] :: H) κ) : Wp P n w0 W c σ H κ := ⟨fun hok a w hr hw => h.wp hok a w hr (hw.nilOwn e sz)⟩
def rowS (x : St) : List Int := [(x.1 : Int), (x.2.1 : Int), x.2.2]
def rowN (x : En) : List Int := [(x.1 : Int), (x.2.1 : Int), (x.2.2 : Int)]
theorem flat_rows (l : List St) : l.flatMap stCells = flat (l.map rowS) := by
  unfold flat
  rw [List.flatMap_map]
  rfl
theorem flE_snoc (l : List En) (x : En) : flE (l ++ [x]) = flE l ++ enCells x := by
  simp [flE, List.flatMap_append]
theorem en_one (x : En) : ∀ u ∈ enCells x, u.oneCell' = true := by
  intro u hu
  simp only [enCells, List.mem_cons, List.not_mem_nil, or_false] at hu
  rcases hu with rfl | rfl | rfl <;> rfl
theorem en_at {es : List En} {k : Nat} (hk : k < es.length) : ∀ q v, (enCells es[k])[q]? = some v → (flE es)[k * 3 + q]? = some v := fun _ _ hv => flE_at (List.getElem?_eq_getElem hk) hv
abbrev OwnN (T : TypeId) (es : List En) (A : Option Addr) (cap : Nat) : Chunk := .own A es.length cap T 3 (flE es)
theorem ownN_snoc (T : TypeId) (es : List En) (x : En) (A : Option Addr) (cap : Nat) : OwnN T (es ++ [x]) A cap = .own A (es.length + 1) cap T 3 (flE es ++ enCells x) := by
  simp [OwnN, flE_snoc]
theorem build_ents {zs : List Int} {b : Nat} (hc : Counts zs b) (hs : (zs.map rN).sum = 2 ^ b) : (∀ x ∈ (buildN zs b).map entOf, x.1 < 256 ∧ x.2.1 < 256 ∧ x.2.2 < 65536) ∧ ((buildN zs b).map entOf).map rowN = (buildN zs b).map rowS := by
  obtain ⟨hM1, hM2⟩ := hc.M
  have hl := hc.len
  have h9 := hc.b9
  refine ⟨fun x hx => ?_, ?_⟩
  · obtain ⟨y, hy, rfl⟩ := List.mem_map.1 hx
    obtain ⟨h1, h2, h3, h4⟩ := build_mem hc hs hy
    have := Nat.two_pow_pos y.2.1
    unfold entOf
    dsimp only
    refine ⟨by omega, by omega, by omega⟩
  · rw [List.map_map]
    refine List.map_congr_left fun y hy => ?_
    obtain ⟨h1, h2, h3, h4⟩ := build_mem hc hs hy
    simp only [Function.comp, rowN, rowS, entOf]
    congr 3
    omega
theorem made_en (m : Nat) : (madeCells #[.int .u8 0, .int .u8 0, .int .u16 0] (m * 3)).toList = flE (List.replicate m (0, 0, 0)) := by
  induction m with
  | zero => simp [madeCells, flE]
  | succ m ih =>
    rw [List.replicate_succ', flE_snoc, ← ih]
    have e0 : m * 3 % 3 = 0 := by omega
    have e1 : (m * 3 + 1) % 3 = 1 := by omega
    have e2 : (m * 3 + 2) % 3 = 2 := by omega
    simp only [madeCells, Nat.succ_mul, Array.toList_map, Array.toList_range, List.range_succ, List.map_append, List.map_cons, List.map_nil, List.append_assoc]
    congr 1
    simp [e0, e1, e2, enCells]
end Go.Proofs.YtgdhdkjbilifiaaDoor
