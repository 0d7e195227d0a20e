/- How long arguments are together: what the functions return that look at it. -/
import Derived.Test.YtccmihdpgpgbaaaRows
import Derived.Test.YtccmihdpgpgbaaaOpen
import Derived.KernelRfl
namespace Go.Proofs.Ytccmihdpgpgbaaa
open Go Go.Sx
set_option maxRecDepth 100000
/-- a call that only reckons -/
abbrev Is (v : Value) : Value → Hp → Prop := fun u H => u = v ∧ H = []
abbrev vI (n : Int) : Value := .int .i64 n
abbrev vB (b : Bool) : Value := .bool b
theorem piece_at {ps : List Piece} {k : Nat} (hk : k < ps.length) : (ps.map Piece.v)[k]? = some (Value.slice ps[k].A ps[k].n ps[k].c) := by
  simp [hk, Piece.v]
theorem drop_at {α : Type} {l : List α} {k : Nat} (hk : k < l.length) : l.drop k = l[k] :: l.drop (k + 1) := List.drop_eq_getElem_cons hk
def tooLong (sum : Int) : List Int → Bool
  | [] => false
  | x :: r => if x > 1000000 - sum then true else tooLong (sum + x) r
def sizeP (sum : Int) : List Piece → Int
  | [] => sum
  | p :: r => if (p.n : Int) ≥ 1000000 - sum then 1000001 else sizeP (sum + (p.n + 1)) r
theorem sizeP_bound : ∀ (ps : List Piece) (sum : Int), 0 ≤ sum → sum ≤ 1000000 → 0 ≤ sizeP sum ps ∧ sizeP sum ps ≤ 1000001
  | [], sum, h0, h1 => ⟨h0, by unfold sizeP; omega⟩
  | p :: r, sum, h0, h1 => by
    unfold sizeP
    split
    · omega
    · exact sizeP_bound r _ (by omega) (by omega)
def joined (ps : List Piece) : List UInt8 := ps.flatMap (·.bs)
theorem sizeP_joined : ∀ (ps : List Piece) (sum : Int), (∀ p ∈ ps, p.bs.length = p.n) → 0 ≤ sum → sum ≤ 1000000 → sizeP sum ps ≤ 1000000 → sum + (joined ps).length + ps.length ≤ 1000000
  | [], sum, _, _, _, h => by simp [joined]; unfold sizeP at h; omega
  | p :: r, sum, hp, h0, h1, h => by
    unfold sizeP at h
    split at h
    · omega
    · have := sizeP_joined r _ (fun q hq => hp q (List.mem_cons_of_mem _ hq)) (by omega) (by omega) h
      have h2 := hp p List.mem_cons_self
      simp only [joined, List.flatMap_cons, List.length_append, List.length_cons] at *
      omega
abbrev OwnU8 (E : TypeId) (bs : List UInt8) : Value → Hp → Prop := fun v H => ∃ A cap, v = .slice A bs.length cap ∧ H = [.own A bs.length cap E 1 (bs.map vU8)]
theorem vU8_one {bs : List UInt8} : ∀ u ∈ bs.map vU8, u.oneCell' = true := by
  intro u hu
  obtain ⟨b, _, rfl⟩ := List.mem_map.1 hu
  rfl
end Go.Proofs.Ytccmihdpgpgbaaa
