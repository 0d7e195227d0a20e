/- Counts that fill a table: spec.Fills. -/
import Derived.Test.YtgdhdkjbilifiaaDoorStB
namespace Go.Proofs.YtgdhdkjbilifiaaDoor
open Go Go.Sx
set_option maxRecDepth 100000
def fillsL (b : Nat) (sum : Int) : List Int → Bool
  | [] => sum == ((2 ^ b : Nat) : Int)
  | z :: r => if z < -1 ∨ z > ((2 ^ b : Nat) : Int) then false else fillsL b (sum + (rN z : Nat)) r
def fillsN (zs : List Int) (b : Int) : Bool :=
  if b < 5 ∨ b > 9 ∨ zs.length < 1 ∨ zs.length > 256 ∨ zs.getD (zs.length - 1) 0 = 0 then false else fillsL b.toNat 0 zs
theorem fillsL_facts {b : Nat} : ∀ {zs : List Int} {sum : Int}, fillsL b sum zs = true → (∀ z ∈ zs, -1 ≤ z ∧ z ≤ ((2 ^ b : Nat) : Int)) ∧ sum + (((zs.map rN).sum : Nat) : Int) = ((2 ^ b : Nat) : Int)
  | [], sum, h => ⟨fun z hz => (by cases hz), by simpa [fillsL] using h⟩
  | z :: r, sum, h => by
    rw [fillsL] at h
    split at h
    · cases h
    · rename_i hn
      obtain ⟨h1, h2⟩ := fillsL_facts h
      refine ⟨fun y hy => ?_, ?_⟩
      · rcases List.mem_cons.1 hy with rfl | hy
        · omega
        · exact h1 y hy
      · simp only [List.map_cons, List.sum_cons]
        omega
theorem negs_le : ∀ zs : List Int, negs zs ≤ (zs.map rN).sum
  | [] => Nat.le_refl _
  | z :: r => by
    have := negs_le r
    simp only [negs, List.map_cons, List.sum_cons]
    split
    · rename_i h
      have : rN z = 1 := by rw [rN, if_pos h]
      omega
    · omega
theorem fillsN_facts {zs : List Int} {b : Int} (h : fillsN zs b = true) : ∃ b' : Nat, b = (b' : Int) ∧ Counts zs b' ∧ 1 ≤ zs.length ∧ (zs.map rN).sum = 2 ^ b' := by
  unfold fillsN at h
  split at h
  · cases h
  · rename_i hn
    obtain ⟨b', rfl⟩ := Int.eq_ofNat_of_zero_le (show 0 ≤ b by omega)
    have e : ((b' : Nat) : Int).toNat = b' := by omega
    rw [e] at h
    obtain ⟨h1, h2⟩ := fillsL_facts h
    have h3 : (zs.map rN).sum = 2 ^ b' := by omega
    exact ⟨b', rfl, ⟨by omega, by omega, by omega, h1, by have := negs_le zs; omega⟩, by omega, h3⟩
end Go.Proofs.YtgdhdkjbilifiaaDoor
