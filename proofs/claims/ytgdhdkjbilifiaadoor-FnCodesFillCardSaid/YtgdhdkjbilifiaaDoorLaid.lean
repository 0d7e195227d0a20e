/- What a card's list gives: the two sentinels of package io; and a world for the witness. -/
import Derived.Test.YtgdhdkjbilifiaaDoorErr
import Derived.Test.YtgdhdkjbilifiaaDoorRows
import Derived.Test.YtgdhdkjbilifiaaDoorOpen
import Derived.Stop.LaidTwo
import Derived.Deep.DeepHandedRow
namespace Go.Proofs.YtgdhdkjbilifiaaDoor
open Go Go.Sx Go.ChangeShapes Go.WideShapes Go.ChangeAt Go.RowKit
set_option maxRecDepth 100000
theorem gE : Tryd.prog.globalNamed "io.EOF" = some 1 := by kernel_rfl
theorem gEt : (Tryd.prog.globals[1]?).map (·.type) = some 60 := by kernel_rfl
theorem gU : Tryd.prog.globalNamed "io.ErrUnexpectedEOF" = some 0 := by kernel_rfl
theorem gUt : (Tryd.prog.globals[0]?).map (·.type) = some 60 := by kernel_rfl
theorem cellsES : Tryd.prog.cellsOf 161 = 1 := by kernel_rfl
theorem cellsStr : Tryd.prog.cellsOf 9 = 1 := by kernel_rfl
theorem starES : "*" ++ "errors.errorString" = "*errors.errorString" := by decide
theorem rowES (u : TypeId) (h : Tryd.prog.typeName? 3 u = some "*errors.errorString") : u = 159 :=
  typeName_ptr_named (nm := "errors.errorString") (by rw [starES]; kernel_rfl) (by kernel_rfl) (by decide) u (by rw [starES]; exact h)
theorem rd_var {W : World} {g : Nat} {nm : String} {v : Value} (hg : Tryd.prog.globalNamed nm = some g) (h : W.var? Tryd.prog nm = some #[v]) : Rd W (blocks []) (some ⟨g, 0, none⟩) 1 1 [v] := by
  have hc := World.var?_cell hg h 0
  have hc : W.cell? ⟨g, 0, none⟩ = some v := by simpa using hc
  refine ⟨rfl, fun _ => ⟨g, 0, rfl, fun ⟨_, h, _⟩ => (by cases h), World.block_lt_of_cell? W _ hc⟩, fun b o hA j u hv => ?_⟩
  injection hA with hA; injection hA with h1 h2
  subst h1 h2
  cases j with
  | zero => simp only [List.getElem?_cons_zero, Option.some.injEq] at hv; subst hv; simpa using hc
  | succ j => simp at hv
theorem laid_of {W : World} (h : laidMet Tryd.prog [("io.EOF", Rows.laid_io_EOF), ("io.ErrUnexpectedEOF", Rows.laid_io_ErrUnexpectedEOF)] W) : ∃ e u, Laid W (blocks []) e u := by
  obtain ⟨a0, a1, s0, s1, c0, c1, t0, t1, hv0, hv1, hc0, hs0, hz0, hc1, hs1, hz1, hne, hb0, hb1⟩ :=
    laid_sentinels2 h gE gEt gU gUt Tryd.underlying60 rowES Tryd.underlying159 Tryd.underlying161 rfl rfl Tryd.underlying9 cellsES cellsStr
  exact ⟨a0, a1, rd_var gE hv0, rd_var gU hv1, fun e => hne e.symm, ⟨_, _, hb0⟩, ⟨_, _, hb1⟩, fun ⟨_, h, _⟩ => (by cases h), fun ⟨_, h, _⟩ => (by cases h)⟩
abbrev eofS : ByteArray := { data := #[69, 79, 70] }
abbrev ueofS : ByteArray := { data := #[117, 110, 101, 120, 112, 101, 99, 116, 101, 100, 32, 69, 79, 70] }
noncomputable def low : Nat := (World.holding Tryd.prog default ⟨#[], #[], []⟩).heap.size
noncomputable def laidWorld (os : Os) : World :=
  let w0 := World.holding Tryd.prog os ⟨#[.cells #[.string eofS] 161, .cells #[.string ueofS] 161], #[], []⟩
  { w0 with heap := (w0.heap.modify 1 fun
      | .cells _ t frozen => .cells #[.iface 159 (.pointer (some ⟨low, 0, none⟩))] t frozen
      | o => o).modify 0 fun
      | .cells _ t frozen => .cells #[.iface 159 (.pointer (some ⟨low + 1, 0, none⟩))] t frozen
      | o => o }
theorem laid_met (os : Os) (args : Array Value) : laidMet Tryd.prog [("io.EOF", Rows.laid_io_EOF), ("io.ErrUnexpectedEOF", Rows.laid_io_ErrUnexpectedEOF)] ((laidWorld os).forCall (fun _ _ => 0) ⟨#[], args, []⟩).memory :=
  laidMet_of_run (ps := [.cell 1 0, .cell low 0, .cell 0 0, .cell (low + 1) 0]) 8 (by kernel_rfl) (by kernel_rfl) (by kernel_rfl)
theorem laid_met1 (os : Os) (args : Array Value) : laidMet Tryd.prog [("io.EOF", Rows.laid_io_EOF)] ((laidWorld os).forCall (fun _ _ => 0) ⟨#[], args, []⟩).memory :=
  laidMet_of_run (ps := [.cell 1 0, .cell low 0]) 8 (by kernel_rfl) (by kernel_rfl) (by kernel_rfl)
end Go.Proofs.YtgdhdkjbilifiaaDoor
