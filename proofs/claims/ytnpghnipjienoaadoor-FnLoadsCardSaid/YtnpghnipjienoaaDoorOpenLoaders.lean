/-
  The arguments of the law FnLoads opened: a slice of loaders.
-/
import Derived.Test.YtnpghnipjienoaaDoorOpen
namespace Go.Proofs.YtnpghnipjienoaaDoor
open Go Go.ChangeShapes Go.WideShapes Go.ChangeAt Go.RowKit Go.Joins Go.Deep

theorem cells48 : Tryd.prog.cellsOf 48 = 2 := by kernel_rfl
set_option maxRecDepth 100000 in
/-- A slice of loaders that came in. -/
theorem open_loaders {H : Type} {enc : TypeId × Value → H} {W : World} {base : Nat} {v : Value} {d : DataW H} {p : List MemPlace} (hv : Value.okWide Tryd.prog W .any base 44 v) (h : DataW.Trod enc Tryd.prog W 0 (fun _ => true) true 44 v d p) :
    ∃ (A : Option Addr) (n c : Nat) (ps : List (ByteArray × Int)), v = .slice A n c ∧ Parts .i64 W W.heap.size A n ps ∧ n ≤ maxLen ∧ (∀ p ∈ ps, p.1.size ≤ maxLen) := by
  obtain ⟨a0, len, cap, rfl⟩ := okWide_slice Tryd.underlying44 hv
  obtain ⟨fuel, hf⟩ := h
  exact parts_of_slice Tryd.underlying44 Tryd.underlying48 (by kernel_rfl) cells48 rfl rfl hf
end Go.Proofs.YtnpghnipjienoaaDoor
