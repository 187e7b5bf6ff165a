/-
  The list of five: the tables, and the two sentinels of strconv.
-/
import Derived.Test.YtnpghnipjienoaaDoorLaid
import Derived.Test.YtnpghnipjienoaaDoorCompare
namespace Go.Proofs.YtnpghnipjienoaaDoor
open Go Go.ChangeShapes Go.WideShapes Go.ChangeAt Go.RowKit

def list5 : List (String × DataW Unit) := [("math/bits.deBruijn32tab", Rows.laid_math_bits_deBruijn32tab), ("math/bits.deBruijn64tab", Rows.laid_math_bits_deBruijn64tab), ("internal/strconv.uint64pow10", Rows.laid_internal_strconv_uint64pow10), ("strconv.ErrRange", Rows.laid_strconv_ErrRange), ("strconv.ErrSyntax", Rows.laid_strconv_ErrSyntax)]

theorem gSyn : Tryd.prog.globalNamed "strconv.ErrSyntax" = some 2 := by kernel_rfl
theorem gRan : Tryd.prog.globalNamed "strconv.ErrRange" = some 3 := by kernel_rfl

theorem pow_of_laid5 {W : World} (h : laidMetH Tryd.prog list5 W) : Lib.TabIs Tryd.prog W "internal/strconv.uint64pow10" .u64 Lib.pow10Tab := by
  rw [MakeChecks.laidMetH_plain _ _ _ (by kernel_rfl)] at h
  have h2 := h.tail.tail
  rw [powData] at h2
  exact Lib.tabIs_of_head (rest := [("strconv.ErrRange", Rows.laid_strconv_ErrRange), ("strconv.ErrSyntax", Rows.laid_strconv_ErrSyntax)]) gPow1 gPowType Tryd.underlying133 Tryd.underlying39 cells39 cells133 h2

/-- A sentinel's cell holds an interface value. -/
theorem sent_cell {W : World} {n nm : String} {dd : DataW Unit} {r : List (String × DataW Unit)} {g : Nat} {ti : TypeId} {ms : Array (String × TypeId)} (h : laidMet Tryd.prog ((n, .iface nm dd) :: r) W)
    (hg : Tryd.prog.globalNamed n = some g) (ht : (Tryd.prog.globals[g]?).map (·.type) = some ti) (hi : Tryd.prog.underlying ti = some (.interface ms)) :
    ∃ ev, W.cell? ⟨g, 0, none⟩ = some ev ∧ (ev = .nilIface ∨ ∃ te pe, ev = .iface te pe) := by
  obtain ⟨ps, ⟨g0, t0, cs0, f0, p0, q0, hg0, ht0, hv0, hd0, _, e0⟩, _, hrows⟩ := h
  obtain rfl := Option.some.inj (hg.symm.trans hg0)
  obtain rfl := Option.some.inj (ht.symm.trans ht0)
  obtain ⟨l0⟩ := cs0
  obtain ⟨f1, u, v, rfl, _, _⟩ := iface_of_trod hi hd0
  exact ⟨.iface u v, by simpa using World.var?_cell hg0 hv0 0, .inr ⟨u, v, rfl⟩⟩

theorem sent_of_laid {W : World} (h : laidMetH Tryd.prog list5 W) : Sent W := by
  rw [MakeChecks.laidMetH_plain _ _ _ (by kernel_rfl)] at h
  have h3 := h.tail.tail.tail
  exact ⟨sent_cell h3.tail gSyn (by kernel_rfl) Tryd.underlying98, sent_cell h3 gRan (by kernel_rfl) Tryd.underlying98⟩

/-- The door's own heap meets the list. -/
theorem door_met5 (os : Os) (args : Array Value) : laidMetH Tryd.prog list5 ((World.doorLaid Tryd.prog 400 os).forCall (fun _ _ => 0) ⟨#[], args, []⟩).memory :=
  laidMetH_of_parts3 (fuel := 8) (laidMet_of_run' 65 (by kernel_rfl) (by kernel_rfl)) (by kernel_rfl) (by kernel_rfl)
end Go.Proofs.YtnpghnipjienoaaDoor
