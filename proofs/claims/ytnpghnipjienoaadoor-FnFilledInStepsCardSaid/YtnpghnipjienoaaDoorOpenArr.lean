/-
  Four answers and four texts, by value, opened.
-/
import Derived.Test.YtnpghnipjienoaaDoorOpen
import Derived.Laws.IdiomArrays
import Derived.Lib.SmallJoins
namespace Go.Proofs.YtnpghnipjienoaaDoor
open Go Go.ChangeShapes Go.WideShapes Go.ChangeAt Go.RowKit Go.Joins Go.Deep

theorem cells53 : Tryd.prog.cellsOf 53 = 4 := by kernel_rfl
theorem cells54 : Tryd.prog.cellsOf 54 = 4 := by kernel_rfl
theorem cells4 : Tryd.prog.cellsOf 4 = 1 := by kernel_rfl
theorem cells9 : Tryd.prog.cellsOf 9 = 1 := by kernel_rfl

theorem cells_of_array {P : Program} {W : World} {base n : Nat} {t e : TypeId} {v : Value} (ht : P.underlying t = some (.array n e)) (hv : Value.okWide P W .any base t v) : ∃ cs, v = .agg cs ∧ cs.size = P.cellsOf t := by
  obtain ⟨cs, h1, h2, _⟩ : ∃ cs, v = .agg cs ∧ cs.size = P.cellsOf t ∧ Row.okWide P W .any base t cs := by
    simpa [Value.okWide, ht] using hv
  exact ⟨cs, h1, h2⟩

set_option maxRecDepth 100000 in
theorem open_bools4 {H : Type} {enc : TypeId × Value → H} {W : World} {base : Nat} {v : Value} {d : DataW H} {p : List MemPlace} (hv : Value.okWide Tryd.prog W .any base 53 v) (h : DataW.Trod enc Tryd.prog W 0 (fun _ => true) true 53 v d p) :
    ∃ ta tb tc td : Bool, v = .agg #[.bool ta, .bool tb, .bool tc, .bool td] := by
  obtain ⟨cs, rfl, hsz⟩ := cells_of_array Tryd.underlying53 hv
  obtain ⟨c0, c1, c2, c3, rfl⟩ := array4 (hsz.trans cells53)
  obtain ⟨fuel, hf⟩ := h
  obtain ⟨y0, y1, y2, y3, m, _, h0, h1, h2, h3⟩ := trod_array4 Tryd.underlying53 cells4 hf
  obtain ⟨b0, e0, _⟩ := DataW.trod_bool Tryd.underlying4 h0
  obtain ⟨b1, e1, _⟩ := DataW.trod_bool Tryd.underlying4 h1
  obtain ⟨b2, e2, _⟩ := DataW.trod_bool Tryd.underlying4 h2
  obtain ⟨b3, e3, _⟩ := DataW.trod_bool Tryd.underlying4 h3
  refine ⟨b0, b1, b2, b3, ?_⟩
  rw [(List.cons.inj e0).1, (List.cons.inj e1).1, (List.cons.inj e2).1, (List.cons.inj e3).1]

set_option maxRecDepth 100000 in
theorem open_texts4 {H : Type} {enc : TypeId × Value → H} {W : World} {base : Nat} {v : Value} {d : DataW H} {p : List MemPlace} (hv : Value.okWide Tryd.prog W .any base 54 v) (h : DataW.Trod enc Tryd.prog W 0 (fun _ => true) true 54 v d p) :
    ∃ sa sb sc sd : ByteArray, v = .agg #[.string sa, .string sb, .string sc, .string sd] ∧ sa.size ≤ maxLen ∧ sb.size ≤ maxLen ∧ sc.size ≤ maxLen ∧ sd.size ≤ maxLen := by
  obtain ⟨cs, rfl, hsz⟩ := cells_of_array Tryd.underlying54 hv
  obtain ⟨c0, c1, c2, c3, rfl⟩ := array4 (hsz.trans cells54)
  obtain ⟨fuel, hf⟩ := h
  obtain ⟨y0, y1, y2, y3, m, _, h0, h1, h2, h3⟩ := trod_array4 Tryd.underlying54 cells9 hf
  obtain ⟨b0, e0, _, l0⟩ := DataW.trod_string Tryd.underlying9 h0
  obtain ⟨b1, e1, _, l1⟩ := DataW.trod_string Tryd.underlying9 h1
  obtain ⟨b2, e2, _, l2⟩ := DataW.trod_string Tryd.underlying9 h2
  obtain ⟨b3, e3, _, l3⟩ := DataW.trod_string Tryd.underlying9 h3
  refine ⟨b0, b1, b2, b3, ?_, l0, l1, l2, l3⟩
  rw [(List.cons.inj e0).1, (List.cons.inj e1).1, (List.cons.inj e2).1, (List.cons.inj e3).1]
end Go.Proofs.YtnpghnipjienoaaDoor
