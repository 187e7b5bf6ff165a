/-
  The arguments of the laws opened: a version, a slice of parts; what an argument reads as behind a call that turned nothing old.
-/
import Derived.Test.YtnpghnipjienoaaDoorLaid
import Derived.Test.YtnpghnipjienoaaDoorPairs
namespace Go.Proofs.YtnpghnipjienoaaDoor
open Go Go.ChangeShapes Go.WideShapes Go.ChangeAt Go.RowKit Go.Joins Go.Deep

theorem laidOut : laidOutB Tryd.prog = true := by kernel_rfl
theorem cells3 : Tryd.prog.cellsOf 3 = 1 := by kernel_rfl
theorem cells24 : Tryd.prog.cellsOf 24 = 2 := by kernel_rfl

theorem stays {H : Type} {enc : TypeId × Value → H} {t : TypeId} (hr : Tryd.prog.readableRec t = true) (hrow : t < Tryd.prog.types.size) {W W' : World} {v : Value} {d : DataW H} {ps : List MemPlace}
    (h : DataW.Trod enc Tryd.prog W 0 (fun _ => true) true t v d ps) (hb : Below W.heap.size W W') (hlt : ∀ x ∈ ps, x.block < W.heap.size) (sp : Nat → Bool) (hsp : ∀ x ∈ ps, sp x.block = true) :
    DataW.Trod enc Tryd.prog W' 0 sp true t v d ps :=
  WideElems.Trod_stays laidOut hr hrow h (fun x hx => hb.same (hlt x hx)) hsp

theorem reads_of_ints {H : Type} {enc : TypeId × Value → H} {W : World} {sp : Nat → Bool} {n : Nat} {v : Value} {x : DataW H × List MemPlace} (hf : DataW.trod enc Tryd.prog W 0 sp true n 22 [v] = some x) :
    ∃ (A : Option Addr) (len cap : Nat) (zs : List Int), v = .slice A len cap ∧ Reads W W.heap.size 1 A len (ints zs) ∧ len ≤ maxLen := by
  rcases open_ints Tryd.underlying22 Tryd.underlying3 cells3 hf with ⟨hcs, _⟩ | ⟨a, len, cap, zs, hcs, _, hl, hm, hz, _, hcell, _⟩
  · exact ⟨none, 0, 0, [], by simpa using hcs, Reads.none_, Nat.zero_le _⟩
  · refine ⟨some a, len, cap, zs.take len, by simpa using hcs, ⟨?_, fun h0 => ⟨a, rfl, ?_, fun j u hu => ?_⟩⟩, by omega⟩
    · have : len ≤ zs.length := by rw [hz]; split <;> omega
      simp; omega
    · have h := hcell 0 (by rw [hz]; split <;> omega)
      have := World.block_lt_of_cell? W _ h
      rw [block_of_add] at this
      exact this
    · have hle : len ≤ zs.length := by rw [hz]; split <;> omega
      rw [List.getElem?_map, Option.map_eq_some_iff] at hu
      obtain ⟨z, hz1, rfl⟩ := hu
      rw [List.getElem?_take] at hz1
      split at hz1
      · next hj =>
        rw [hcell j (by omega)]
        simp [hz1]
      · cases hz1

set_option maxRecDepth 100000 in
/-- A version that came in. -/
theorem open_version {H : Type} {enc : TypeId × Value → H} {W : World} {base : Nat} {v : Value} {d : DataW H} {p : List MemPlace} (hv : Value.okWide Tryd.prog W .any base 24 v) (h : DataW.Trod enc Tryd.prog W 0 (fun _ => true) true 24 v d p) :
    ∃ (A : Option Addr) (n c : Nat) (zs : List Int) (tail : ByteArray), v = .agg #[.slice A n c, .string tail] ∧ Reads W W.heap.size 1 A n (ints zs) ∧ n ≤ maxLen ∧ tail.size ≤ maxLen := by
  obtain ⟨v0, v1, y0, y1, k, rfl, _, _, h0, h1⟩ := open_agg2 Tryd.underlying24 (by kernel_rfl) cells24 hv h
  obtain ⟨A, n, c, zs, rfl, hr, hn⟩ := reads_of_ints h0
  obtain ⟨s, hs, _, hl⟩ := DataW.trod_string Tryd.underlying9 h1
  exact ⟨A, n, c, zs, s, by simpa using hs, hr, hn, hl⟩

/-- A slice of structs of a string and an int that came in. -/
theorem parts_of_slice {H : Type} {enc : TypeId × Value → H} {W : World} {t e : TypeId} {f0 f1 : Field} (ht : Tryd.prog.underlying t = some (.slice e)) (he : Tryd.prog.underlying e = some (.struct #[f0, f1])) (hone : oneCellFields Tryd.prog #[f0, f1] = true)
    (hC : Tryd.prog.cellsOf e = 2) (e0 : f0.type = 9) (e1 : f1.type = 3) {n : Nat} {v : Value} {x : DataW H × List MemPlace} (hf : DataW.trod enc Tryd.prog W 0 (fun _ => true) true n t [v] = some x) :
    ∃ (A : Option Addr) (len cap : Nat) (ps : List (ByteArray × Int)), v = .slice A len cap ∧ Parts .i64 W W.heap.size A len ps ∧ len ≤ maxLen ∧ (∀ p ∈ ps, p.1.size ≤ maxLen) := by
  rcases open_slice_fields ht he hone (by simpa using hC) hf with ⟨hcs, _⟩ | ⟨a, len, cap, m, D, Pl, hcs, _, hl, hm, hmm, _, hi⟩
  · exact ⟨none, 0, 0, [], by simpa using hcs, ⟨rfl, fun h => absurd h (by omega)⟩, Nat.zero_le _, by simp⟩
  · have each : ∀ i, i < len → ∃ p : ByteArray × Int, W.cell? (a.add (i * 2)) = some (.string p.1) ∧ W.cell? (a.add (i * 2 + 1)) = some (.int .i64 p.2) ∧ p.1.size ≤ maxLen := by
      intro i hil
      obtain ⟨ys, k, _, _, _, hfs⟩ := hi i (by rw [hmm]; split <;> omega)
      obtain ⟨v0, y0, hc0, _, ht0⟩ := hfs 0 f0 rfl
      obtain ⟨v1, y1, hc1, _, ht1⟩ := hfs 1 f1 rfl
      rw [e0] at ht0
      rw [e1] at ht1
      obtain ⟨s, hs, _, hsl⟩ := DataW.trod_string Tryd.underlying9 ht0
      obtain ⟨z, hz, _⟩ := DataW.trod_int Tryd.underlying3 ht1
      obtain rfl : v0 = .string s := by simpa using hs
      obtain rfl : v1 = .int .i64 z := by simpa using hz
      exact ⟨(s, z), by simpa using hc0, by simpa using hc1, hsl⟩
    have pick : ∃ f : Nat → ByteArray × Int, ∀ i, i < len → W.cell? (a.add (i * 2)) = some (.string (f i).1) ∧ W.cell? (a.add (i * 2 + 1)) = some (.int .i64 (f i).2) ∧ (f i).1.size ≤ maxLen :=
      ⟨fun i => if h : i < len then (each i h).choose else (⟨#[]⟩, 0), fun i h => by simp only [dif_pos h]; exact (each i h).choose_spec⟩
    obtain ⟨f, hfi⟩ := pick
    refine ⟨some a, len, cap, (List.range len).map f, by simpa using hcs, ⟨by simp, fun h0 => ?_⟩, by omega, ?_⟩
    · obtain ⟨b, o, spot⟩ := a
      have hspot : spot = none := by simpa [Addr.add] using World.cell?_spot (hfi 0 h0).1
      subst hspot
      refine ⟨b, o, rfl, ?_, fun j p hp => ?_⟩
      · have := World.block_lt_of_cell? W _ (hfi 0 h0).1
        rw [block_of_add] at this
        exact this
      · rw [List.getElem?_map, Option.map_eq_some_iff] at hp
        obtain ⟨i, hi1, rfl⟩ := hp
        have hj : j < len := by
          have := (List.getElem?_eq_some_iff.1 hi1).1
          simpa using this
        have hji : i = j := by
          rw [List.getElem?_range hj] at hi1
          exact (Option.some.inj hi1).symm
        subst hji
        have h2 := hfi i hj
        rw [Go.WideShapes.add_plain, Go.WideShapes.add_plain] at h2
        exact ⟨h2.1, h2.2.1⟩
    · intro p hp
      rw [List.mem_map] at hp
      obtain ⟨i, hi1, rfl⟩ := hp
      exact (hfi i (List.mem_range.1 hi1)).2.2
theorem cells58 : Tryd.prog.cellsOf 58 = 2 := by kernel_rfl
set_option maxRecDepth 100000 in
/-- A slice of parts that came in. -/
theorem open_parts {H : Type} {enc : TypeId × Value → H} {W : World} {base : Nat} {v : Value} {d : DataW H} {p : List MemPlace} (hv : Value.okWide Tryd.prog W .any base 32 v) (h : DataW.Trod enc Tryd.prog W 0 (fun _ => true) true 32 v d p) :
    ∃ (A : Option Addr) (n c : Nat) (ps : List (ByteArray × Int)), v = .slice A n c ∧ Parts .i64 W W.heap.size A n ps ∧ n ≤ maxLen ∧ (∀ p ∈ ps, p.1.size ≤ maxLen) := by
  obtain ⟨a0, len, cap, rfl⟩ := okWide_slice Tryd.underlying32 hv
  obtain ⟨fuel, hf⟩ := h
  exact parts_of_slice Tryd.underlying32 Tryd.underlying58 (by kernel_rfl) cells58 rfl rfl hf
end Go.Proofs.YtnpghnipjienoaaDoor
