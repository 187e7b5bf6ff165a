/-
  The contracts of PathPlaceholders.Get and of the laws' zzFits6; plain: what a template becomes when some kinds are told.
-/
import Derived.Test.YtnpghnipjienoaaDoorWritten
namespace Go.Proofs.YtnpghnipjienoaaDoor
open Go Go.RowKit Go.Sort

/-- One of four, by a kind from 1 to 4. -/
def pick {α : Type} (none_ a b c d : α) (z : Int) : α := if z = 1 then a else if z = 2 then b else if z = 3 then c else if z = 4 then d else none_

set_option maxHeartbeats 1000000 in
set_option maxRecDepth 100000 in
theorem get_any (a b c d : Option Addr) (z : Int) (h0 : 0 ≤ z) (h4 : z ≤ 4) (w : World) :
    Calls Tryd.prog 51 #[.agg #[.pointer a, .pointer b, .pointer c, .pointer d], .int .u8 z] w fun e w' => e = .returned (.pointer (pick none a b c d z)) ∧ Below w.heap.size w w' := by
  rcases (show z = 0 ∨ z = 1 ∨ z = 2 ∨ z = 3 ∨ z = 4 by omega) with rfl | rfl | rfl | rfl | rfl
  all_goals
    clear h0 h4
    go_enter Tryd.func51, Tryd.ntmps51
    go_wp2_with fail
    go_ret
    exact ⟨rfl, (Below.refl _ _).alloc (Nat.le_refl _) _⟩

/-- All four texts are not longer than the bound. -/
def fits4 (a b c d : ByteArray) : Bool := decide (a.size ≤ 2147483647) && decide (b.size ≤ 2147483647) && decide (c.size ≤ 2147483647) && decide (d.size ≤ 2147483647)
theorem fits4_iff (a b c d : ByteArray) : fits4 a b c d = true ↔ a.size ≤ 2147483647 ∧ b.size ≤ 2147483647 ∧ c.size ≤ 2147483647 ∧ d.size ≤ 2147483647 := by
  simp [fits4, and_assoc]

theorem index54_0 (a b c d : ByteArray) : ∀ w, (Instr.index 54 (.agg #[.string a, .string b, .string c, .string d]) (.int .i64 0)).run Tryd.prog w = .ok (.string a) w := fun _ => by kernel_rfl
theorem index54_1 (a b c d : ByteArray) : ∀ w, (Instr.index 54 (.agg #[.string a, .string b, .string c, .string d]) (.int .i64 1)).run Tryd.prog w = .ok (.string b) w := fun _ => by kernel_rfl
theorem index54_2 (a b c d : ByteArray) : ∀ w, (Instr.index 54 (.agg #[.string a, .string b, .string c, .string d]) (.int .i64 2)).run Tryd.prog w = .ok (.string c) w := fun _ => by kernel_rfl
theorem index54_3 (a b c d : ByteArray) : ∀ w, (Instr.index 54 (.agg #[.string a, .string b, .string c, .string d]) (.int .i64 3)).run Tryd.prog w = .ok (.string d) w := fun _ => by kernel_rfl

set_option maxHeartbeats 2000000 in
set_option maxRecDepth 100000 in
theorem zzFits6_any (a b c d : ByteArray) (w : World) (ha : a.size ≤ 9223372036854775807) (hb : b.size ≤ 9223372036854775807) (hc : c.size ≤ 9223372036854775807) (hd : d.size ≤ 9223372036854775807) :
    Calls Tryd.prog 27 #[.agg #[.string a, .string b, .string c, .string d]] w fun e w' => e = .returned (.bool (fits4 a b c d)) ∧ Below w.heap.size w w' := by
  have i0 := index54_0 a b c d
  have i1 := index54_1 a b c d
  have i2 := index54_2 a b c d
  have i3 := index54_3 a b c d
  go_enter Tryd.func27, Tryd.ntmps27
  go_wp2_with fail
  have hb0 : Below w.heap.size w (w.alloc (.cells #[.string a, .string b, .string c, .string d] 54)) := (Below.refl _ _).alloc (Nat.le_refl _) _
  generalize (w.alloc (.cells #[.string a, .string b, .string c, .string d] 54)) = w0 at hb0 ⊢
  go_loop [6] (fun i => ∃ k : Nat, k ≤ 4 ∧ i = .int .i64 k ∧ (1 ≤ k → a.size ≤ 2147483647) ∧ (2 ≤ k → b.size ≤ 2147483647) ∧ (3 ≤ k → c.size ≤ 2147483647) ∧ (4 ≤ k → d.size ≤ 2147483647)) (fun i => 4 - (intOf i).toNat)
  case atStart => exact ⟨0, by omega, rfl, by omega, by omega, by omega, by omega⟩
  case round =>
    obtain ⟨k, hk, rfl, h1, h2, h3, h4⟩ := hrel
    have H1 := Lib.hid h1
    have H2 := Lib.hid h2
    have H3 := Lib.hid h3
    have H4 := Lib.hid h4
    clear h1 h2 h3 h4
    rcases (show k = 0 ∨ k = 1 ∨ k = 2 ∨ k = 3 ∨ k = 4 by omega) with rfl | rfl | rfl | rfl | rfl
    · by_cases hx : 2147483647 < a.size
      · go_wp2_with fail
        go_ret
        exact ⟨ret_bool (by rw [Eq.comm, Bool.eq_false_iff, ne_eq, fits4_iff]; omega), hb0⟩
      · go_wp2_with fail
        go_round
        case rel => exact ⟨1, by omega, rfl, by omega, by omega, by omega, by omega⟩
        case measure => simp [intOf]
    · by_cases hx : 2147483647 < b.size
      · go_wp2_with fail
        go_ret
        exact ⟨ret_bool (by rw [Eq.comm, Bool.eq_false_iff, ne_eq, fits4_iff]; omega), hb0⟩
      · go_wp2_with fail
        go_round
        case rel =>
          have h1 := H1.out (by omega)
          exact ⟨2, by omega, rfl, by omega, by omega, by omega, by omega⟩
        case measure => simp [intOf]
    · by_cases hx : 2147483647 < c.size
      · go_wp2_with fail
        go_ret
        exact ⟨ret_bool (by rw [Eq.comm, Bool.eq_false_iff, ne_eq, fits4_iff]; omega), hb0⟩
      · go_wp2_with fail
        go_round
        case rel =>
          have h1 := H1.out (by omega)
          have h2 := H2.out (by omega)
          exact ⟨3, by omega, rfl, by omega, by omega, by omega, by omega⟩
        case measure => simp [intOf]
    · by_cases hx : 2147483647 < d.size
      · go_wp2_with fail
        go_ret
        exact ⟨ret_bool (by rw [Eq.comm, Bool.eq_false_iff, ne_eq, fits4_iff]; omega), hb0⟩
      · go_wp2_with fail
        go_round
        case rel =>
          have h1 := H1.out (by omega)
          have h2 := H2.out (by omega)
          have h3 := H3.out (by omega)
          exact ⟨4, by omega, rfl, by omega, by omega, by omega, by omega⟩
        case measure => simp [intOf]
    · have h1 := H1.out (by omega)
      have h2 := H2.out (by omega)
      have h3 := H3.out (by omega)
      have h4 := H4.out (by omega)
      go_wp2_with fail
      go_ret
      exact ⟨ret_bool (by rw [Eq.comm, fits4_iff]; exact ⟨h1, h2, h3, h4⟩), hb0⟩

/-- What is told of a kind; nothing of kind 0. -/
def orT (T T' : Int → Option (List UInt8)) : Int → Option (List UInt8) := fun z => (T z).or (T' z)
/-- A template as it is written when some kinds are told. -/
def filledT (T : Int → Option (List UInt8)) (ps : List (ByteArray × Int)) : List UInt8 := ps.flatMap fun p => p.1.data.toList ++ (T p.2).getD (nameOf p.2)
theorem filledT_append (T : Int → Option (List UInt8)) (a b : List (ByteArray × Int)) : filledT T (a ++ b) = filledT T a ++ filledT T b := by simp [filledT]
theorem filledT_one (T : Int → Option (List UInt8)) (p : ByteArray × Int) : filledT T [p] = p.1.data.toList ++ (T p.2).getD (nameOf p.2) := by simp [filledT]
theorem filledT_none (ps : List (ByteArray × Int)) : filledT (fun _ => none) ps = writtenT ps := rfl
/-- The texts' bytes together. -/
def tot (ps : List (ByteArray × Int)) : Nat := (ps.map fun p => p.1.size).sum
theorem tot_append (a b : List (ByteArray × Int)) : tot (a ++ b) = tot a + tot b := by simp [tot]
theorem tot_one (p : ByteArray × Int) : tot [p] = p.1.size := by simp [tot]
theorem writtenT_tot (ps : List (ByteArray × Int)) : (writtenT ps).length ≤ tot ps + 6 * ps.length := by
  induction ps with
  | nil => simp [writtenT, tot]
  | cons x r ih =>
    have e : writtenT (x :: r) = (x.1.data.toList ++ nameOf x.2) ++ writtenT r := rfl
    have e2 : tot (x :: r) = x.1.size + tot r := by simp [tot]
    have := nameOf_len x.2
    rw [e, e2, List.length_append, List.length_append, size_list, List.length_cons]
    omega

/-- 'qs' is what 'ps' becomes when T is told: whatever else is told later, it is written as ps is with both told; nothing that T tells is left. -/
structure Told (T : Int → Option (List UInt8)) (ps qs : List (ByteArray × Int)) : Prop where
  same : ∀ T' : Int → Option (List UInt8), T' 0 = none → filledT T' qs = filledT (orT T T') ps
  kinds : ∀ q ∈ qs, 0 ≤ q.2 ∧ q.2 ≤ 4 ∧ T q.2 = none
  length : qs.length ≤ ps.length

/-- One part, with what is told of its kind. -/
def tellOne (T : Int → Option (List UInt8)) (p : ByteArray × Int) : ByteArray × Int := match T p.2 with | some t => (p.1 ++ ⟨t.toArray⟩, 0) | none => p

theorem told_one {T : Int → Option (List UInt8)} (h0 : T 0 = none) (p : ByteArray × Int) (hp : 0 ≤ p.2 ∧ p.2 ≤ 4) : (∀ T' : Int → Option (List UInt8), T' 0 = none → filledT T' [tellOne T p] = filledT (orT T T') [p]) ∧ (0 ≤ (tellOne T p).2 ∧ (tellOne T p).2 ≤ 4 ∧ T (tellOne T p).2 = none) := by
  cases h : T p.2 with
  | none =>
    have e : tellOne T p = p := by simp [tellOne, h]
    rw [e]
    refine ⟨fun T' _ => ?_, hp.1, hp.2, h⟩
    rw [filledT_one, filledT_one, orT, h]
    rfl
  | some t =>
    have e : tellOne T p = (p.1 ++ ⟨t.toArray⟩, 0) := by simp [tellOne, h]
    rw [e]
    refine ⟨fun T' h' => ?_, Int.le_refl 0, show (0 : Int) ≤ 4 by decide, h0⟩
    rw [filledT_one, filledT_one, orT, h]
    simp [h', nameOf]

theorem Told.nil (T : Int → Option (List UInt8)) : Told T [] [] := ⟨fun _ _ => rfl, by simp, Nat.le_refl _⟩
/-- The next part goes behind. -/
theorem Told.push {T : Int → Option (List UInt8)} (h0 : T 0 = none) {ps qs : List (ByteArray × Int)} (h : Told T ps qs) (p : ByteArray × Int) (hp : 0 ≤ p.2 ∧ p.2 ≤ 4) : Told T (ps ++ [p]) (qs ++ [tellOne T p]) := by
  obtain ⟨h1, h2⟩ := told_one h0 p hp
  refine ⟨fun T' h' => ?_, fun q hq => ?_, by simp; exact h.length⟩
  · rw [filledT_append, filledT_append, h.same T' h', h1 T' h']
  · rw [List.mem_append, List.mem_singleton] at hq
    rcases hq with hq | rfl
    · exact h.kinds q hq
    · exact h2
/-- The next part is joined to a last one behind which nothing stands. -/
theorem Told.join {T : Int → Option (List UInt8)} (h0 : T 0 = none) {ps qs : List (ByteArray × Int)} {s : ByteArray} (h : Told T ps (qs ++ [(s, 0)])) (p : ByteArray × Int) (hp : 0 ≤ p.2 ∧ p.2 ≤ 4) :
    Told T (ps ++ [p]) (qs ++ [(s ++ (tellOne T p).1, (tellOne T p).2)]) := by
  obtain ⟨h1, h2⟩ := told_one h0 p hp
  refine ⟨fun T' h' => ?_, fun q hq => ?_, by have := h.length; simp at this ⊢; omega⟩
  · have a := h.same T' h'
    have b := h1 T' h'
    rw [filledT_append, filledT_append, ← a, ← b, filledT_append]
    simp only [filledT_one, h']
    simp [nameOf]
  · rw [List.mem_append, List.mem_singleton] at hq
    rcases hq with hq | rfl
    · exact h.kinds q (by simp [hq])
    · exact h2
/-- Nothing to tell: the template as it is. -/
theorem Told.same_ {T : Int → Option (List UInt8)} {ps : List (ByteArray × Int)} (h : ∀ p ∈ ps, 0 ≤ p.2 ∧ p.2 ≤ 4 ∧ T p.2 = none) : Told T ps ps := by
  refine ⟨fun T' _ => ?_, h, Nat.le_refl _⟩
  unfold filledT
  rw [List.flatMap_def, List.flatMap_def]
  congr 1
  refine List.map_congr_left fun p hp => ?_
  rw [orT, (h p hp).2.2]
  rfl
theorem tellOne_size {T : Int → Option (List UInt8)} {M : Nat} (hM : ∀ z t, T z = some t → t.length ≤ M) (p : ByteArray × Int) : (tellOne T p).1.size ≤ p.1.size + M := by
  unfold tellOne
  cases h : T p.2 with
  | none => simp
  | some t =>
    have := hM _ _ h
    simp [ByteArray.size_append]
    simpa [ByteArray.size] using this
end Go.Proofs.YtnpghnipjienoaaDoor
