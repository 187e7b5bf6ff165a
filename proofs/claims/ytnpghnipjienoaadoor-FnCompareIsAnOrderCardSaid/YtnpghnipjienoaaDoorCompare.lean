/-
  The contract of impl.Compare.
-/
import Derived.Test.YtnpghnipjienoaaDoorSemver
import Derived.Test.YtnpghnipjienoaaDoorLawText
import Derived.Deep.RegionHeld3
namespace Go.Proofs.YtnpghnipjienoaaDoor
open Go Go.RowKit Go.Sort

/-- Two boxes of versions, with all that was there. -/
def HeldV (w0 : World) (g h : Nat) (a0 a1 b0 b1 : Value) (w' : World) : Prop :=
  Below w0.heap.size w0 w' ∧ w'.cell? ⟨g, 0, none⟩ = some a0 ∧ w'.cell? ⟨g, 1, none⟩ = some a1 ∧ w'.cell? ⟨h, 0, none⟩ = some b0 ∧ w'.cell? ⟨h, 1, none⟩ = some b1
theorem HeldV.next {w0 w w' : World} {g h : Nat} {a0 a1 b0 b1 : Value} (x : HeldV w0 g h a0 a1 b0 b1 w) (hb : Below w.heap.size w w') : HeldV w0 g h a0 a1 b0 b1 w' := by
  obtain ⟨hb0, c0, c1, d0, d1⟩ := x
  have k : ∀ (p : Addr) (v : Value), w.cell? p = some v → w'.cell? p = some v := fun p v hp => (hb.cell (block_lt_of_cell hp)).trans hp
  exact ⟨below_call hb0 hb (Nat.le_refl _), k _ _ c0, k _ _ c1, k _ _ d0, k _ _ d1⟩
theorem HeldV.drew {w0 w : World} {g h : Nat} {a0 a1 b0 b1 : Value} (x : HeldV w0 g h a0 a1 b0 b1 w) : HeldV w0 g h a0 a1 b0 b1 w.drew := ⟨x.1.drew, x.2⟩
theorem HeldV.one {w0 w : World} {g h : Nat} {a0 a1 b0 b1 : Value} (x : HeldV w0 g h a0 a1 b0 b1 w) : Below w0.heap.size w0 w := x.1

/-- What the two sentinels hold. -/
def Sent (w : World) : Prop := (∃ ev, w.cell? ⟨2, 0, none⟩ = some ev ∧ (ev = .nilIface ∨ ∃ te pe, ev = .iface te pe)) ∧ ∃ ev, w.cell? ⟨3, 0, none⟩ = some ev ∧ (ev = .nilIface ∨ ∃ te pe, ev = .iface te pe)
theorem Sent.keep {w w' : World} (h : Sent w) (hb : Below w.heap.size w w') : Sent w' := by
  obtain ⟨⟨e2, h2, k2⟩, e3, h3, k3⟩ := h
  exact ⟨⟨e2, (hb.cell (block_lt_of_cell h2)).trans h2, k2⟩, e3, (hb.cell (block_lt_of_cell h3)).trans h3, k3⟩

/-- A version of which the statements speak. -/
structure GoodV (w : World) (A : Option Addr) (n : Nat) (zs : List Int) (t : ByteArray) : Prop where
  reads : Reads w w.heap.size 1 A n (ints zs)
  nums : ∀ z ∈ zs, 0 ≤ z ∧ z ≤ 1000000000
  le : n ≤ 100
  tail : t.size ≤ 2147483647
theorem GoodV.keep {w w' : World} {A : Option Addr} {n : Nat} {zs : List Int} {t : ByteArray} (h : GoodV w A n zs t) (hb : Below w.heap.size w w') : GoodV w' A n zs t := ⟨(h.reads.below hb).more hb.size, h.nums, h.le, h.tail⟩

theorem semver_good (A1 A2 : Option Addr) (n1 n2 c1 c2 : Nat) (zs1 zs2 : List Int) (t1 t2 : ByteArray) (w : World) (g1 : GoodV w A1 n1 zs1 t1) (g2 : GoodV w A2 n2 zs2 t2) (hs : Sent w) :
    Calls Tryd.prog 44 #[.agg #[.slice A1 n1 c1, .string t1], .agg #[.slice A2 n2 c2, .string t2]] w (SemPost (zs1, t1.data.toList) (zs2, t2.data.toList) w) := by
  obtain ⟨⟨e2, h2, k2⟩, e3, h3, k3⟩ := hs
  exact semver_any A1 A2 n1 n2 c1 c2 zs1 zs2 t1 t2 w g1.reads g2.reads g1.nums g2.nums g1.le g2.le g1.tail g2.tail e2 e3 h2 k2 h3 k3

theorem clamp (r : Int) : max (-1) (min 1 r) = r.sign := by
  rcases Int.lt_trichotomy r 0 with h | h | h
  · rw [Int.sign_eq_neg_one_of_neg h]; omega
  · subst h; rfl
  · rw [Int.sign_eq_one_of_pos h]; omega

set_option maxHeartbeats 4000000 in
set_option maxRecDepth 100000 in
theorem compare_any (A1 A2 : Option Addr) (n1 n2 c1 c2 : Nat) (zs1 zs2 : List Int) (t1 t2 : ByteArray) (w : World) (g1 : GoodV w A1 n1 zs1 t1) (g2 : GoodV w A2 n2 zs2 t2) (hs : Sent w) :
    Calls Tryd.prog 30 #[.agg #[.slice A1 n1 c1, .string t1], .agg #[.slice A2 n2 c2, .string t2]] w fun e w' => e = .returned (.int .i64 (verC (zs1, t1.data.toList) (zs2, t2.data.toList)).sign) ∧ Below w.heap.size w w' := by
  have G1 := Lib.hid g1
  have G2 := Lib.hid g2
  have HS := Lib.hid hs
  clear g1 g2 hs
  have hbA : Below w.heap.size w ((w.alloc (.cells #[.slice A1 n1 c1, .string t1] 24)).alloc (.cells #[.slice A2 n2 c2, .string t2] 24)) := ((Below.refl _ _).alloc (Nat.le_refl _) _).alloc (by simp) _
  have hkA : Blk ((w.alloc (.cells #[.slice A1 n1 c1, .string t1] 24)).alloc (.cells #[.slice A2 n2 c2, .string t2] 24)) w.heap.size 24 #[.slice A1 n1 c1, .string t1] := (Blk.new _ _ _).alloc _
  have hkB : Blk ((w.alloc (.cells #[.slice A1 n1 c1, .string t1] 24)).alloc (.cells #[.slice A2 n2 c2, .string t2] 24)) (w.heap.size + 1) 24 #[.slice A2 n2 c2, .string t2] := by
    have h := Blk.new (w.alloc (.cells #[.slice A1 n1 c1, .string t1] 24)) 24 #[.slice A2 n2 c2, .string t2]
    have e : (w.alloc (.cells #[.slice A1 n1 c1, .string t1] 24)).heap.size = w.heap.size + 1 := by simp
    rw [e] at h
    exact h
  have HBA := Lib.hid hbA
  have hstart : HeldV ((w.alloc (.cells #[.slice A1 n1 c1, .string t1] 24)).alloc (.cells #[.slice A2 n2 c2, .string t2] 24)) w.heap.size (w.heap.size + 1) (.slice A1 n1 c1) (.string t1) (.slice A2 n2 c2) (.string t2) ((w.alloc (.cells #[.slice A1 n1 c1, .string t1] 24)).alloc (.cells #[.slice A2 n2 c2, .string t2] 24)).drew :=
    HeldV.drew ⟨Below.refl _ _, hkA.cell 0, hkA.cell 1, hkB.cell 0, hkB.cell 1⟩
  have HST := Lib.hid hstart
  clear hbA hkA hkB hstart
  go_enter Tryd.func30, Tryd.ntmps30
  go_wp2_with fail
  generalize ((w.alloc (.cells #[.slice A1 n1 c1, .string t1] 24)).alloc (.cells #[.slice A2 n2 c2, .string t2] 24)) = w0 at HBA HST ⊢
  have hstart := HST.out
  clear HST
  have HG1 := Lib.hid (G1.out.keep HBA.out)
  go_region_held3 (fun w' => Below w0.heap.size w0 w' ∧ w'.cell? ⟨w.heap.size, 0, none⟩ = some (.slice A1 n1 c1) ∧ w'.cell? ⟨w.heap.size, 1, none⟩ = some (.string t1) ∧ w'.cell? ⟨w.heap.size + 1, 0, none⟩ = some (.slice A2 n2 c2) ∧ w'.cell? ⟨w.heap.size + 1, 1, none⟩ = some (.string t2))
    (first | exact HeldV.next (by assumption) hbl | exact hstart)
    (first
      | (go_at_call 32; refine (implOf _ _ _ _ _).mono ?_; rintro e w7 ⟨rfl, hbl⟩)
      | (go_at_call 44; refine (semver_good A1 A2 n1 n2 c1 c2 zs1 zs2 t1 t2 _ (G1.out.keep (below_call HBA.out (HeldV.one (by assumption)) (Nat.le_refl _))) (G2.out.keep (below_call HBA.out (HeldV.one (by assumption)) (Nat.le_refl _))) (HS.out.keep (below_call HBA.out (HeldV.one (by assumption)) (Nat.le_refl _)))).mono ?_; rintro e w7 ⟨r, rfl, hsg, hbd, hbl⟩; have HSG := Lib.hid hsg; clear hsg))
  all_goals go_wp2_with fail
  all_goals go_ret
  all_goals refine ⟨?_, below_call HBA.out (HeldV.one (by assumption)) (Nat.le_refl _)⟩
  all_goals rw [← HSG.out, ← clamp]
  all_goals rfl
end Go.Proofs.YtnpghnipjienoaaDoor
