/-
  The walk of the law FnText.
-/
import Derived.Test.YtnpghnipjienoaaDoorAre
import Derived.Test.YtnpghnipjienoaaDoorImplWritten
namespace Go.Proofs.YtnpghnipjienoaaDoor
open Go Go.RowKit Go.Sort

theorem VersIn.one (w : World) (v : Ver) : VersIn (w.alloc (.cells #[.slice v.A v.n v.c, .string v.tail] 24)) (w.alloc (.cells #[.slice v.A v.n v.c, .string v.tail] 24)).heap.size (some ⟨w.heap.size, 0, none⟩) 1 [v] := by
  refine ⟨rfl, fun _ => ⟨_, _, rfl, by simp, fun j p hp => ?_⟩⟩
  match j, hp with
  | 0, hp =>
    simp at hp; subst hp
    exact ⟨Lib.cell_of_heap (heap_alloc_new w _) 0, Lib.cell_of_heap (heap_alloc_new w _) 1⟩
  | j + 1, hp => simp at hp

set_option maxHeartbeats 2000000 in
set_option maxRecDepth 100000 in
theorem textLaw (A : Option Addr) (n c : Nat) (zs : List Int) (tail : ByteArray) (w : World) (hr : Reads w w.heap.size 1 A n (ints zs)) (hn : n ≤ 9223372036854775807) (ht : tail.size ≤ 9223372036854775807)
    (hT : Lib.TabIs Tryd.prog w "internal/strconv.uint64pow10" .u64 Lib.pow10Tab) :
    Calls Tryd.prog 3 #[.agg #[.slice A n c, .string tail]] w fun e w' => e = .returned (.bool true) ∧ Below w.heap.size w w' := by
  have HL := Lib.hid hr.1
  go_enter Tryd.func3, Tryd.ntmps3
  go_wp2_with fail
  have hb0 : Below w.heap.size w (w.alloc (.cells #[.slice A n c, .string tail] 24)) := (Below.refl _ _).alloc (Nat.le_refl _) _
  have c0 : (w.alloc (.cells #[.slice A n c, .string tail] 24)).cell? ⟨w.heap.size, 0, none⟩ = some (.slice A n c) := Lib.cell_of_heap (heap_alloc_new w _) 0
  have c1 : (w.alloc (.cells #[.slice A n c, .string tail] 24)).cell? ⟨w.heap.size, 1, none⟩ = some (.string tail) := Lib.cell_of_heap (heap_alloc_new w _) 1
  have hs0 : w.heap.size < (w.alloc (.cells #[.slice A n c, .string tail] 24)).heap.size := by simp
  generalize (w.alloc (.cells #[.slice A n c, .string tail] 24)) = w0 at hb0 c0 c1 hs0 ⊢
  refine (zzFits1_any A n c tail _ hn ht).mono ?_
  by_cases hfit : n ≤ 2147483647 ∧ tail.size ≤ 2147483647
  · rw [decide_eq_true hfit.1, decide_eq_true hfit.2]
    rintro e w1 ⟨rfl, hbl⟩
    obtain ⟨hn, ht⟩ := hfit
    have hb1 := below_call hb0 hbl (Nat.le_refl _)
    have d0 : w1.cell? ⟨w.heap.size, 0, none⟩ = some (.slice A n c) := (hbl.cell (by exact hs0)).trans c0
    have d1 : w1.cell? ⟨w.heap.size, 1, none⟩ = some (.string tail) := (hbl.cell (by exact hs0)).trans c1
    have hs1 : w.heap.size < w1.heap.size := Nat.lt_of_lt_of_le hs0 hbl.size
    clear hbl c0 c1 hb0 hs0
    go_wp2_with fail
    have hb2 := below_alloc hb1 (Nat.le_refl _) (.cells #[.slice A n c, .string tail] 24)
    refine (are_any _ 1 1 [⟨A, n, c, zs, tail⟩] _ (VersIn.one w1 ⟨A, n, c, zs, tail⟩) (by omega) (by
      intro v hv
      rw [List.mem_singleton] at hv
      subst hv
      exact ⟨(hr.below hb2).more hb2.size, hn⟩)).mono ?_
    rw [show okVers [(⟨A, n, c, zs, tail⟩ : Ver)] = okNums zs by simp [okVers]]
    cases hok : okNums zs with
    | true =>
      have HOK := Lib.hid ((okNums_iff zs).1 hok)
      clear hok
      rintro e w2 ⟨rfl, hbl⟩
      have hb3 := below_call hb2 hbl (Nat.le_refl _)
      have hlt1 : w.heap.size < (w1.alloc (.cells #[.slice A n c, .string tail] 24)).heap.size := by simp; omega
      have e0 : w2.cell? ⟨w.heap.size, 0, none⟩ = some (.slice A n c) := (hbl.cell (by exact hlt1)).trans ((World.cell?_alloc_lt _ _ _ (by exact hs1)).trans d0)
      have e1 : w2.cell? ⟨w.heap.size, 1, none⟩ = some (.string tail) := (hbl.cell (by exact hlt1)).trans ((World.cell?_alloc_lt _ _ _ (by exact hs1)).trans d1)
      have hs2 : w.heap.size < w2.heap.size := Nat.lt_of_lt_of_le hlt1 hbl.size
      clear hbl hb1 hb2 hlt1 d0 d1 hs1
      go_wp2_with fail
      obtain ⟨s, hsd⟩ : ∃ s : ByteArray, s = ⟨(written zs tail.data.toList).toArray⟩ := ⟨_, rfl⟩
      have hR : ∀ d os, Reads (grow (redrawn w2 d) os) (grow (redrawn w2 d) os).heap.size 1 A n (ints zs) := fun d os => (hr.below (below_call hb3 (below_regrown w2 d os) (Nat.le_refl _))).more (Nat.le_trans hb3.size (below_regrown w2 d os).size)
      have hTb : ∀ d os, Lib.TabIs Tryd.prog (grow (redrawn w2 d) os) "internal/strconv.uint64pow10" .u64 Lib.pow10Tab := fun d os => tabOn hT (below_call hb3 (below_regrown w2 d os) (Nat.le_refl _)) (Nat.le_refl _)
      have k0 := fun d os => cell_regrown e0 d os
      have k1 := fun d os => cell_regrown e1 d os
      have hn100 : n ≤ 100 := by have := HL.out; have := HOK.out.2; simp at *; omega
      have cT : Hid (∀ d os, Calls Tryd.prog 14 #[.agg #[.slice A n c, .string tail]] (grow (redrawn w2 d) os) fun e w'' => e = .returned (.string s) ∧ ∃ p : Regrown, w'' = grow (redrawn w2 p.d) p.os) := fun d os => Calls.regrown_of (by rw [hsd]; exact impl_Text A n c zs tail _ (hR d os) HOK.out.1 hn100 ht (hTb d os))
      have cO : Hid (∀ d os, Calls Tryd.prog 16 #[.agg #[.slice A n c, .string tail]] (grow (redrawn w2 d) os) fun e w'' => e = .returned (.agg #[.slice A n c, .string tail]) ∧ ∃ p : Regrown, w'' = grow (redrawn w2 p.d) p.os) := fun d os => Calls.regrown_of (lawsOf A n c tail _)
      have cS : Hid (∀ d os, Calls Tryd.prog 15 #[.agg #[.slice A n c, .string tail]] (grow (redrawn w2 d) os) fun e w'' => e = .returned (.string s) ∧ ∃ p : Regrown, w'' = grow (redrawn w2 p.d) p.os) := fun d os => Calls.regrown_of (by rw [hsd]; exact spec_Text A n c zs tail _ (hR d os) HOK.out.1 hn100 ht)
      have cW : Hid (∀ d os, Calls Tryd.prog 13 #[] (grow (redrawn w2 d) os) fun e w'' => e = .returned (.bool true) ∧ ∃ p : Regrown, w'' = grow (redrawn w2 p.d) p.os) := fun d os => Calls.regrown_of (wakes_any _ (hTb d os))
      clear hR hTb e0 e1 hsd
      refine wp_region_quiet_below (by kernel_rfl) (by kernel_rfl) ?_
      repeat (quiet_step (first | exact cT.out _ _ | exact cO.out _ _ | exact cS.out _ _ | exact cW.out _ _))
      refine wpQuiet_nil ?_
      intro _ hw'
      obtain ⟨⟨dq, osq⟩, hw''⟩ := hw'
      subst hw''
      have hb4 := below_call hb3 (below_regrown w2 dq osq) (Nat.le_refl _)
      generalize (grow (redrawn w2 dq) osq) = wb at hb4 ⊢
      go_wp2
      go_ret
      exact ⟨rfl, hb4⟩
    | false =>
      clear hok
      rintro e w2 ⟨rfl, hbl⟩
      have hb3 := below_call hb2 hbl (Nat.le_refl _)
      clear hbl hb1 hb2 d0 d1
      go_wp2_with fail
      refine (wakes_any _ (tabOn hT hb3 (Nat.le_refl _))).mono ?_
      rintro e w4 ⟨rfl, hbl⟩
      have hb4 := below_call hb3 hbl (Nat.le_refl _)
      clear hbl
      go_wp2_with fail
      go_ret
      exact ⟨rfl, hb4⟩
  · rw [show (decide (n ≤ 2147483647) && decide (tail.size ≤ 2147483647)) = false by rw [Bool.eq_false_iff, ne_eq, Bool.and_eq_true, decide_eq_true_eq, decide_eq_true_eq]; exact hfit]
    rintro e w1 ⟨rfl, hbl⟩
    have hb1 := below_call hb0 hbl (Nat.le_refl _)
    clear hbl hb0 c0 c1 hfit
    go_wp2_with fail
    go_ret
    exact ⟨rfl, hb1⟩
end Go.Proofs.YtnpghnipjienoaaDoor
