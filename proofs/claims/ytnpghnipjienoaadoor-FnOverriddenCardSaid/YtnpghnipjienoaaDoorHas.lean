/-
  The walks of the laws FnHas and FnOverridden.
-/
import Derived.Test.YtnpghnipjienoaaDoorImplWritten
import Derived.Laws.BitsAllLaws
import Derived.Laws.BitsLemmas
namespace Go.Proofs.YtnpghnipjienoaaDoor
open Go Go.RowKit Go.Sort

theorem implHas (f x : Int) (w : World) :
    Calls Tryd.prog 22 #[.int .u64 f, .int .u64 x] w fun e w' => e = .returned (.bool (bits .and .u64 f x != 0)) ∧ w = w' := by
  go_enter Tryd.func22, Tryd.ntmps22
  go_wp2
  go_ret
  exact ⟨rfl, rfl⟩
theorem implOver (f o m : Int) (w : World) :
    Calls Tryd.prog 23 #[.int .u64 f, .int .u64 o, .int .u64 m] w fun e w' => e = .returned (.int .u64 (bits .or .u64 (bits .and .u64 f (bits .xor .u64 IntKind.u64.max m)) (bits .and .u64 o m))) ∧ w = w' := by
  go_enter Tryd.func23, Tryd.ntmps23
  go_wp2
  go_ret
  exact ⟨rfl, rfl⟩

set_option maxHeartbeats 1000000 in
set_option maxRecDepth 100000 in
theorem hasLaw (f : Nat) (_hf : f < 18446744073709551616) (j : Nat) (hj : j ≤ 63) (p : Nat) (b : Bool) (hp : IntKind.u64.wrap (2 ^ j) = (p : Int)) (hb : (bits .and .u64 (f : Int) (p : Int) != 0) = b) (hr : (bits .and .u64 ((f : Int) / 2 ^ j) 1 == 1) = b) (w : World) (hT : Lib.TabIs Tryd.prog w "internal/strconv.uint64pow10" .u64 Lib.pow10Tab) :
    Calls Tryd.prog 5 #[.int .u64 f, .int .i64 j] w fun e w' => e = .returned (.bool true) ∧ Below w.heap.size w w' := by
  have cH : ∀ d os, Calls Tryd.prog 22 #[.int .u64 f, .int .u64 p] (grow (redrawn w d) os) fun e w'' => e = .returned (.bool b) ∧ ∃ p : Regrown, w'' = grow (redrawn w p.d) p.os := fun d os => Calls.regrown_of ((implHas f p _).mono fun _ _ ⟨he, hw⟩ => ⟨by rw [he, hb], by rw [← hw]; exact Below.refl _ _⟩)
  have cW : ∀ d os, Calls Tryd.prog 13 #[] (grow (redrawn w d) os) fun e w'' => e = .returned (.bool true) ∧ ∃ p : Regrown, w'' = grow (redrawn w p.d) p.os := fun d os => Calls.regrown_of (wakes_any _ (tabOn hT (below_regrown w d os) (Nat.le_refl _)))
  clear hb
  go_enter Tryd.func5, Tryd.ntmps5
  go_wp2_with fail
  refine wp_region_quiet_below (by kernel_rfl) (by kernel_rfl) ?_
  repeat (quiet_step (first | exact cH _ _ | exact cW _ _))
  refine wpQuiet_nil ?_
  intro _ hw'
  obtain ⟨⟨dq, osq⟩, hw''⟩ := hw'
  subst hw''
  have hb2 := below_regrown w dq osq
  generalize (grow (redrawn w dq) osq) = wb at hb2 ⊢
  go_wp2
  go_ret
  exact ⟨rfl, hb2⟩

theorem and_two_pow_ne (f j : Nat) : (f &&& 2 ^ j != 0) = f.testBit j := by
  cases h : f.testBit j with
  | true =>
    rw [bne_iff_ne]
    intro h0
    have := congrArg (fun x => Nat.testBit x j) h0
    simp [Nat.testBit_and, h] at this
  | false =>
    rw [bne_eq_false_iff_eq]
    apply Nat.eq_of_testBit_eq
    intro i
    rw [Nat.testBit_and, Nat.testBit_two_pow, Nat.zero_testBit]
    by_cases e : j = i
    · subst e; rw [h]; rfl
    · simp [e]

theorem has_true (f : Nat) (hf : f < 18446744073709551616) (j : Nat) (hj : j ≤ 63) (w : World) (hT : Lib.TabIs Tryd.prog w "internal/strconv.uint64pow10" .u64 Lib.pow10Tab) :
    Calls Tryd.prog 5 #[.int .u64 f, .int .i64 j] w fun e w' => e = .returned (.bool true) ∧ Below w.heap.size w w' := by
  have h2 : (2 : Nat) ^ j < 18446744073709551616 := by
    have : (2 : Nat) ^ j ≤ 2 ^ 63 := Nat.pow_le_pow_right (by omega) hj
    omega
  have e2 : ((2 : Int) ^ j) = ((2 ^ j : Nat) : Int) := by simp
  refine hasLaw f hf j hj (2 ^ j) (f.testBit j) ?_ ?_ ?_ w hT
  · rw [e2, IntKind.wrap_u64]
    clear e2
    generalize (2 : Nat) ^ j = y at h2 ⊢
    omega
  · rw [u64_and_nat f _ hf h2, ← and_two_pow_ne f j]
    generalize f &&& 2 ^ j = y
    rcases Nat.eq_zero_or_pos y with h | h
    · subst h; rfl
    · have a : ((y : Int) != 0) = true := by rw [bne_iff_ne]; omega
      have b : (y != 0) = true := by rw [bne_iff_ne]; omega
      rw [a, b]
  · rw [e2, ← Int.natCast_ediv, show (1 : Int) = ((1 : Nat) : Int) from rfl, u64_and_nat _ 1 (Nat.lt_of_le_of_lt (Nat.div_le_self _ _) hf) (by omega)]
    rw [Nat.testBit, Nat.shiftRight_eq_div_pow]
    have h : ∀ x : Nat, (((x &&& 1 : Nat) : Int) == ((1 : Nat) : Int)) = (1 &&& x != 0) := by
      intro x
      rw [Nat.and_comm 1 x, Nat.and_one_is_mod]
      rcases Nat.mod_two_eq_zero_or_one x with h | h <;> simp [h]
    exact h _

theorem has_out (f : Nat) (i : Int) (hi : i < 0 ∨ 63 < i) (w : World) (hT : Lib.TabIs Tryd.prog w "internal/strconv.uint64pow10" .u64 Lib.pow10Tab) :
    Calls Tryd.prog 5 #[.int .u64 f, .int .i64 i] w fun e w' => e = .returned (.bool true) ∧ Below w.heap.size w w' := by
  rcases hi with hi | hi
  all_goals
    go_enter Tryd.func5, Tryd.ntmps5
    go_wp2_with (go_at_call 13; refine (wakes_any _ hT).mono ?_; rintro e w1 ⟨rfl, hb1⟩)
    go_ret
    exact ⟨rfl, hb1⟩

/-- What Overridden computes. -/
def over (f o m : Int) : Int := bits .or .u64 (bits .and .u64 f (bits .xor .u64 IntKind.u64.max m)) (bits .and .u64 o m)

set_option maxHeartbeats 1000000 in
theorem overLaw (f o m x : Int) (hx : over f o m = x) (hxx : over x o m = x) (e1 : (bits .andNot .u64 x m == bits .andNot .u64 f m) = true) (e2 : (bits .and .u64 x m == bits .and .u64 o m) = true) (w : World) (hT : Lib.TabIs Tryd.prog w "internal/strconv.uint64pow10" .u64 Lib.pow10Tab) :
    Calls Tryd.prog 6 #[.int .u64 f, .int .u64 o, .int .u64 m] w fun e w' => e = .returned (.bool true) ∧ Below w.heap.size w w' := by
  have c1 : Hid (∀ W, Calls Tryd.prog 23 #[.int .u64 f, .int .u64 o, .int .u64 m] W fun e w' => e = .returned (.int .u64 x) ∧ W = w') := fun W => (implOver f o m W).mono fun _ _ ⟨he, hw⟩ => ⟨by rw [he, ← hx]; rfl, hw⟩
  have c2 : Hid (∀ W, Calls Tryd.prog 23 #[.int .u64 x, .int .u64 o, .int .u64 m] W fun e w' => e = .returned (.int .u64 x) ∧ W = w') := fun W => (implOver x o m W).mono fun _ _ ⟨he, hw⟩ => ⟨by rw [he]; exact congrArg (fun y => Ending.returned (.int .u64 y)) hxx, hw⟩
  clear hx hxx
  go_enter Tryd.func6, Tryd.ntmps6
  go_wp2_with fail
  refine (c1.out _).mono ?_
  rintro e w' ⟨rfl, rfl⟩
  go_wp2_with fail
  refine (c2.out _).mono ?_
  rintro e w' ⟨rfl, rfl⟩
  go_wp2_with (go_at_call 13; refine (wakes_any _ hT).mono ?_; rintro e w1 ⟨rfl, hb1⟩)
  go_ret
  exact ⟨rfl, hb1⟩

theorem max_u64 : IntKind.u64.max = ((18446744073709551615 : Nat) : Int) := by decide
theorem xor_lt64 (a b : Nat) (ha : a < 2 ^ 64) (hb : b < 2 ^ 64) : a ^^^ b < 2 ^ 64 := Nat.xor_lt_two_pow ha hb
theorem ones_testBit (i : Nat) : Nat.testBit (2 ^ 64 - 1) i = decide (i < 64) := Nat.testBit_two_pow_sub_one 64 i
theorem sub_ones (m : Nat) (hm : m < 2 ^ 64) : 2 ^ 64 - 1 - m = (2 ^ 64 - 1) ^^^ m := by
  apply Nat.eq_of_testBit_eq
  intro i
  rw [Nat.testBit_xor, ones_testBit, Nat.sub_sub, Nat.add_comm 1 m, Nat.testBit_two_pow_sub_succ hm]
  by_cases h : i < 64
  · simp [h]
  · have : m.testBit i = false := Nat.testBit_lt_two_pow (Nat.lt_of_lt_of_le hm (Nat.pow_le_pow_right (by omega) (by omega)))
    simp [h, this]

theorem over_true (f o m : Nat) (hf : f < 18446744073709551616) (ho : o < 18446744073709551616) (hm : m < 18446744073709551616) (w : World) (hT : Lib.TabIs Tryd.prog w "internal/strconv.uint64pow10" .u64 Lib.pow10Tab) :
    Calls Tryd.prog 6 #[.int .u64 f, .int .u64 o, .int .u64 m] w fun e w' => e = .returned (.bool true) ∧ Below w.heap.size w w' := by
  have hf' : f < 2 ^ 64 := hf
  have ho' : o < 2 ^ 64 := ho
  have hm' : m < 2 ^ 64 := hm
  have hover : ∀ y : Nat, y < 2 ^ 64 → over (y : Int) o m = (((y &&& ((2 ^ 64 - 1) ^^^ m)) ||| (o &&& m) : Nat) : Int) := by
    intro y hy
    unfold over
    have a1 : (18446744073709551615 : Nat) ^^^ m < 2 ^ 64 := xor_lt64 _ _ (by decide) hm'
    rw [max_u64, u64_xor_nat _ m (by decide) hm, u64_and_nat y _ hy a1, u64_and_nat o m ho hm]
    rw [u64_or_nat _ _ (Nat.and_lt_two_pow _ a1) (Nat.and_lt_two_pow _ hm')]
  have hX : ((f &&& ((2 ^ 64 - 1) ^^^ m)) ||| (o &&& m)) < 2 ^ 64 := Nat.or_lt_two_pow (Nat.and_lt_two_pow _ (xor_lt64 _ _ (by decide) hm')) (Nat.and_lt_two_pow _ hm')
  refine overLaw f o m _ (hover f hf') ?_ ?_ ?_ w hT
  · rw [hover _ hX]
    congr 1
    apply Nat.eq_of_testBit_eq
    intro i
    simp only [Nat.testBit_or, Nat.testBit_and, Nat.testBit_xor, ones_testBit]
    by_cases h : i < 64
    · cases f.testBit i <;> cases m.testBit i <;> cases o.testBit i <;> simp [h]
    · have a : m.testBit i = false := Nat.testBit_lt_two_pow (Nat.lt_of_lt_of_le hm' (Nat.pow_le_pow_right (by omega) (by omega)))
      simp [h, a]
  · rw [u64_andNot_nat _ m hX hm, u64_andNot_nat f m hf hm, beq_iff_eq]
    congr 1
    have e : (18446744073709551615 : Nat) - m = (2 ^ 64 - 1) ^^^ m := sub_ones m hm'
    rw [e]
    apply Nat.eq_of_testBit_eq
    intro i
    simp only [Nat.testBit_or, Nat.testBit_and, Nat.testBit_xor, ones_testBit]
    by_cases h : i < 64
    · cases f.testBit i <;> cases m.testBit i <;> cases o.testBit i <;> simp [h]
    · have a : m.testBit i = false := Nat.testBit_lt_two_pow (Nat.lt_of_lt_of_le hm' (Nat.pow_le_pow_right (by omega) (by omega)))
      simp [h, a]
  · rw [u64_and_nat _ m hX hm, u64_and_nat o m ho hm, beq_iff_eq]
    congr 1
    apply Nat.eq_of_testBit_eq
    intro i
    simp only [Nat.testBit_or, Nat.testBit_and, Nat.testBit_xor, ones_testBit]
    by_cases h : i < 64
    · cases f.testBit i <;> cases m.testBit i <;> cases o.testBit i <;> simp [h]
    · have a : m.testBit i = false := Nat.testBit_lt_two_pow (Nat.lt_of_lt_of_le hm' (Nat.pow_le_pow_right (by omega) (by omega)))
      simp [a]
end Go.Proofs.YtnpghnipjienoaaDoor
