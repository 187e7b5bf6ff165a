/-
  Plain law: the signs of a total preorder.
-/
import Derived.Test.YtnpghnipjienoaaDoorOrder
namespace Go.Proofs.YtnpghnipjienoaaDoor
open Go

/-- The signs of a total preorder. -/
theorem sign_law (a b c : List Int × List UInt8) (p p' q r z : Int) (hp : p = (verC a b).sign) (hp' : p' = (verC b a).sign) (hq : q = (verC b c).sign) (hr : r = (verC a c).sign) (hz : z = (verC a a).sign) :
    z = 0 ∧ ((p = 1 ∧ p' = -1) ∨ (p = 0 ∧ p' = 0 ∧ q = 1) ∨ (p = -1 ∧ p' = 1 ∧ q = 1) ∨ (p = 0 ∧ p' = 0 ∧ q = 0 ∧ r = 0) ∨ (p = 0 ∧ p' = 0 ∧ q = -1 ∧ r = -1) ∨ (p = -1 ∧ p' = 1 ∧ q = 0 ∧ r = -1) ∨ (p = -1 ∧ p' = 1 ∧ q = -1 ∧ r = -1)) := by
  have h1 := verC_pre.anti a b
  have h2 := verC_pre.anti a a
  have h3 := verC_pre.trans a b c
  have s : ∀ x : Int, (x < 0 ∧ x.sign = -1) ∨ (x = 0 ∧ x.sign = 0) ∨ (0 < x ∧ x.sign = 1) := by
    intro x
    rcases Int.lt_trichotomy x 0 with h | h | h
    · exact .inl ⟨h, Int.sign_eq_neg_one_of_neg h⟩
    · exact .inr (.inl ⟨h, by rw [h]; rfl⟩)
    · exact .inr (.inr ⟨h, Int.sign_eq_one_of_pos h⟩)
  have q1 := s (verC a b)
  have q2 := s (verC b c)
  have q3 := s (verC a c)
  have q4 := s (verC b a)
  have q5 := s (verC a a)
  rw [← hp] at q1
  rw [← hq] at q2
  rw [← hr] at q3
  rw [← hp'] at q4
  rw [← hz] at q5
  clear hp hp' hq hr hz s
  generalize verC a b = x1 at *
  generalize verC b a = x2 at *
  generalize verC b c = x3 at *
  generalize verC a c = x4 at *
  generalize verC a a = x5 at *
  have hz0 : z = 0 := by clear q1 q2 q3 q4 h1 h3; omega
  have hpp : p' = -p := by clear q2 q3 q5 h2 h3 hz0; omega
  refine ⟨hz0, ?_⟩
  clear q4 q5 h1 h2 hz0
  by_cases e1 : 0 < x1
  · have : p = 1 := by clear q2 q3 h3 hpp; omega
    exact .inl ⟨this, by omega⟩
  have e1' : (x1 < 0 ∧ p = -1) ∨ (x1 = 0 ∧ p = 0) := by clear q2 q3 h3 hpp; omega
  clear q1
  by_cases e3 : 0 < x3
  · have hq1 : q = 1 := by clear q3 h3 hpp e1'; omega
    rcases e1' with ⟨_, h⟩ | ⟨_, h⟩
    · exact .inr (.inr (.inl ⟨h, by omega, hq1⟩))
    · exact .inr (.inl ⟨h, by omega, hq1⟩)
  have e3' : (x3 < 0 ∧ q = -1) ∨ (x3 = 0 ∧ q = 0) := by clear q3 h3 hpp e1'; omega
  clear q2
  obtain ⟨h4, h5⟩ := h3 (by omega) (by omega)
  clear h3
  rcases e1' with ⟨g1, hp1⟩ | ⟨g1, hp1⟩
  · have h6 : x4 < 0 := by
      have : x4 ≠ 0 := fun h => by have := (h5.1 h).1; omega
      omega
    have hr1 : r = -1 := by clear h5 hpp e3'; omega
    rcases e3' with ⟨_, hq1⟩ | ⟨_, hq1⟩
    · exact .inr (.inr (.inr (.inr (.inr (.inr ⟨hp1, by omega, hq1, hr1⟩)))))
    · exact .inr (.inr (.inr (.inr (.inr (.inl ⟨hp1, by omega, hq1, hr1⟩)))))
  · rcases e3' with ⟨g3, hq1⟩ | ⟨g3, hq1⟩
    · have h6 : x4 < 0 := by
        have : x4 ≠ 0 := fun h => by have := (h5.1 h).2; omega
        omega
      have hr1 : r = -1 := by clear h5 hpp; omega
      exact .inr (.inr (.inr (.inr (.inl ⟨hp1, by omega, hq1, hr1⟩))))
    · have h6 : x4 = 0 := h5.2 ⟨g1, g3⟩
      have hr1 : r = 0 := by clear h5 hpp; omega
      exact .inr (.inr (.inr (.inl ⟨hp1, by omega, hq1, hr1⟩)))

end Go.Proofs.YtnpghnipjienoaaDoor
