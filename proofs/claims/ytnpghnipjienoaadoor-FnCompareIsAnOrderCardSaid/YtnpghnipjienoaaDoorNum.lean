/-
  Plain: the numbers of a version written with points between. No program in sight.
-/
import Derived.Lib.Itoa
import Derived.Lib.ItoaNum
import Derived.Lib.ItoaLen
namespace Go.Proofs.YtnpghnipjienoaaDoor
open Go

/-- The numbers, in decimal, with points between: as the Go text writes them, one after the other. -/
def dotted (zs : List Int) : List UInt8 := zs.foldl (fun acc z => (if acc.isEmpty then acc else acc ++ [46]) ++ Lib.itoa z) []

theorem dotted_nil : dotted [] = [] := rfl
theorem dotted_snoc (zs : List Int) (z : Int) : dotted (zs ++ [z]) = (if (dotted zs).isEmpty then dotted zs else dotted zs ++ [46]) ++ Lib.itoa z := by
  simp [dotted, List.foldl_append]
theorem getD_lt {α : Type} (l : List α) (d : α) (k : Nat) (h : k < l.length) : l.getD k d = l[k] := by simp [List.getD_eq_getElem?_getD, h]
theorem take_snoc_getD {α : Type} (l : List α) (d : α) (k : Nat) (h : k < l.length) : l.take (k + 1) = l.take k ++ [l.getD k d] := by
  rw [List.take_succ_eq_append_getElem h, getD_lt _ _ _ h]
theorem dotted_take (zs : List Int) (k : Nat) (h : k < zs.length) :
    dotted (zs.take (k + 1)) = (if (dotted (zs.take k)).isEmpty then dotted (zs.take k) else dotted (zs.take k) ++ [46]) ++ Lib.itoa (zs.getD k 0) := by
  rw [take_snoc_getD zs 0 k h, dotted_snoc]
theorem decDigits_pos (u : Nat) : 0 < (Lib.decDigits u).length := by
  unfold Lib.decDigits
  split <;> simp
theorem itoa_pos (z : Int) : 0 < (Lib.itoa z).length := by
  unfold Lib.itoa
  split
  · simp
  · exact decDigits_pos _
theorem dotted_pos (zs : List Int) (k : Nat) (hk : 0 < k) (h : k ≤ zs.length) : 0 < (dotted (zs.take k)).length := by
  obtain ⟨j, rfl⟩ : ∃ j, k = j + 1 := ⟨k - 1, by omega⟩
  rw [dotted_take zs j (by omega)]
  have := itoa_pos (zs.getD j 0)
  simp only [List.length_append]
  omega
theorem dotted_len (zs : List Int) (hz : ∀ z ∈ zs, 0 ≤ z ∧ z ≤ 1000000000) (k : Nat) (h : k ≤ zs.length) : (dotted (zs.take k)).length ≤ 22 * k := by
  induction k with
  | zero => simp [dotted]
  | succ k ih =>
    have ih := ih (by omega)
    rw [dotted_take zs k (by omega)]
    have hm : zs.getD k 0 ∈ zs := by
      rw [getD_lt _ _ _ (by omega)]
      exact List.getElem_mem _
    have hb := hz _ hm
    have := Lib.itoa_length_le (zs.getD k 0) (by omega) (by omega)
    rw [List.length_append]
    split
    · omega
    · rw [List.length_append]; simp only [List.length_singleton]; omega
/-- A version as it is written. -/
def written (zs : List Int) (tail : List UInt8) : List UInt8 := dotted zs ++ tail
end Go.Proofs.YtnpghnipjienoaaDoor
