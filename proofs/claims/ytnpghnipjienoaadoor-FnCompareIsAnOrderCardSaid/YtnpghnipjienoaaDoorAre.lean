/-
  The contract of the laws' are: whether some versions are ones of which the statements speak.
-/
import Derived.Test.YtnpghnipjienoaaDoorPairs
namespace Go.Proofs.YtnpghnipjienoaaDoor
open Go Go.RowKit

/-- A version as it lies in memory: the list's address, length and capacity, its numbers, the tail. -/
structure Ver where
  A : Option Addr
  n : Nat
  c : Nat
  zs : List Int
  tail : ByteArray

/-- A slice of versions. -/
def VersIn (w : World) (B : Nat) (A : Option Addr) (n : Nat) (vs : List Ver) : Prop :=
  vs.length = n ∧ (0 < n → ∃ b o, A = some ⟨b, o, none⟩ ∧ b < B ∧ ∀ j v, vs[j]? = some v → w.cell? ⟨b, o + j * 2, none⟩ = some (.slice v.A v.n v.c) ∧ w.cell? ⟨b, o + j * 2 + 1, none⟩ = some (.string v.tail))

def okVers (vs : List Ver) : Bool := vs.all fun v => okNums v.zs

set_option maxHeartbeats 1000000 in
set_option maxRecDepth 100000 in
theorem are_any (A : Option Addr) (n c : Nat) (vs : List Ver) (w : World) (hr : VersIn w w.heap.size A n vs) (hn : n ≤ 100) (hv : ∀ v ∈ vs, Reads w w.heap.size 1 v.A v.n (ints v.zs) ∧ v.n ≤ 2147483647) :
    Calls Tryd.prog 12 #[.slice A n c] w fun e w' => e = .returned (.bool (okVers vs)) ∧ Below w.heap.size w w' := by
  have HL := Lib.hid hr.1
  have HV := Lib.hid hv
  clear hv
  go_enter Tryd.func12, Tryd.ntmps12
  go_wp2_with fail
  go_loopw [7] (fun i wr => ∃ k : Nat, k ≤ n ∧ i = .int .i64 k ∧ Below w.heap.size w wr ∧ ∀ v ∈ vs.take k, okNums v.zs = true) (fun i _ => n - (intOf i).toNat)
  case atStart => exact ⟨0, Nat.zero_le _, rfl, Below.refl _ _, by simp⟩
  case round =>
    obtain ⟨k, hk, rfl, hbel, hall⟩ := hrel
    have HA := Lib.hid hall
    clear hall
    by_cases hlt : k < n
    · obtain ⟨b, o, rfl, hab, hcs⟩ := hr.2 (by omega)
      obtain ⟨v, hp⟩ : ∃ v, vs[k]? = some v := ⟨_, List.getElem?_eq_getElem (by have := HL.out; omega)⟩
      obtain ⟨h1, h2⟩ := hcs k v hp
      have hm : v ∈ vs := List.mem_of_getElem? hp
      have h1' : wr.cell? ⟨b, o + k * 2, none⟩ = some (.slice v.A v.n v.c) := by rw [hbel.cell (by exact hab)]; exact h1
      have h2' : wr.cell? ⟨b, o + k * 2 + 1, none⟩ = some (.string v.tail) := by rw [hbel.cell (by exact hab)]; exact h2
      have HS : Hid (vs.take (k + 1) = vs.take k ++ [v]) := by
        show _ = _
        rw [List.take_add_one, hp]; rfl
      have HM := Lib.hid hm
      clear h1 h2 hp hm hcs
      have hbs := hbel.size
      go_wp2_with fail
      have hb1 := below_alloc hbel (Nat.le_refl _) (.cells #[.slice v.A v.n v.c, .string v.tail] 24)
      refine (lawsOf v.A v.n v.c v.tail _).mono ?_
      rintro e w1 ⟨rfl, hbl⟩
      have hb2 := below_call hb1 hbl (Nat.le_refl _)
      have hs2 := hb2.size
      clear hb1 hbl
      go_wp2_with fail
      refine (isVersion_any v.A v.n v.c v.zs v.tail _ (((HV.out v HM.out).1.below hb2).more hs2) (HV.out v HM.out).2).mono ?_
      cases hok : okNums v.zs with
      | true =>
        have HOK := Lib.hid hok
        clear hok
        rintro e w3 ⟨rfl, hbl⟩
        have hb3 := below_call hb2 hbl (Nat.le_refl _)
        clear hbl hb2
        go_wp2_with fail
        go_roundw
        case rel =>
          refine ⟨k + 1, by omega, by go_num, hb3, fun y hy => ?_⟩
          rw [HS.out, List.mem_append, List.mem_singleton] at hy
          rcases hy with hy | rfl
          · exact HA.out y hy
          · exact HOK.out
        case measure => simp [intOf]; omega
      | false =>
        have HOK := Lib.hid hok
        clear hok
        rintro e w3 ⟨rfl, hbl⟩
        have hb3 := below_call hb2 hbl (Nat.le_refl _)
        clear hbl hb2
        go_wp2_with fail
        go_ret
        refine ⟨ret_bool ?_, hb3⟩
        rw [Eq.comm, Bool.eq_false_iff, ne_eq, okVers, List.all_eq_true]
        intro h
        have := h v HM.out
        rw [HOK.out] at this
        cases this
    · obtain rfl : k = n := by omega
      go_wp2
      go_ret
      refine ⟨ret_bool ?_, hbel⟩
      have h := HA.out
      rw [List.take_of_length_le (by have := HL.out; omega)] at h
      rw [Eq.comm, okVers, List.all_eq_true]
      exact h
end Go.Proofs.YtnpghnipjienoaaDoor
