/-
  The contracts of the laws' zzFits7 and zzFits8.
-/
import Derived.Test.YtnpghnipjienoaaDoorPairs
namespace Go.Proofs.YtnpghnipjienoaaDoor
open Go Go.RowKit

theorem zzFits8_any (s : ByteArray) (z : Int) (w : World) (hs : s.size ≤ 9223372036854775807) :
    Calls Tryd.prog 40 #[.agg #[.string s, .int .i64 z]] w fun e w' => e = .returned (.bool (decide (s.size ≤ 2147483647))) ∧ Below w.heap.size w w' := by
  by_cases h1 : 2147483647 < s.size
  · go_enter Tryd.func40, Tryd.ntmps40
    go_wp2_with fail
    go_ret
    exact ⟨ret_bool (by rw [decide_eq_false (by omega)]), (Below.refl _ _).alloc (Nat.le_refl _) _⟩
  · go_enter Tryd.func40, Tryd.ntmps40
    go_wp2_with fail
    go_ret
    exact ⟨ret_bool (by rw [decide_eq_true (by omega)]), (Below.refl _ _).alloc (Nat.le_refl _) _⟩

set_option maxHeartbeats 1000000 in
set_option maxRecDepth 100000 in
theorem zzFits7_any (A : Option Addr) (n c : Nat) (ps : List (ByteArray × Int)) (w : World) (hr : Parts .i64 w w.heap.size A n ps) (hn : n ≤ 9223372036854775807) (hsz : ∀ p ∈ ps, p.1.size ≤ 9223372036854775807) :
    Calls Tryd.prog 24 #[.slice A n c] w fun e w' => e = .returned (.bool (fitsP ps)) ∧ Below w.heap.size w w' := by
  have HL := Lib.hid hr.1
  by_cases hbig : 2147483647 < n
  · go_enter Tryd.func24, Tryd.ntmps24
    go_wp2_with fail
    go_ret
    exact ⟨ret_bool (by rw [Eq.comm, Bool.eq_false_iff, ne_eq, fitsP_iff]; intro h; have := h.2; have := HL.out; omega), Below.refl _ _⟩
  · go_enter Tryd.func24, Tryd.ntmps24
    go_wp2_with fail
    go_loopw [10] (fun i wr => ∃ k : Nat, k ≤ n ∧ i = .int .i64 k ∧ Below w.heap.size w wr ∧ ∀ p ∈ ps.take k, p.1.size ≤ 2147483647) (fun i _ => n - (intOf i).toNat)
    case atStart => exact ⟨0, Nat.zero_le _, rfl, Below.refl _ _, by simp⟩
    case round =>
      obtain ⟨k, hk, rfl, hbel, hall⟩ := hrel
      have HA := Lib.hid hall
      clear hall
      by_cases hlt : k < n
      · obtain ⟨b, o, s, z, rfl, hab, hp, h1, h2⟩ := hr.at_ hlt
        have hm : (s, z) ∈ ps := List.mem_of_getElem? hp
        have hs := hsz _ hm
        have h1' : wr.cell? ⟨b, o + k * 2, none⟩ = some (.string s) := by rw [hbel.cell (by exact hab)]; exact h1
        have h2' : wr.cell? ⟨b, o + k * 2 + 1, none⟩ = some (.int .i64 z) := by rw [hbel.cell (by exact hab)]; exact h2
        have HS : Hid (ps.take (k + 1) = ps.take k ++ [(s, z)]) := by
          show _ = _
          rw [List.take_add_one, hp]; rfl
        have HM := Lib.hid hm
        clear h1 h2 hp hm
        have hbs := hbel.size
        by_cases hbs : 2147483647 < s.size
        · go_wp2_with fail
          refine (zzFits8_any s z _ hs).mono ?_
          rw [decide_eq_false (show ¬ s.size ≤ 2147483647 by omega)]
          rintro e w1 ⟨rfl, hb1⟩
          go_wp2_with fail
          go_ret
          exact ⟨ret_bool (by rw [Eq.comm, Bool.eq_false_iff, ne_eq, fitsP_iff]; intro h; have := h.1 _ HM.out; simp at this; omega), below_call (below_alloc hbel (Nat.le_refl _) _) hb1 (Nat.le_refl _)⟩
        · go_wp2_with fail
          refine (zzFits8_any s z _ hs).mono ?_
          rw [decide_eq_true (show s.size ≤ 2147483647 by omega)]
          rintro e w1 ⟨rfl, hb1⟩
          go_wp2_with fail
          go_roundw
          case rel =>
            refine ⟨k + 1, by omega, by go_num, below_call (below_alloc hbel (Nat.le_refl _) _) hb1 (Nat.le_refl _), fun p hp => ?_⟩
            rw [HS.out, List.mem_append, List.mem_singleton] at hp
            rcases hp with hp | rfl
            · exact HA.out p hp
            · show s.size ≤ _; omega
          case measure => simp [intOf]; omega
      · obtain rfl : k = n := by omega
        go_wp2_with fail
        go_ret
        refine ⟨ret_bool ?_, hbel⟩
        rw [Eq.comm, fitsP_iff]
        have := HL.out
        have h := HA.out
        rw [List.take_of_length_le (by omega)] at h
        exact ⟨h, by omega⟩
end Go.Proofs.YtnpghnipjienoaaDoor
