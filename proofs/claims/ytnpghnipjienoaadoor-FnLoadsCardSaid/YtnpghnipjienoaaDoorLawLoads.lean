/-
  The walk of the law FnLoads.
-/
import Derived.Test.YtnpghnipjienoaaDoorLoads
import Derived.Test.YtnpghnipjienoaaDoorFits7
import Derived.Test.YtnpghnipjienoaaDoorImplWritten
namespace Go.Proofs.YtnpghnipjienoaaDoor
open Go Go.RowKit Go.Sort

theorem info49 : (Tryd.prog.info? 49).map (fun i => (i.zero, i.size, i.bytes)) = some (some (.agg #[.string ⟨#[]⟩, .int .i64 0]), 2, 24) := by kernel_rfl

set_option maxHeartbeats 4000000 in
set_option maxRecDepth 100000 in
theorem loadsLaw (A : Option Addr) (n c : Nat) (ps : List (ByteArray × Int)) (base : ByteArray) (w : World) (hr : Parts .i64 w w.heap.size A n ps) (hn : n ≤ 9223372036854775807) (hsz : ∀ p ∈ ps, p.1.size ≤ 9223372036854775807) (hbs : base.size ≤ 9223372036854775807)
    (hT : Lib.TabIs Tryd.prog w "internal/strconv.uint64pow10" .u64 Lib.pow10Tab) :
    Calls Tryd.prog 7 #[.slice A n c, .string base] w fun e w' => e = .returned (.bool true) ∧ Below w.heap.size w w' := by
  obtain ⟨i0, hi0, hz0, hz1, hz2⟩ := info_parts info49
  have HL := Lib.hid hr.1
  have HR := Lib.hid hr
  have HT := Lib.hid hT
  clear hr hT
  go_enter Tryd.func7, Tryd.ntmps7
  go_wp2_with fail
  refine (zzFits7_any A n c ps _ HR.out hn hsz).mono ?_
  cases hfit : fitsP ps with
  | false =>
    clear hfit
    rintro e w1 ⟨rfl, hb1⟩
    go_wp2_with fail
    go_ret
    exact ⟨rfl, hb1⟩
  | true =>
    obtain ⟨hsz2, hn2⟩ := (fitsP_iff ps).1 hfit
    clear hfit
    have hnM : n ≤ 2147483647 := by have := HL.out; omega
    have HSZ := Lib.hid hsz2
    clear hsz hsz2 hn hn2
    rintro e w1 ⟨rfl, hb1⟩
    by_cases hbig : 2147483647 < base.size
    · go_wp2_with fail
      go_ret
      exact ⟨rfl, hb1⟩
    · go_wp2_with fail
      go_loopw [5, 18] (fun v i wr => ∃ (k : Nat) (A' : Option Addr) (c' : Nat), k ≤ n ∧ i = .int .i64 k ∧ v = .slice A' k c' ∧ wr.ownsRow w.heap.size 49 2 (.slice A' k c') k (flat .i64 (ps.take k)) ∧ Below w.heap.size w wr ∧ ∀ p ∈ ps.take k, 0 ≤ p.2 ∧ p.2 ≤ 255) (fun _ i _ => n - (intOf i).toNat)
      case atStart => exact ⟨0, none, 0, Nat.zero_le _, rfl, rfl, World.ownsRow_nil _ _ _ _, hb1, by simp⟩
      case round =>
        clear hb1
        obtain ⟨k, A', c', hk, rfl, rfl, hown, hbel, hall⟩ := hrel
        have HA := Lib.hid hall
        clear hall
        have hws := hbel.size
        by_cases hlt : k < n
        · obtain ⟨b, o, s, z, rfl, hab, hp, h1, h2⟩ := HR.out.at_ hlt
          have h1' : wr.cell? ⟨b, o + k * 2, none⟩ = some (.string s) := by rw [hbel.cell (by exact hab)]; exact h1
          have h2' : wr.cell? ⟨b, o + k * 2 + 1, none⟩ = some (.int .i64 z) := by rw [hbel.cell (by exact hab)]; exact h2
          have HS : Hid (ps.take (k + 1) = ps.take k ++ [(s, z)]) := by
            show _ = _
            rw [List.take_add_one, hp]; rfl
          clear h1 h2 hp
          by_cases hz : 0 ≤ z ∧ z ≤ 255
          · obtain ⟨hzl, hzh⟩ := hz
            go_wp2_with (at_builtin; refine wpList_append_own _ rfl _ _ 46 rfl w.heap.size 49 i0 _ 2 24 Tryd.underlying46 hi0 hz0 hz1 hz2 rfl (by decide) _ _ _ rfl ((hown.alloc _).alloc _) ⟨wr.heap.size + 1, 0, none⟩ 1 1 [.string s, .int .i64 z] rfl rfl ?c1 ?c2 ?c3 ?c4 ?c5 ?_)
            case c1 => exact news2' _ _ _ _ _
            case c2 => intro u hu; simp at hu; rcases hu with rfl | rfl <;> rfl
            case c3 => unfold maxLen; omega
            case c4 => omega
            case c5 => simp; omega
            intro v' w1 hown' hgrow _
            obtain ⟨A1, c1, rfl⟩ := own_shape hown'
            go_wp2
            go_roundw
            case rel =>
              refine ⟨k + 1, A1, c1, by omega, by go_num, rfl, ?_, ?_, fun p hp => ?_⟩
              · rw [HS.out, flat_snoc]; exact hown'
              · exact (below_alloc (below_alloc hbel (Nat.le_refl _) _) (Nat.le_refl _) _).grown hgrow (by simp; omega) (fun g hg => (hown.lt g hg).1)
              · rw [HS.out, List.mem_append, List.mem_singleton] at hp
                rcases hp with hp | rfl
                · exact HA.out p hp
                · exact ⟨hzl, hzh⟩
            case measure => simp [intOf]; omega
          · have hzz : z < 0 ∨ 255 < z := by omega
            clear hz
            have hb1 := below_alloc hbel (Nat.le_refl _) (.cells #[.string s, .int .i64 z] 48)
            rcases hzz with hz | hz
            all_goals
              go_wp2_with fail
              refine (wakes_any _ (tabOn HT.out hb1 (Nat.le_refl _))).mono ?_
              rintro e w4 ⟨rfl, hbl⟩
              have hb4 := below_call hb1 hbl (Nat.le_refl _)
              clear hbl hb1
              go_wp2_with fail
              go_ret
              exact ⟨rfl, hb4⟩
        · obtain rfl : k = n := by omega
          rw [List.take_of_length_le (by have := HL.out; omega)] at hown
          have HP := Lib.hid (Parts.of_own hown HL.out)
          have HALL : Hid (∀ p ∈ ps, 0 ≤ p.2 ∧ p.2 ≤ 255) := by
            have h := HA.out
            rw [List.take_of_length_le (by have := HL.out; omega)] at h
            exact h
          clear hown HA
          by_cases hbad : 1000 < k ∨ 1000 < base.size
          · by_cases hk1 : 1000 < k
            · go_wp2_with fail
              refine (wakes_any _ (tabOn HT.out hbel (Nat.le_refl _))).mono ?_
              rintro e w4 ⟨rfl, hbl⟩
              have hb4 := below_call hbel hbl (Nat.le_refl _)
              clear hbl
              go_wp2_with fail
              go_ret
              exact ⟨rfl, hb4⟩
            · have hb2 : 1000 < base.size := by omega
              go_wp2_with fail
              refine (wakes_any _ (tabOn HT.out hbel (Nat.le_refl _))).mono ?_
              rintro e w4 ⟨rfl, hbl⟩
              have hb4 := below_call hbel hbl (Nat.le_refl _)
              clear hbl
              go_wp2_with fail
              go_ret
              exact ⟨rfl, hb4⟩
          · have hk1 : k ≤ 1000 := by omega
            have hb2 : base.size ≤ 1000 := by omega
            clear hbad
            go_wp2_with fail
            have HR1 := Lib.hid ((HR.out.below hbel).more hbel.size)
            refine (impl_Loads A k c ps base _ HR1.out hk1 hb2 (fun p hp => ⟨(HALL.out p hp).1, (HALL.out p hp).2, by have := HSZ.out p hp; unfold maxLen; omega⟩)).mono ?_
            obtain ⟨y, hy⟩ : ∃ y, y = loads (lastOf ps) base.data.toList := ⟨_, rfl⟩
            rw [← hy]
            have HY := Lib.hid hy
            clear hy HR1
            rintro e w2 ⟨rfl, hbl⟩
            have hb3 := below_call hbel hbl (Nat.le_refl _)
            have HP2 := Lib.hid ((HP.out.below hbl).more hbl.size)
            clear hbl hbel HP
            go_wp2_with fail
            refine (spec_Loads A' k c' ps base _ HP2.out hk1 hb2).mono ?_
            rw [← HY.out]
            rintro e w3 ⟨rfl, rfl⟩
            go_wp2_with fail
            refine (wakes_any _ (tabOn HT.out hb3 (Nat.le_refl _))).mono ?_
            rintro e w4 ⟨rfl, hbl⟩
            have hb4 := below_call hb3 hbl (Nat.le_refl _)
            clear hbl
            go_wp2_with fail
            go_ret
            exact ⟨rfl, hb4⟩
end Go.Proofs.YtnpghnipjienoaaDoor
