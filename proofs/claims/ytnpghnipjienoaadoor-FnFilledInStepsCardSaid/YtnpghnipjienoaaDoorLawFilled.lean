/-
  The walk of the law FnFilled.
-/
import Derived.Test.YtnpghnipjienoaaDoorSpecFilled
import Derived.Test.YtnpghnipjienoaaDoorLawWritten
import Derived.Deep.RegionHeld3
namespace Go.Proofs.YtnpghnipjienoaaDoor
open Go Go.RowKit Go.Sort

/-- The two boxes, told and texts, with all that was there. -/
def HeldAt (w0 : World) (g h : Nat) (ta tb tc td : Bool) (sa sb sc sd : ByteArray) (w' : World) : Prop :=
  Below w0.heap.size w0 w' ∧ w'.cell? ⟨g, 0, none⟩ = some (.bool ta) ∧ w'.cell? ⟨g, 1, none⟩ = some (.bool tb) ∧ w'.cell? ⟨g, 2, none⟩ = some (.bool tc) ∧ w'.cell? ⟨g, 3, none⟩ = some (.bool td) ∧
    w'.cell? ⟨h, 0, none⟩ = some (.string sa) ∧ w'.cell? ⟨h, 1, none⟩ = some (.string sb) ∧ w'.cell? ⟨h, 2, none⟩ = some (.string sc) ∧ w'.cell? ⟨h, 3, none⟩ = some (.string sd)
theorem HeldAt.mk_ {w0 w' : World} {g h : Nat} {ta tb tc td : Bool} {sa sb sc sd : ByteArray} (hb : Below w0.heap.size w0 w') (h1 : Blk w' g 53 #[.bool ta, .bool tb, .bool tc, .bool td]) (h2 : Blk w' h 54 #[.string sa, .string sb, .string sc, .string sd]) :
    HeldAt w0 g h ta tb tc td sa sb sc sd w' := ⟨hb, h1.cell 0, h1.cell 1, h1.cell 2, h1.cell 3, h2.cell 0, h2.cell 1, h2.cell 2, h2.cell 3⟩
theorem HeldAt.next {w0 w w' : World} {g h : Nat} {ta tb tc td : Bool} {sa sb sc sd : ByteArray} (x : HeldAt w0 g h ta tb tc td sa sb sc sd w) (hb : Below w.heap.size w w') : HeldAt w0 g h ta tb tc td sa sb sc sd w' := by
  obtain ⟨hb0, c0, c1, c2, c3, d0, d1, d2, d3⟩ := x
  have k : ∀ (p : Addr) (v : Value), w.cell? p = some v → w'.cell? p = some v := fun p v hp => (hb.cell (block_lt_of_cell hp)).trans hp
  exact ⟨below_call hb0 hb (Nat.le_refl _), k _ _ c0, k _ _ c1, k _ _ c2, k _ _ c3, k _ _ d0, k _ _ d1, k _ _ d2, k _ _ d3⟩
theorem HeldAt.parts {w0 w : World} {g h : Nat} {ta tb tc td : Bool} {sa sb sc sd : ByteArray} (x : HeldAt w0 g h ta tb tc td sa sb sc sd w) {q : IntKind} {A : Option Addr} {n : Nat} {ps : List (ByteArray × Int)} (hp : Parts q w0 w0.heap.size A n ps) : Parts q w w.heap.size A n ps :=
  (hp.below x.1).more x.1.size

theorem HeldAt.mk2 {w0 w : World} {g h : Nat} {ta tb tc td : Bool} {sa sb sc sd : ByteArray} (x : HeldAt w0 g h ta tb tc td sa sb sc sd w) : HeldAt w g h ta tb tc td sa sb sc sd w := ⟨Below.refl _ _, x.2⟩
theorem HeldAt.drew {w0 w : World} {g h : Nat} {ta tb tc td : Bool} {sa sb sc sd : ByteArray} (x : HeldAt w0 g h ta tb tc td sa sb sc sd w) : HeldAt w0 g h ta tb tc td sa sb sc sd w.drew := ⟨x.1.drew, x.2⟩
theorem HeldAt.one {w0 w : World} {g h : Nat} {ta tb tc td : Bool} {sa sb sc sd : ByteArray} (x : HeldAt w0 g h ta tb tc td sa sb sc sd w) : Below w0.heap.size w0 w := x.1
theorem not_told {t : Bool} {x : List UInt8} (h : (if t then some x else none) = none) : t = false := by
  cases t
  · rfl
  · exact absurd (show some x = none from h) (by simp)

theorem told_same {T : Int → Option (List UInt8)} {ps qs : List (ByteArray × Int)} (h : Told T ps qs) : writtenT qs = filledT T ps := by
  have e := h.same (fun _ => none) rfl
  rw [filledT_none] at e
  rw [e]
  congr 1
  funext z
  simp [orT]
theorem okTpl_tot {ps : List (ByteArray × Int)} (ho : okTpl ps = true) : tot ps ≤ 1000000 := by
  obtain ⟨h, hl⟩ := (okTpl_iff ps).1 ho
  have : ∀ l : List (ByteArray × Int), (∀ p ∈ l, 0 ≤ p.2 ∧ p.2 ≤ 4 ∧ p.1.size ≤ 1000) → tot l ≤ 1000 * l.length := by
    intro l
    induction l with
    | nil => intro _; simp [tot]
    | cons x r ih =>
      intro hx
      have h1 := ih fun p hp => hx p (List.mem_cons_of_mem _ hp)
      have h2 := (hx x (List.mem_cons_self ..)).2.2
      have e : tot (x :: r) = x.1.size + tot r := by simp [tot]
      rw [e, List.length_cons]
      omega
  have := this ps h
  omega

set_option maxHeartbeats 8000000 in
set_option maxRecDepth 100000 in
theorem filledLaw (A : Option Addr) (n c : Nat) (ps : List (ByteArray × Int)) (ta tb tc td : Bool) (sa sb sc sd : ByteArray) (w : World) (hr : Parts .i64 w w.heap.size A n ps) (hn : n ≤ 9223372036854775807) (hsz : ∀ p ∈ ps, p.1.size ≤ 9223372036854775807)
    (ha : sa.size ≤ 9223372036854775807) (hb : sb.size ≤ 9223372036854775807) (hc : sc.size ≤ 9223372036854775807) (hd : sd.size ≤ 9223372036854775807)
    (hT : Lib.TabIs Tryd.prog w "internal/strconv.uint64pow10" .u64 Lib.pow10Tab) :
    Calls Tryd.prog 8 #[.slice A n c, .agg #[.bool ta, .bool tb, .bool tc, .bool td], .agg #[.string sa, .string sb, .string sc, .string sd]] w fun e w' => e = .returned (.bool true) ∧ Below w.heap.size w w' := by
  have HL := Lib.hid hr.1
  have HR := Lib.hid hr
  clear hr
  go_enter Tryd.func8, Tryd.ntmps8
  go_wp2_with fail
  have hbA : Below w.heap.size w ((w.alloc (.cells #[.bool ta, .bool tb, .bool tc, .bool td] 53)).alloc (.cells #[.string sa, .string sb, .string sc, .string sd] 54)) := below_alloc ((Below.refl _ _).alloc (Nat.le_refl _) _) (Nat.le_refl _) _
  have hkA : Blk ((w.alloc (.cells #[.bool ta, .bool tb, .bool tc, .bool td] 53)).alloc (.cells #[.string sa, .string sb, .string sc, .string sd] 54)) w.heap.size 53 #[.bool ta, .bool tb, .bool tc, .bool td] := (Blk.new _ _ _).alloc _
  have hkB : Blk ((w.alloc (.cells #[.bool ta, .bool tb, .bool tc, .bool td] 53)).alloc (.cells #[.string sa, .string sb, .string sc, .string sd] 54)) (w.heap.size + 1) 54 #[.string sa, .string sb, .string sc, .string sd] := by
    have h := Blk.new (w.alloc (.cells #[.bool ta, .bool tb, .bool tc, .bool td] 53)) 54 #[.string sa, .string sb, .string sc, .string sd]
    have e : (w.alloc (.cells #[.bool ta, .bool tb, .bool tc, .bool td] 53)).heap.size = w.heap.size + 1 := by simp
    rw [e] at h
    exact h
  generalize ((w.alloc (.cells #[.bool ta, .bool tb, .bool tc, .bool td] 53)).alloc (.cells #[.string sa, .string sb, .string sc, .string sd] 54)) = w0 at hbA hkA hkB ⊢
  have HH0 := Lib.hid (HeldAt.mk_ (Below.refl _ _) hkA hkB)
  have HBA := Lib.hid hbA
  have HR0 := Lib.hid ((HR.out.below hbA).more hbA.size)
  clear hbA hkA hkB
  refine (zzFits4_any A n c ps _ HR0.out hn hsz).mono ?_
  cases hfit : fitsP ps with
  | false =>
    clear hfit
    rintro e w1 ⟨rfl, hbl⟩
    have hb1 := below_call HBA.out hbl (Nat.le_refl _)
    clear hbl
    go_wp2_with fail
    go_ret
    exact ⟨rfl, hb1⟩
  | true =>
    obtain ⟨hsz2, hn2⟩ := (fitsP_iff ps).1 hfit
    clear hfit
    have hnM : n ≤ 2147483647 := by have := HL.out; omega
    rintro e w1 ⟨rfl, hbl⟩
    have HH1 := Lib.hid (HH0.out.next hbl)
    obtain ⟨-, -, -, -, -, d0, d1, d2, d3⟩ := HH1.out
    clear hbl
    go_wp2_with fail
    refine (zzFits6_any sa sb sc sd _ ha hb hc hd).mono ?_
    clear d0 d1 d2 d3
    cases hfit : fits4 sa sb sc sd with
    | false =>
      clear hfit
      rintro e w2 ⟨rfl, hbl⟩
      have hb1 := below_call HBA.out (HH1.out.next hbl).1 (Nat.le_refl _)
      clear hbl
      go_wp2_with fail
      go_ret
      exact ⟨rfl, hb1⟩
    | true =>
      have HF := Lib.hid ((fits4_iff sa sb sc sd).1 hfit)
      clear hfit ha hb hc hd hsz hn
      rintro e w2 ⟨rfl, hbl⟩
      have HH2 := Lib.hid (HH1.out.next hbl)
      clear hbl HH1
      go_wp2_with fail
      refine (parts_any A n c ps _ (HH2.out.parts HR0.out) hnM).mono ?_
      rintro e w3 ⟨A2, c2, rfl, hP2, hbl⟩
      have HH3 := Lib.hid (HH2.out.next hbl)
      have HP2 := Lib.hid hP2
      clear hbl hP2 HH2
      go_wp2_with fail
      refine (isTemplate_any A2 n c2 ps _ HP2.out hnM hsz2).mono ?_
      clear HP2
      cases hok : okTpl ps with
      | false =>
        clear hok
        rintro e w4 ⟨rfl, hbl⟩
        have hb4 := below_call HBA.out (HH3.out.next hbl).1 (Nat.le_refl _)
        clear hbl HH3
        go_wp2_with fail
        refine (wakes_any _ (tabOn hT hb4 (Nat.le_refl _))).mono ?_
        rintro e w5 ⟨rfl, hbl⟩
        have hb5 := below_call hb4 hbl (Nat.le_refl _)
        clear hbl
        go_wp2_with fail
        go_ret
        exact ⟨rfl, hb5⟩
      | true =>
        have HOK := Lib.hid hok
        have hn1 : n ≤ 1000 := by have := ((okTpl_iff ps).1 hok).2; have := HL.out; omega
        have htot := okTpl_tot hok
        clear hok
        rintro e w4 ⟨rfl, hbl⟩
        have HH4 := Lib.hid (HH3.out.next hbl)
        obtain ⟨-, b0, b1, b2, b3, d0, d1, d2, d3⟩ := HH4.out
        clear hbl HH3
        go_wp2_with fail
        refine (filled_any A n c ps ta tb tc td sa sb sc sd _ (HH4.out.parts HR0.out) hn1 (fun p hp => ⟨(((okTpl_iff ps).1 HOK.out).1 p hp).1, (((okTpl_iff ps).1 HOK.out).1 p hp).2.1⟩) (by omega) HF.out.1 HF.out.2.1 HF.out.2.2.1 HF.out.2.2.2).mono ?_
        clear b0 b1 b2 b3 d0 d1 d2 d3
        rintro e w5 ⟨A5, m, c5, qs, rfl, hP5, hT5, ht5, hbl⟩
        have HH5 := Lib.hid (HH4.out.next hbl)
        have HP5 := Lib.hid hP5
        have HT5 := Lib.hid hT5
        have hlen : (writtenT qs).length ≤ 70368744177664 := by
          have h1 := writtenT_tot qs
          have h2 := hT5.length
          have h3 := HL.out
          omega
        have hm1 : m ≤ 1000 := by have h1 := hT5.length; have h2 := hP5.1; have h3 := HL.out; omega
        have HQL := Lib.hid hP5.1
        clear hbl HH4 hP5 hT5 ht5
        go_wp2_with fail
        go_loopw [29] (fun i wr => ∃ k : Nat, k ≤ m ∧ i = .int .i64 k ∧ Below w5.heap.size w5 wr) (fun i _ => m - (intOf i).toNat)
        case atStart => exact ⟨0, Nat.zero_le _, rfl, Below.refl _ _⟩
        case round =>
          obtain ⟨k, hk, rfl, hbel⟩ := hrel
          obtain ⟨-, b0, b1, b2, b3, -⟩ := HH5.out.next hbel
          by_cases hlt : k < m
          · obtain ⟨b, o, s, z, rfl, hab, hp, h1, h2⟩ := HP5.out.at_ hlt
            obtain ⟨hz0, hz4, hT0⟩ := HT5.out.kinds _ (List.mem_of_getElem? hp)
            simp only at hz0 hz4 hT0
            have h1' : wr.cell? ⟨b, o + k * 2, none⟩ = some (.string s) := by rw [hbel.cell (by exact hab)]; exact h1
            have h2' : wr.cell? ⟨b, o + k * 2 + 1, none⟩ = some (.int .i64 z) := by rw [hbel.cell (by exact hab)]; exact h2
            clear h1 h2 hp
            have hws := hbel.size
            rcases (show z = 0 ∨ z = 1 ∨ z = 2 ∨ z = 3 ∨ z = 4 by omega) with rfl | rfl | rfl | rfl | rfl
            all_goals clear hz0 hz4
            · go_wp2_with fail
              go_roundw
              case rel => exact ⟨k + 1, by omega, by go_num, below_alloc hbel (Nat.le_refl _) _⟩
              case measure => simp [intOf]; omega
            · have hta : ta = false := not_told hT0
              have t0 : (wr.alloc (.cells #[.string s, .int .i64 1] 58)).cell? ⟨w.heap.size, 0, none⟩ = some (.bool ta) := (World.cell?_alloc_lt wr _ ⟨w.heap.size, 0, none⟩ (block_lt_of_cell b0)).trans b0
              rw [hta] at t0
              clear b0 b1 b2 b3
              go_wp2_with fail
              clear t0 hta
              go_roundw
              case rel => exact ⟨k + 1, by omega, by go_num, below_alloc hbel (Nat.le_refl _) _⟩
              case measure => simp [intOf]; omega
            · have hta : tb = false := not_told hT0
              have t0 : (wr.alloc (.cells #[.string s, .int .i64 2] 58)).cell? ⟨w.heap.size, 1, none⟩ = some (.bool tb) := (World.cell?_alloc_lt wr _ ⟨w.heap.size, 1, none⟩ (block_lt_of_cell b1)).trans b1
              rw [hta] at t0
              clear b0 b1 b2 b3
              go_wp2_with fail
              clear t0 hta
              go_roundw
              case rel => exact ⟨k + 1, by omega, by go_num, below_alloc hbel (Nat.le_refl _) _⟩
              case measure => simp [intOf]; omega
            · have hta : tc = false := not_told hT0
              have t0 : (wr.alloc (.cells #[.string s, .int .i64 3] 58)).cell? ⟨w.heap.size, 2, none⟩ = some (.bool tc) := (World.cell?_alloc_lt wr _ ⟨w.heap.size, 2, none⟩ (block_lt_of_cell b2)).trans b2
              rw [hta] at t0
              clear b0 b1 b2 b3
              go_wp2_with fail
              clear t0 hta
              go_roundw
              case rel => exact ⟨k + 1, by omega, by go_num, below_alloc hbel (Nat.le_refl _) _⟩
              case measure => simp [intOf]; omega
            · have hta : td = false := not_told hT0
              have t0 : (wr.alloc (.cells #[.string s, .int .i64 4] 58)).cell? ⟨w.heap.size, 3, none⟩ = some (.bool td) := (World.cell?_alloc_lt wr _ ⟨w.heap.size, 3, none⟩ (block_lt_of_cell b3)).trans b3
              rw [hta] at t0
              clear b0 b1 b2 b3
              go_wp2_with fail
              clear t0 hta
              go_roundw
              case rel => exact ⟨k + 1, by omega, by go_num, below_alloc hbel (Nat.le_refl _) _⟩
              case measure => simp [intOf]; omega
          · obtain rfl : k = m := by omega
            clear b0 b1 b2 b3
            have HH6 := Lib.hid (HeldAt.mk2 (HH5.out.next hbel))
            have HBA6 : Hid (Below w.heap.size w wr) := below_call HBA.out (HH5.out.next hbel).1 (Nat.le_refl _)
            have HP6 := Lib.hid ((HP5.out.below hbel).more hbel.size)
            have HR6 := Lib.hid ((HR.out.below HBA6.out).more HBA6.out.size)
            clear hbel HH5 HP5 HH0 HR0 HR
            obtain ⟨st, hst⟩ : ∃ st : ByteArray, st = ⟨(writtenT qs).toArray⟩ := ⟨_, rfl⟩
            have HST := Lib.hid hst
            clear hst
            go_wp2_with fail
            have hstart := HH6.out.drew
            go_region_held3 (fun w' => Below wr.heap.size wr w' ∧ w'.cell? ⟨w.heap.size, 0, none⟩ = some (.bool ta) ∧ w'.cell? ⟨w.heap.size, 1, none⟩ = some (.bool tb) ∧ w'.cell? ⟨w.heap.size, 2, none⟩ = some (.bool tc) ∧ w'.cell? ⟨w.heap.size, 3, none⟩ = some (.bool td) ∧
                w'.cell? ⟨w.heap.size + 1, 0, none⟩ = some (.string sa) ∧ w'.cell? ⟨w.heap.size + 1, 1, none⟩ = some (.string sb) ∧ w'.cell? ⟨w.heap.size + 1, 2, none⟩ = some (.string sc) ∧ w'.cell? ⟨w.heap.size + 1, 3, none⟩ = some (.string sd))
              (first | exact HeldAt.next (by assumption) hbl | exact hstart)
              (first
                | (go_at_call 20; refine (impl_Written A5 k c5 qs _ (HeldAt.parts (by assumption) HP6.out) (by omega) (fun p hp => ⟨(HT5.out.kinds p hp).1, (HT5.out.kinds p hp).2.1⟩) hlen).mono ?_; rw [← HST.out]; rintro e w7 ⟨rfl, hbl⟩; try have HQ8 := Lib.hid ((HQ8.out.below hbl).more hbl.size))
                | (go_at_call 19; refine (parts_any A n c ps _ (HeldAt.parts (by assumption) HR6.out) hnM).mono ?_; rintro e w7 ⟨A8, c8, rfl, hP8, hbl⟩; have HQ8 := Lib.hid hP8; clear hP8)
                | (go_at_call 29; refine (spec_Filled _ n _ ps ta tb tc td sa sb sc sd _ HQ8.out HOK.out HF.out.1 HF.out.2.1 HF.out.2.2.1 HF.out.2.2.2).mono ?_; rw [← told_same HT5.out, ← HST.out]; rintro e w7 ⟨rfl, hbl⟩)
                | (go_at_call 13; refine (wakes_any _ (tabOn hT (below_call HBA6.out (HeldAt.one (by assumption)) (Nat.le_refl _)) (Nat.le_refl _))).mono ?_; rintro e w7 ⟨rfl, hbl⟩))
            all_goals go_wp2_with fail
            all_goals go_ret
            all_goals exact ⟨rfl, below_call HBA6.out (HeldAt.one (by assumption)) (Nat.le_refl _)⟩
end Go.Proofs.YtnpghnipjienoaaDoor
