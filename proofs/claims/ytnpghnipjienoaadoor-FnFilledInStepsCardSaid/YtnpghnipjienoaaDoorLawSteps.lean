/-
  The walk of the law FnFilledInSteps.
-/
import Derived.Test.YtnpghnipjienoaaDoorLawFilled
namespace Go.Proofs.YtnpghnipjienoaaDoor
open Go Go.RowKit Go.Sort

/-- As Told, but of what is left nothing is said. -/
structure Same (T : Int → Option (List UInt8)) (ps qs : List (ByteArray × Int)) : Prop where
  same : ∀ T' : Int → Option (List UInt8), T' 0 = none → filledT T' qs = filledT (orT T T') ps
  kinds : ∀ q ∈ qs, 0 ≤ q.2 ∧ q.2 ≤ 4
  length : qs.length ≤ ps.length
theorem Same.start {ps : List (ByteArray × Int)} (h : ∀ p ∈ ps, 0 ≤ p.2 ∧ p.2 ≤ 4) : Same (fun _ => none) ps ps := ⟨fun T' _ => by congr 1, h, Nat.le_refl _⟩
theorem orT_assoc (S T T' : Int → Option (List UInt8)) : orT S (orT T T') = orT (orT S T) T' := by
  funext z
  simp [orT, Option.or_assoc]
theorem Same.more {S T : Int → Option (List UInt8)} {ps qs qs' : List (ByteArray × Int)} (h : Same S ps qs) (k : Told T qs qs') (h0 : T 0 = none) : Same (orT S T) ps qs' := by
  refine ⟨fun T' h' => ?_, fun q hq => ⟨(k.kinds q hq).1, (k.kinds q hq).2.1⟩, Nat.le_trans k.length h.length⟩
  rw [k.same T' h', h.same (orT T T') (by simp [orT, h0, h']), orT_assoc]
theorem Same.end_ {T : Int → Option (List UInt8)} {ps qs : List (ByteArray × Int)} (h : Same T ps qs) : writtenT qs = filledT T ps := by
  have e := h.same (fun _ => none) rfl
  rw [filledT_none] at e
  rw [e]
  congr 1
  funext z
  simp [orT]

/-- What is told after k steps: kinds 3, 1, 4, 2. -/
def stepT (ta tb tc td : Bool) (a b c d : ByteArray) : Nat → Int → Option (List UInt8)
  | 0 => fun _ => none
  | 1 => orT (fun _ => none) (toldT false false tc false a b c d)
  | 2 => orT (orT (fun _ => none) (toldT false false tc false a b c d)) (toldT ta false false false a b c d)
  | 3 => orT (orT (orT (fun _ => none) (toldT false false tc false a b c d)) (toldT ta false false false a b c d)) (toldT false false false td a b c d)
  | _ => orT (orT (orT (orT (fun _ => none) (toldT false false tc false a b c d)) (toldT ta false false false a b c d)) (toldT false false false td a b c d)) (toldT false tb false false a b c d)
theorem stepT_four (ta tb tc td : Bool) (a b c d : ByteArray) : stepT ta tb tc td a b c d 4 = toldT ta tb tc td a b c d := by
  funext z
  show (((((none : Option (List UInt8)).or (toldT false false tc false a b c d z)).or (toldT ta false false false a b c d z)).or (toldT false false false td a b c d z)).or (toldT false tb false false a b c d z)) = _
  unfold toldT pick
  by_cases h1 : z = 1
  · simp [h1]
  by_cases h2 : z = 2
  · simp [h2]
  by_cases h3 : z = 3
  · simp [h3]
  by_cases h4 : z = 4
  · simp [h4]
  simp [h1, h2, h3, h4]

set_option maxHeartbeats 8000000 in
set_option maxRecDepth 100000 in
theorem stepsLaw (A : Option Addr) (n c : Nat) (ps : List (ByteArray × Int)) (ta tb tc td : Bool) (sa sb sc sd : ByteArray) (w : World) (hr : Parts .i64 w w.heap.size A n ps) (hn : n ≤ 9223372036854775807) (hsz : ∀ p ∈ ps, p.1.size ≤ 9223372036854775807)
    (ha : sa.size ≤ 9223372036854775807) (hb : sb.size ≤ 9223372036854775807) (hc : sc.size ≤ 9223372036854775807) (hd : sd.size ≤ 9223372036854775807)
    (hT : Lib.TabIs Tryd.prog w "internal/strconv.uint64pow10" .u64 Lib.pow10Tab) :
    Calls Tryd.prog 9 #[.slice A n c, .agg #[.bool ta, .bool tb, .bool tc, .bool td], .agg #[.string sa, .string sb, .string sc, .string sd]] w fun e w' => e = .returned (.bool true) ∧ Below w.heap.size w w' := by
  have HL := Lib.hid hr.1
  have HR := Lib.hid hr
  clear hr
  go_enter Tryd.func9, Tryd.ntmps9
  go_wp2_with fail
  have hbA : Below w.heap.size w ((w.alloc (.cells #[.bool ta, .bool tb, .bool tc, .bool td] 53)).alloc (.cells #[.string sa, .string sb, .string sc, .string sd] 54)) := below_alloc ((Below.refl _ _).alloc (Nat.le_refl _) _) (Nat.le_refl _) _
  have hkA : Blk ((w.alloc (.cells #[.bool ta, .bool tb, .bool tc, .bool td] 53)).alloc (.cells #[.string sa, .string sb, .string sc, .string sd] 54)) w.heap.size 53 #[.bool ta, .bool tb, .bool tc, .bool td] := (Blk.new _ _ _).alloc _
  have hkB : Blk ((w.alloc (.cells #[.bool ta, .bool tb, .bool tc, .bool td] 53)).alloc (.cells #[.string sa, .string sb, .string sc, .string sd] 54)) (w.heap.size + 1) 54 #[.string sa, .string sb, .string sc, .string sd] := by
    have h := Blk.new (w.alloc (.cells #[.bool ta, .bool tb, .bool tc, .bool td] 53)) 54 #[.string sa, .string sb, .string sc, .string sd]
    have e : (w.alloc (.cells #[.bool ta, .bool tb, .bool tc, .bool td] 53)).heap.size = w.heap.size + 1 := by simp
    rw [e] at h
    exact h
  generalize ((w.alloc (.cells #[.bool ta, .bool tb, .bool tc, .bool td] 53)).alloc (.cells #[.string sa, .string sb, .string sc, .string sd] 54)) = w0 at hbA hkA hkB ⊢
  have HH0 := Lib.hid (HeldAt.mk_ (Below.refl _ _) hkA hkB)
  have HBA := Lib.hid hbA
  have HR0 := Lib.hid ((HR.out.below hbA).more hbA.size)
  clear hbA hkA hkB
  refine (zzFits4_any A n c ps _ HR0.out hn hsz).mono ?_
  cases hfit : fitsP ps with
  | false =>
    clear hfit
    rintro e w1 ⟨rfl, hbl⟩
    have hb1 := below_call HBA.out hbl (Nat.le_refl _)
    clear hbl
    go_wp2_with fail
    go_ret
    exact ⟨rfl, hb1⟩
  | true =>
    obtain ⟨hsz2, hn2⟩ := (fitsP_iff ps).1 hfit
    clear hfit
    have hnM : n ≤ 2147483647 := by have := HL.out; omega
    rintro e w1 ⟨rfl, hbl⟩
    have HH1 := Lib.hid (HH0.out.next hbl)
    obtain ⟨-, -, -, -, -, d0, d1, d2, d3⟩ := HH1.out
    clear hbl
    go_wp2_with fail
    refine (zzFits6_any sa sb sc sd _ ha hb hc hd).mono ?_
    clear d0 d1 d2 d3
    cases hfit : fits4 sa sb sc sd with
    | false =>
      clear hfit
      rintro e w2 ⟨rfl, hbl⟩
      have hb1 := below_call HBA.out (HH1.out.next hbl).1 (Nat.le_refl _)
      clear hbl
      go_wp2_with fail
      go_ret
      exact ⟨rfl, hb1⟩
    | true =>
      have HF := Lib.hid ((fits4_iff sa sb sc sd).1 hfit)
      clear hfit ha hb hc hd hsz hn
      rintro e w2 ⟨rfl, hbl⟩
      have HH2 := Lib.hid (HH1.out.next hbl)
      clear hbl HH1
      go_wp2_with fail
      refine (parts_any A n c ps _ (HH2.out.parts HR0.out) hnM).mono ?_
      rintro e w3 ⟨A2, c2, rfl, hP2, hbl⟩
      have HH3 := Lib.hid (HH2.out.next hbl)
      have HP2 := Lib.hid hP2
      clear hbl hP2 HH2
      go_wp2_with fail
      refine (isTemplate_any A2 n c2 ps _ HP2.out hnM hsz2).mono ?_
      clear HP2
      cases hok : okTpl ps with
      | false =>
        clear hok
        rintro e w4 ⟨rfl, hbl⟩
        have hb4 := below_call HBA.out (HH3.out.next hbl).1 (Nat.le_refl _)
        clear hbl HH3
        go_wp2_with fail
        refine (wakes_any _ (tabOn hT hb4 (Nat.le_refl _))).mono ?_
        rintro e w5 ⟨rfl, hbl⟩
        have hb5 := below_call hb4 hbl (Nat.le_refl _)
        clear hbl
        go_wp2_with fail
        go_ret
        exact ⟨rfl, hb5⟩
      | true =>
        have HOK := Lib.hid hok
        have hn1 : n ≤ 1000 := by have := ((okTpl_iff ps).1 hok).2; have := HL.out; omega
        have htot := okTpl_tot hok
        clear hok
        rintro e w4 ⟨rfl, hbl⟩
        have HH4 := Lib.hid (HH3.out.next hbl)
        obtain ⟨-, b0, b1, b2, b3, d0, d1, d2, d3⟩ := HH4.out
        have HP4 := Lib.hid (HH4.out.parts HR0.out)
        have HK : Hid (∀ p ∈ ps, 0 ≤ p.2 ∧ p.2 ≤ 4) := fun p hp => ⟨(((okTpl_iff ps).1 HOK.out).1 p hp).1, (((okTpl_iff ps).1 HOK.out).1 p hp).2.1⟩
        clear b0 b1 b2 b3 d0 d1 d2 d3
        go_wp2_with fail
        have HPL0 : Hid (Blk (w4.alloc (.cells #[.int .i64 2, .int .i64 0, .int .i64 3, .int .i64 1] 3)) w4.heap.size 3 #[.int .i64 2, .int .i64 0, .int .i64 3, .int .i64 1]) := Blk.new _ _ _
        have hb5 : Below w4.heap.size w4 (w4.alloc (.cells #[.int .i64 2, .int .i64 0, .int .i64 3, .int .i64 1] 3)) := (Below.refl _ _).alloc (Nat.le_refl _) _
        generalize (w4.alloc (.cells #[.int .i64 2, .int .i64 0, .int .i64 3, .int .i64 1] 3)) = w5 at HPL0 hb5 ⊢
        have HP5 := Lib.hid ((HP4.out.below hb5).more hb5.size)
        have HH5 := Lib.hid (HH4.out.next hb5)
        clear hb5 HP4 HH4
        go_loopw [7, 27] (fun v i wr => ∃ (k : Nat) (A' : Option Addr) (m c' : Nat) (qs : List (ByteArray × Int)), k ≤ 4 ∧ i = .int .i64 k ∧ v = .slice A' m c' ∧ Parts .i64 wr wr.heap.size A' m qs ∧ Same (stepT ta tb tc td sa sb sc sd k) ps qs ∧
            tot qs ≤ 1000000 + k * 2147483647000 ∧ HeldAt w0 w.heap.size (w.heap.size + 1) ta tb tc td sa sb sc sd wr ∧ Blk wr w4.heap.size 3 #[.int .i64 2, .int .i64 0, .int .i64 3, .int .i64 1]) (fun _ i _ => 4 - (intOf i).toNat)
        case atStart => exact ⟨0, A, n, c, ps, by omega, rfl, rfl, HP5.out, Same.start HK.out, by omega, HH5.out, HPL0.out⟩
        case round =>
          clear HP5 HH5 HPL0
          obtain ⟨k, A', m, c', qs, hk, rfl, rfl, hpw, hsame, htt, hhw, hpl⟩ := hrel
          have hm1 : m ≤ 1000 := by have h1 := hsame.length; have h2 := hpw.1; have h3 := HL.out; omega
          have hPlt := hpl.lt
          have HPW := Lib.hid hpw
          have HSAME := Lib.hid hsame
          have HTT := Lib.hid htt
          have HHW := Lib.hid hhw
          have HPL := Lib.hid hpl
          obtain ⟨-, b0, b1, b2, b3, d0, d1, d2, d3⟩ := hhw
          clear hpw hsame htt hpl
          rcases (show k = 0 ∨ k = 1 ∨ k = 2 ∨ k = 3 ∨ k = 4 by omega) with rfl | rfl | rfl | rfl | rfl
          · have p0 := HPL.out.cell 0
            have g0 : wr.cell? ⟨w.heap.size, 2, none⟩ = some (.bool tc) := b2
            have g1 : (wr.alloc (.cells #[.bool false, .bool false, .bool false, .bool false] 53)).cell? ⟨w.heap.size, 2, none⟩ = some (.bool tc) := (World.cell?_alloc_lt wr _ ⟨w.heap.size, 2, none⟩ (block_lt_of_cell g0)).trans g0
            simp at p0
            clear b0 b1 b2 b3 d0 d1 d2 d3
            go_upto_region 11 with (fail)
            have hbk := Blk.new wr 53 #[.bool false, .bool false, .bool tc, .bool false]
            have hbx : Below wr.heap.size wr (wr.alloc (.cells #[.bool false, .bool false, .bool tc, .bool false] 53)) := (Below.refl _ _).alloc (Nat.le_refl _) _
            generalize (wr.alloc (.cells #[.bool false, .bool false, .bool tc, .bool false] 53)) = wx at hbk hbx ⊢
            have r0 : wx.cell? ⟨wr.heap.size, 0, none⟩ = some (.bool false) := hbk.cell 0
            have r1 : wx.cell? ⟨wr.heap.size, 1, none⟩ = some (.bool false) := hbk.cell 1
            have r2 : wx.cell? ⟨wr.heap.size, 2, none⟩ = some (.bool tc) := hbk.cell 2
            have r3 : wx.cell? ⟨wr.heap.size, 3, none⟩ = some (.bool false) := hbk.cell 3
            have HHX := Lib.hid (HHW.out.next hbx)
            obtain ⟨-, -, -, -, -, d0, d1, d2, d3⟩ := HHX.out
            have HPX := Lib.hid ((HPW.out.below hbx).more hbx.size)
            have HPLX := Lib.hid (HPL.out.below hbx hPlt)
            have hsx := hbx.size
            clear hbk hbx HPL HPW p0 g0 g1
            go_wp2_with fail
            refine (filled_any A' m c' qs false false tc false sa sb sc sd _ HPX.out hm1 HSAME.out.kinds (by have := HTT.out; omega) HF.out.1 HF.out.2.1 HF.out.2.2.1 HF.out.2.2.2).mono ?_
            rintro e w7 ⟨A7, m7, c7, qs7, rfl, hP7, hT7, ht7, hbl⟩
            have HH7 := Lib.hid (HHX.out.next hbl)
            have HPL7 := Lib.hid (HPLX.out.below hbl (by omega))
            have HP7 := Lib.hid hP7
            have HT7 := Lib.hid hT7
            have HTT7 := Lib.hid ht7
            clear hbl HHX HPX HPLX r0 r1 r2 r3 d0 d1 d2 d3 hP7 hT7 ht7
            go_wp2_with fail
            go_roundw
            case rel =>
              refine ⟨1, A7, m7, c7, qs7, by omega, rfl, rfl, HP7.out, HSAME.out.more HT7.out rfl, ?_, HH7.out, HPL7.out⟩
              have h1 := HTT7.out
              have h2 := HTT.out
              omega
            case measure => simp [intOf]
          · have p0 := HPL.out.cell 1
            have g0 : wr.cell? ⟨w.heap.size, 0, none⟩ = some (.bool ta) := b0
            have g1 : (wr.alloc (.cells #[.bool false, .bool false, .bool false, .bool false] 53)).cell? ⟨w.heap.size, 0, none⟩ = some (.bool ta) := (World.cell?_alloc_lt wr _ ⟨w.heap.size, 0, none⟩ (block_lt_of_cell g0)).trans g0
            simp at p0
            clear b0 b1 b2 b3 d0 d1 d2 d3
            go_upto_region 11 with (fail)
            have hbk := Blk.new wr 53 #[.bool ta, .bool false, .bool false, .bool false]
            have hbx : Below wr.heap.size wr (wr.alloc (.cells #[.bool ta, .bool false, .bool false, .bool false] 53)) := (Below.refl _ _).alloc (Nat.le_refl _) _
            generalize (wr.alloc (.cells #[.bool ta, .bool false, .bool false, .bool false] 53)) = wx at hbk hbx ⊢
            have r0 : wx.cell? ⟨wr.heap.size, 0, none⟩ = some (.bool ta) := hbk.cell 0
            have r1 : wx.cell? ⟨wr.heap.size, 1, none⟩ = some (.bool false) := hbk.cell 1
            have r2 : wx.cell? ⟨wr.heap.size, 2, none⟩ = some (.bool false) := hbk.cell 2
            have r3 : wx.cell? ⟨wr.heap.size, 3, none⟩ = some (.bool false) := hbk.cell 3
            have HHX := Lib.hid (HHW.out.next hbx)
            obtain ⟨-, -, -, -, -, d0, d1, d2, d3⟩ := HHX.out
            have HPX := Lib.hid ((HPW.out.below hbx).more hbx.size)
            have HPLX := Lib.hid (HPL.out.below hbx hPlt)
            have hsx := hbx.size
            clear hbk hbx HPL HPW p0 g0 g1
            go_wp2_with fail
            refine (filled_any A' m c' qs ta false false false sa sb sc sd _ HPX.out hm1 HSAME.out.kinds (by have := HTT.out; omega) HF.out.1 HF.out.2.1 HF.out.2.2.1 HF.out.2.2.2).mono ?_
            rintro e w7 ⟨A7, m7, c7, qs7, rfl, hP7, hT7, ht7, hbl⟩
            have HH7 := Lib.hid (HHX.out.next hbl)
            have HPL7 := Lib.hid (HPLX.out.below hbl (by omega))
            have HP7 := Lib.hid hP7
            have HT7 := Lib.hid hT7
            have HTT7 := Lib.hid ht7
            clear hbl HHX HPX HPLX r0 r1 r2 r3 d0 d1 d2 d3 hP7 hT7 ht7
            go_wp2_with fail
            go_roundw
            case rel =>
              refine ⟨2, A7, m7, c7, qs7, by omega, rfl, rfl, HP7.out, HSAME.out.more HT7.out rfl, ?_, HH7.out, HPL7.out⟩
              have h1 := HTT7.out
              have h2 := HTT.out
              omega
            case measure => simp [intOf]
          · have p0 := HPL.out.cell 2
            have g0 : wr.cell? ⟨w.heap.size, 3, none⟩ = some (.bool td) := b3
            have g1 : (wr.alloc (.cells #[.bool false, .bool false, .bool false, .bool false] 53)).cell? ⟨w.heap.size, 3, none⟩ = some (.bool td) := (World.cell?_alloc_lt wr _ ⟨w.heap.size, 3, none⟩ (block_lt_of_cell g0)).trans g0
            simp at p0
            clear b0 b1 b2 b3 d0 d1 d2 d3
            go_upto_region 11 with (fail)
            have hbk := Blk.new wr 53 #[.bool false, .bool false, .bool false, .bool td]
            have hbx : Below wr.heap.size wr (wr.alloc (.cells #[.bool false, .bool false, .bool false, .bool td] 53)) := (Below.refl _ _).alloc (Nat.le_refl _) _
            generalize (wr.alloc (.cells #[.bool false, .bool false, .bool false, .bool td] 53)) = wx at hbk hbx ⊢
            have r0 : wx.cell? ⟨wr.heap.size, 0, none⟩ = some (.bool false) := hbk.cell 0
            have r1 : wx.cell? ⟨wr.heap.size, 1, none⟩ = some (.bool false) := hbk.cell 1
            have r2 : wx.cell? ⟨wr.heap.size, 2, none⟩ = some (.bool false) := hbk.cell 2
            have r3 : wx.cell? ⟨wr.heap.size, 3, none⟩ = some (.bool td) := hbk.cell 3
            have HHX := Lib.hid (HHW.out.next hbx)
            obtain ⟨-, -, -, -, -, d0, d1, d2, d3⟩ := HHX.out
            have HPX := Lib.hid ((HPW.out.below hbx).more hbx.size)
            have HPLX := Lib.hid (HPL.out.below hbx hPlt)
            have hsx := hbx.size
            clear hbk hbx HPL HPW p0 g0 g1
            go_wp2_with fail
            refine (filled_any A' m c' qs false false false td sa sb sc sd _ HPX.out hm1 HSAME.out.kinds (by have := HTT.out; omega) HF.out.1 HF.out.2.1 HF.out.2.2.1 HF.out.2.2.2).mono ?_
            rintro e w7 ⟨A7, m7, c7, qs7, rfl, hP7, hT7, ht7, hbl⟩
            have HH7 := Lib.hid (HHX.out.next hbl)
            have HPL7 := Lib.hid (HPLX.out.below hbl (by omega))
            have HP7 := Lib.hid hP7
            have HT7 := Lib.hid hT7
            have HTT7 := Lib.hid ht7
            clear hbl HHX HPX HPLX r0 r1 r2 r3 d0 d1 d2 d3 hP7 hT7 ht7
            go_wp2_with fail
            go_roundw
            case rel =>
              refine ⟨3, A7, m7, c7, qs7, by omega, rfl, rfl, HP7.out, HSAME.out.more HT7.out rfl, ?_, HH7.out, HPL7.out⟩
              have h1 := HTT7.out
              have h2 := HTT.out
              omega
            case measure => simp [intOf]
          · have p0 := HPL.out.cell 3
            have g0 : wr.cell? ⟨w.heap.size, 1, none⟩ = some (.bool tb) := b1
            have g1 : (wr.alloc (.cells #[.bool false, .bool false, .bool false, .bool false] 53)).cell? ⟨w.heap.size, 1, none⟩ = some (.bool tb) := (World.cell?_alloc_lt wr _ ⟨w.heap.size, 1, none⟩ (block_lt_of_cell g0)).trans g0
            simp at p0
            clear b0 b1 b2 b3 d0 d1 d2 d3
            go_upto_region 11 with (fail)
            have hbk := Blk.new wr 53 #[.bool false, .bool tb, .bool false, .bool false]
            have hbx : Below wr.heap.size wr (wr.alloc (.cells #[.bool false, .bool tb, .bool false, .bool false] 53)) := (Below.refl _ _).alloc (Nat.le_refl _) _
            generalize (wr.alloc (.cells #[.bool false, .bool tb, .bool false, .bool false] 53)) = wx at hbk hbx ⊢
            have r0 : wx.cell? ⟨wr.heap.size, 0, none⟩ = some (.bool false) := hbk.cell 0
            have r1 : wx.cell? ⟨wr.heap.size, 1, none⟩ = some (.bool tb) := hbk.cell 1
            have r2 : wx.cell? ⟨wr.heap.size, 2, none⟩ = some (.bool false) := hbk.cell 2
            have r3 : wx.cell? ⟨wr.heap.size, 3, none⟩ = some (.bool false) := hbk.cell 3
            have HHX := Lib.hid (HHW.out.next hbx)
            obtain ⟨-, -, -, -, -, d0, d1, d2, d3⟩ := HHX.out
            have HPX := Lib.hid ((HPW.out.below hbx).more hbx.size)
            have HPLX := Lib.hid (HPL.out.below hbx hPlt)
            have hsx := hbx.size
            clear hbk hbx HPL HPW p0 g0 g1
            go_wp2_with fail
            refine (filled_any A' m c' qs false tb false false sa sb sc sd _ HPX.out hm1 HSAME.out.kinds (by have := HTT.out; omega) HF.out.1 HF.out.2.1 HF.out.2.2.1 HF.out.2.2.2).mono ?_
            rintro e w7 ⟨A7, m7, c7, qs7, rfl, hP7, hT7, ht7, hbl⟩
            have HH7 := Lib.hid (HHX.out.next hbl)
            have HPL7 := Lib.hid (HPLX.out.below hbl (by omega))
            have HP7 := Lib.hid hP7
            have HT7 := Lib.hid hT7
            have HTT7 := Lib.hid ht7
            clear hbl HHX HPX HPLX r0 r1 r2 r3 d0 d1 d2 d3 hP7 hT7 ht7
            go_wp2_with fail
            go_roundw
            case rel =>
              refine ⟨4, A7, m7, c7, qs7, by omega, rfl, rfl, HP7.out, HSAME.out.more HT7.out rfl, ?_, HH7.out, HPL7.out⟩
              have h1 := HTT7.out
              have h2 := HTT.out
              omega
            case measure => simp [intOf]
          · clear b0 b1 b2 b3 d0 d1 d2 d3 HPL
            have HEQ : Hid (writtenT qs = filledT (toldT ta tb tc td sa sb sc sd) ps) := by
              have h := HSAME.out.end_
              rw [stepT_four] at h
              exact h
            have hlen : (writtenT qs).length ≤ 70368744177664 := by
              have h1 := writtenT_tot qs
              have h2 := HTT.out
              have h3 := HSAME.out.length
              have h4 := HL.out
              omega
            have HHQ := Lib.hid (HeldAt.mk2 HHW.out)
            have HBA6 : Hid (Below w.heap.size w wr) := below_call HBA.out HHW.out.1 (Nat.le_refl _)
            have HR6 := Lib.hid ((HR.out.below HBA6.out).more HBA6.out.size)
            obtain ⟨st, hst⟩ : ∃ st : ByteArray, st = ⟨(filledT (toldT ta tb tc td sa sb sc sd) ps).toArray⟩ := ⟨_, rfl⟩
            have HST := Lib.hid hst
            clear hst
            go_wp2_with fail
            have hstart := HHQ.out.drew
            go_region_held3 (fun w' => Below wr.heap.size wr w' ∧ w'.cell? ⟨w.heap.size, 0, none⟩ = some (.bool ta) ∧ w'.cell? ⟨w.heap.size, 1, none⟩ = some (.bool tb) ∧ w'.cell? ⟨w.heap.size, 2, none⟩ = some (.bool tc) ∧ w'.cell? ⟨w.heap.size, 3, none⟩ = some (.bool td) ∧
                w'.cell? ⟨w.heap.size + 1, 0, none⟩ = some (.string sa) ∧ w'.cell? ⟨w.heap.size + 1, 1, none⟩ = some (.string sb) ∧ w'.cell? ⟨w.heap.size + 1, 2, none⟩ = some (.string sc) ∧ w'.cell? ⟨w.heap.size + 1, 3, none⟩ = some (.string sd))
              (first | exact HeldAt.next (by assumption) hbl | exact hstart)
              (first
                | (go_at_call_of 20 (Value.slice A' m c'); refine (impl_Written A' m c' qs _ (HeldAt.parts (by assumption) HPW.out) (by omega) HSAME.out.kinds hlen).mono ?_; rw [HEQ.out, ← HST.out]; rintro e w7 ⟨rfl, hbl⟩; try have HQ8 := Lib.hid ((HQ8.out.below hbl).more hbl.size))
                | (go_at_call 28; refine (filled_any A n c ps ta tb tc td sa sb sc sd _ (HeldAt.parts (by assumption) HR6.out) hn1 HK.out (by omega) HF.out.1 HF.out.2.1 HF.out.2.2.1 HF.out.2.2.2).mono ?_; rintro e w7 ⟨A8, m8, c8, qs8, rfl, hP8, hT8, ht8, hbl⟩; have HQ8 := Lib.hid hP8; have HT8 := Lib.hid hT8; have HTT8 := Lib.hid ht8; clear hP8 hT8 ht8)
                | (go_at_call 20; refine (impl_Written _ _ _ _ _ HQ8.out (by have h1 := HT8.out.length; have h2 := HQ8.out.1; have h3 := HL.out; omega) (fun p hp => ⟨(HT8.out.kinds p hp).1, (HT8.out.kinds p hp).2.1⟩) (by have h0 := writtenT_tot qs8; have h1 := HT8.out.length; have h2 := HTT8.out; have h3 := HL.out; omega)).mono ?_; rw [told_same HT8.out, ← HST.out]; rintro e w7 ⟨rfl, hbl⟩)
                | (go_at_call 13; refine (wakes_any _ (tabOn hT (below_call HBA6.out (HeldAt.one (by assumption)) (Nat.le_refl _)) (Nat.le_refl _))).mono ?_; rintro e w7 ⟨rfl, hbl⟩))
            all_goals go_wp2_with fail
            all_goals go_ret
            all_goals exact ⟨rfl, below_call HBA6.out (HeldAt.one (by assumption)) (Nat.le_refl _)⟩
end Go.Proofs.YtnpghnipjienoaaDoor
