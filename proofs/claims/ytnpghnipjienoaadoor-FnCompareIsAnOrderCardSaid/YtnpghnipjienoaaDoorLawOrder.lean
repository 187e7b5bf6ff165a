/-
  The walk of the law FnCompareIsAnOrder.
-/
import Derived.Test.YtnpghnipjienoaaDoorCompare
import Derived.Deep.Cut
import Derived.Test.YtnpghnipjienoaaDoorSignLaw
namespace Go.Proofs.YtnpghnipjienoaaDoor
open Go Go.RowKit Go.Sort

theorem VersIn.three (w : World) (a b c : Ver) : VersIn (w.alloc (.cells #[.slice a.A a.n a.c, .string a.tail, .slice b.A b.n b.c, .string b.tail, .slice c.A c.n c.c, .string c.tail] 24)) (w.alloc (.cells #[.slice a.A a.n a.c, .string a.tail, .slice b.A b.n b.c, .string b.tail, .slice c.A c.n c.c, .string c.tail] 24)).heap.size (some ⟨w.heap.size, 0, none⟩) 3 [a, b, c] := by
  refine ⟨rfl, fun _ => ⟨_, _, rfl, by simp, fun j p hp => ?_⟩⟩
  match j, hp with
  | 0, hp =>
    simp at hp; subst hp
    exact ⟨Lib.cell_of_heap (heap_alloc_new w _) 0, Lib.cell_of_heap (heap_alloc_new w _) 1⟩
  | 1, hp =>
    simp at hp; subst hp
    exact ⟨Lib.cell_of_heap (heap_alloc_new w _) 2, Lib.cell_of_heap (heap_alloc_new w _) 3⟩
  | 2, hp =>
    simp at hp; subst hp
    exact ⟨Lib.cell_of_heap (heap_alloc_new w _) 4, Lib.cell_of_heap (heap_alloc_new w _) 5⟩
  | j + 3, hp => simp at hp

set_option maxHeartbeats 8000000 in
set_option maxRecDepth 100000 in
theorem orderLaw (va vb vc : Ver) (w : World) (ra : Reads w w.heap.size 1 va.A va.n (ints va.zs)) (rb : Reads w w.heap.size 1 vb.A vb.n (ints vb.zs)) (rc : Reads w w.heap.size 1 vc.A vc.n (ints vc.zs))
    (na : va.n ≤ 9223372036854775807) (nb : vb.n ≤ 9223372036854775807) (nc : vc.n ≤ 9223372036854775807) (ta : va.tail.size ≤ 9223372036854775807) (tb : vb.tail.size ≤ 9223372036854775807) (tc : vc.tail.size ≤ 9223372036854775807)
    (hS : Sent w) (hT : Lib.TabIs Tryd.prog w "internal/strconv.uint64pow10" .u64 Lib.pow10Tab) :
    Calls Tryd.prog 10 #[.agg #[.slice va.A va.n va.c, .string va.tail], .agg #[.slice vb.A vb.n vb.c, .string vb.tail], .agg #[.slice vc.A vc.n vc.c, .string vc.tail]] w fun e w' => e = .returned (.bool true) ∧ Below w.heap.size w w' := by
  obtain ⟨A1, n1, c1, zs1, t1⟩ := va
  obtain ⟨A2, n2, c2, zs2, t2⟩ := vb
  obtain ⟨A3, n3, c3, zs3, t3⟩ := vc
  simp only at ra rb rc na nb nc ta tb tc
  have RA := Lib.hid ra
  have RB := Lib.hid rb
  have RC := Lib.hid rc
  have HS := Lib.hid hS
  have HT := Lib.hid hT
  have L1 : Hid (zs1.length = n1) := by have := ra.1; simp at this; exact this
  have L2 : Hid (zs2.length = n2) := by have := rb.1; simp at this; exact this
  have L3 : Hid (zs3.length = n3) := by have := rc.1; simp at this; exact this
  clear ra rb rc hS hT
  have blk3 : ∃ W : World, W = (((w.alloc (.cells #[.slice A1 n1 c1, .string t1] 24)).alloc (.cells #[.slice A2 n2 c2, .string t2] 24)).alloc (.cells #[.slice A3 n3 c3, .string t3] 24)) := ⟨_, rfl⟩
  obtain ⟨W, hW⟩ := blk3
  have hbA : Below w.heap.size w W := by rw [hW]; exact (((Below.refl _ _).alloc (Nat.le_refl _) _).alloc (by simp) _).alloc (by simp; omega) _
  have hk1 : Blk W w.heap.size 24 #[.slice A1 n1 c1, .string t1] := by rw [hW]; exact ((Blk.new _ _ _).alloc _).alloc _
  have hk2 : Blk W (w.heap.size + 1) 24 #[.slice A2 n2 c2, .string t2] := by
    have h := (Blk.new (w.alloc (.cells #[.slice A1 n1 c1, .string t1] 24)) 24 #[.slice A2 n2 c2, .string t2]).alloc (.cells #[.slice A3 n3 c3, .string t3] 24)
    have e : (w.alloc (.cells #[.slice A1 n1 c1, .string t1] 24)).heap.size = w.heap.size + 1 := by simp
    rw [e] at h
    rw [hW]; exact h
  have hk3 : Blk W (w.heap.size + 2) 24 #[.slice A3 n3 c3, .string t3] := by
    have h := Blk.new ((w.alloc (.cells #[.slice A1 n1 c1, .string t1] 24)).alloc (.cells #[.slice A2 n2 c2, .string t2] 24)) 24 #[.slice A3 n3 c3, .string t3]
    have e : ((w.alloc (.cells #[.slice A1 n1 c1, .string t1] 24)).alloc (.cells #[.slice A2 n2 c2, .string t2] 24)).heap.size = w.heap.size + 2 := by simp
    rw [e] at h
    rw [hW]; exact h
  have HBA := Lib.hid hbA
  have HK1 := Lib.hid hk1
  have HK2 := Lib.hid hk2
  have HK3 := Lib.hid hk3
  clear hbA hk1 hk2 hk3
  have hWlt : w.heap.size + 2 < W.heap.size := HK3.out.lt
  go_enter Tryd.func10, Tryd.ntmps10
  go_upto_region 1 with (fail)
  rw [← hW]
  clear hW
  have a0 : W.cell? ⟨w.heap.size, 0, none⟩ = some (.slice A1 n1 c1) := HK1.out.cell 0
  have a1 : W.cell? ⟨w.heap.size, 1, none⟩ = some (.string t1) := HK1.out.cell 1
  go_wp2_with fail
  refine (zzFits1_any A1 n1 c1 t1 _ na ta).mono ?_
  by_cases f1 : n1 ≤ 2147483647 ∧ t1.size ≤ 2147483647
  · rw [decide_eq_true f1.1, decide_eq_true f1.2]
    rintro e w1 ⟨rfl, hb1⟩
    clear a0 a1
    have b0 : w1.cell? ⟨w.heap.size + 1, 0, none⟩ = some (.slice A2 n2 c2) := (HK2.out.below hb1 (by omega)).cell 0
    have b1 : w1.cell? ⟨w.heap.size + 1, 1, none⟩ = some (.string t2) := (HK2.out.below hb1 (by omega)).cell 1
    have H1 := Lib.hid hb1
    clear hb1
    go_wp2_with fail
    refine (zzFits1_any A2 n2 c2 t2 _ nb tb).mono ?_
    by_cases f2 : n2 ≤ 2147483647 ∧ t2.size ≤ 2147483647
    · rw [decide_eq_true f2.1, decide_eq_true f2.2]
      rintro e w2 ⟨rfl, hbl⟩
      clear b0 b1
      have hb2 := below_call H1.out hbl (Nat.le_refl _)
      have d0 : w2.cell? ⟨w.heap.size + 2, 0, none⟩ = some (.slice A3 n3 c3) := (HK3.out.below hb2 (by omega)).cell 0
      have d1 : w2.cell? ⟨w.heap.size + 2, 1, none⟩ = some (.string t3) := (HK3.out.below hb2 (by omega)).cell 1
      have H2 := Lib.hid hb2
      clear hb2 hbl H1
      go_wp2_with fail
      refine (zzFits1_any A3 n3 c3 t3 _ nc tc).mono ?_
      by_cases f3 : n3 ≤ 2147483647 ∧ t3.size ≤ 2147483647
      · rw [decide_eq_true f3.1, decide_eq_true f3.2]
        rintro e w3 ⟨rfl, hbl⟩
        clear d0 d1
        have hb3 := below_call H2.out hbl (Nat.le_refl _)
        have K1 := HK1.out.below hb3 (by omega)
        have K2 := HK2.out.below hb3 (by omega)
        have K3 := HK3.out.below hb3 (by omega)
        have a0 : w3.cell? ⟨w.heap.size, 0, none⟩ = some (.slice A1 n1 c1) := K1.cell 0
        have a1 : w3.cell? ⟨w.heap.size, 1, none⟩ = some (.string t1) := K1.cell 1
        have b0 : w3.cell? ⟨w.heap.size + 1, 0, none⟩ = some (.slice A2 n2 c2) := K2.cell 0
        have b1 : w3.cell? ⟨w.heap.size + 1, 1, none⟩ = some (.string t2) := K2.cell 1
        have d0 : w3.cell? ⟨w.heap.size + 2, 0, none⟩ = some (.slice A3 n3 c3) := K3.cell 0
        have d1 : w3.cell? ⟨w.heap.size + 2, 1, none⟩ = some (.string t3) := K3.cell 1
        have H3 := Lib.hid hb3
        clear hb3 hbl H2 K1 K2 K3 na nb nc ta tb tc
        go_wp2_with fail
        have HW3 : Hid (Below w.heap.size w w3) := below_call HBA.out H3.out (Nat.le_refl _)
        have HV := Lib.hid (VersIn.three w3 ⟨A1, n1, c1, zs1, t1⟩ ⟨A2, n2, c2, zs2, t2⟩ ⟨A3, n3, c3, zs3, t3⟩)
        have hb4 : Below w.heap.size w (w3.alloc (.cells #[.slice A1 n1 c1, .string t1, .slice A2 n2 c2, .string t2, .slice A3 n3 c3, .string t3] 24)) := below_alloc HW3.out (Nat.le_refl _) _
        have hb34 : Below w3.heap.size w3 (w3.alloc (.cells #[.slice A1 n1 c1, .string t1, .slice A2 n2 c2, .string t2, .slice A3 n3 c3, .string t3] 24)) := (Below.refl _ _).alloc (Nat.le_refl _) _
        refine (are_any _ 3 3 [⟨A1, n1, c1, zs1, t1⟩, ⟨A2, n2, c2, zs2, t2⟩, ⟨A3, n3, c3, zs3, t3⟩] _ HV.out (by omega) (by
          intro v hv
          simp only [List.mem_cons, List.not_mem_nil, or_false] at hv
          rcases hv with rfl | rfl | rfl
          · exact ⟨(RA.out.below hb4).more hb4.size, f1.1⟩
          · exact ⟨(RB.out.below hb4).more hb4.size, f2.1⟩
          · exact ⟨(RC.out.below hb4).more hb4.size, f3.1⟩)).mono ?_
        clear a0 a1 b0 b1 d0 d1 HV
        have hov : okVers [(⟨A1, n1, c1, zs1, t1⟩ : Ver), ⟨A2, n2, c2, zs2, t2⟩, ⟨A3, n3, c3, zs3, t3⟩] = (okNums zs1 && (okNums zs2 && okNums zs3)) := by simp [okVers]
        rw [hov]
        clear hov
        cases hok : (okNums zs1 && (okNums zs2 && okNums zs3)) with
        | false =>
          clear hok
          rintro e w5 ⟨rfl, hbl⟩
          have hb5 := below_call hb4 hbl (Nat.le_refl _)
          clear hbl hb4 hb34
          go_wp2_with fail
          refine (wakes_any _ (tabOn HT.out hb5 (Nat.le_refl _))).mono ?_
          rintro e w9 ⟨rfl, hbl⟩
          have hb9 := below_call hb5 hbl (Nat.le_refl _)
          clear hbl
          go_wp2_with fail
          go_ret
          exact ⟨rfl, hb9⟩
        | true =>
          rw [Bool.and_eq_true, Bool.and_eq_true] at hok
          have G1 : Hid (GoodV w A1 n1 zs1 t1) := by
            have h := (okNums_iff zs1).1 hok.1
            exact ⟨RA.out, h.1, by have := L1.out; omega, f1.2⟩
          have G2 : Hid (GoodV w A2 n2 zs2 t2) := by
            have h := (okNums_iff zs2).1 hok.2.1
            exact ⟨RB.out, h.1, by have := L2.out; omega, f2.2⟩
          have G3 : Hid (GoodV w A3 n3 zs3 t3) := by
            have h := (okNums_iff zs3).1 hok.2.2
            exact ⟨RC.out, h.1, by have := L3.out; omega, f3.2⟩
          clear hok
          rintro e w4 ⟨rfl, hbl⟩
          have HW4 := Lib.hid (below_call hb4 hbl (Nat.le_refl _))
          have hb5 : Below W.heap.size W w4 := below_call (below_call H3.out hb34 (Nat.le_refl _)) hbl (Nat.le_refl _)
          clear hbl hb4 hb34 HW3 H3
          have HH5 := Lib.hid hb5
          have K1 := HK1.out.below hb5 (by omega)
          have K2 := HK2.out.below hb5 (by omega)
          have K3 := HK3.out.below hb5 (by omega)
          have a0 : w4.cell? ⟨w.heap.size, 0, none⟩ = some (.slice A1 n1 c1) := K1.cell 0
          have a1 : w4.cell? ⟨w.heap.size, 1, none⟩ = some (.string t1) := K1.cell 1
          have b0 : w4.cell? ⟨w.heap.size + 1, 0, none⟩ = some (.slice A2 n2 c2) := K2.cell 0
          have b1 : w4.cell? ⟨w.heap.size + 1, 1, none⟩ = some (.string t2) := K2.cell 1
          have d0 : w4.cell? ⟨w.heap.size + 2, 0, none⟩ = some (.slice A3 n3 c3) := K3.cell 0
          have d1 : w4.cell? ⟨w.heap.size + 2, 1, none⟩ = some (.string t3) := K3.cell 1
          clear K1 K2 K3 hb5
          obtain ⟨p, hp⟩ : ∃ p, p = (verC (zs1, t1.data.toList) (zs2, t2.data.toList)).sign := ⟨_, rfl⟩
          obtain ⟨q, hq⟩ : ∃ q, q = (verC (zs2, t2.data.toList) (zs3, t3.data.toList)).sign := ⟨_, rfl⟩
          obtain ⟨r, hr⟩ : ∃ r, r = (verC (zs1, t1.data.toList) (zs3, t3.data.toList)).sign := ⟨_, rfl⟩
          obtain ⟨p', hp'⟩ : ∃ p', p' = (verC (zs2, t2.data.toList) (zs1, t1.data.toList)).sign := ⟨_, rfl⟩
          obtain ⟨z, hz⟩ : ∃ z, z = (verC (zs1, t1.data.toList) (zs1, t1.data.toList)).sign := ⟨_, rfl⟩
          have HSL := Lib.hid (sign_law _ _ _ p p' q r z hp hp' hq hr hz)
          have HB : ∀ d os, Below w.heap.size w (grow (redrawn w4 d) os) := fun d os => below_call HW4.out (below_regrown w4 d os) (Nat.le_refl _)
          have cP : Hid (∀ d os, Calls Tryd.prog 30 #[.agg #[.slice A1 n1 c1, .string t1], .agg #[.slice A2 n2 c2, .string t2]] (grow (redrawn w4 d) os) fun e w'' => e = .returned (.int .i64 p) ∧ ∃ x : Regrown, w'' = grow (redrawn w4 x.d) x.os) := fun d os => Calls.regrown_of (by rw [hp]; exact compare_any A1 A2 n1 n2 c1 c2 zs1 zs2 t1 t2 _ (G1.out.keep (HB d os)) (G2.out.keep (HB d os)) (HS.out.keep (HB d os)))
          have cQ : Hid (∀ d os, Calls Tryd.prog 30 #[.agg #[.slice A2 n2 c2, .string t2], .agg #[.slice A3 n3 c3, .string t3]] (grow (redrawn w4 d) os) fun e w'' => e = .returned (.int .i64 q) ∧ ∃ x : Regrown, w'' = grow (redrawn w4 x.d) x.os) := fun d os => Calls.regrown_of (by rw [hq]; exact compare_any A2 A3 n2 n3 c2 c3 zs2 zs3 t2 t3 _ (G2.out.keep (HB d os)) (G3.out.keep (HB d os)) (HS.out.keep (HB d os)))
          have cR : Hid (∀ d os, Calls Tryd.prog 30 #[.agg #[.slice A1 n1 c1, .string t1], .agg #[.slice A3 n3 c3, .string t3]] (grow (redrawn w4 d) os) fun e w'' => e = .returned (.int .i64 r) ∧ ∃ x : Regrown, w'' = grow (redrawn w4 x.d) x.os) := fun d os => Calls.regrown_of (by rw [hr]; exact compare_any A1 A3 n1 n3 c1 c3 zs1 zs3 t1 t3 _ (G1.out.keep (HB d os)) (G3.out.keep (HB d os)) (HS.out.keep (HB d os)))
          have HP' := Lib.hid hp'
          have HZ := Lib.hid hz
          clear hp hq hr hp' hz HB
          go_wp2_with fail
          have k0 := fun d os => cell_regrown a0 d os
          have k1 := fun d os => cell_regrown a1 d os
          have k2 := fun d os => cell_regrown b0 d os
          have k3 := fun d os => cell_regrown b1 d os
          have k4 := fun d os => cell_regrown d0 d os
          have k5 := fun d os => cell_regrown d1 d os
          clear a0 a1 b0 b1 d0 d1
          refine wp_region_quiet_below (by kernel_rfl) (by kernel_rfl) ?_
          quiet_step (fail)
          quiet_step (fail)
          quiet_step (exact cP.out _ _)
          quiet_step (fail)
          quiet_step (fail)
          quiet_step (exact cQ.out _ _)
          quiet_step (fail)
          quiet_step (fail)
          quiet_step (exact cR.out _ _)
          quiet_step (fail)
          quiet_step (fail)
          quiet_step (fail)
          refine wpQuiet_nil ?_
          intro _ hw'
          obtain ⟨⟨dq, osq⟩, hw''⟩ := hw'
          subst hw''
          clear k0 k1 k2 k3 k4 k5 cP cQ cR
          have hb6 := below_regrown w4 dq osq
          generalize (grow (redrawn w4 dq) osq) = wb at hb6 ⊢
          have HWB := Lib.hid (below_call HW4.out hb6 (Nat.le_refl _))
          have HHB := Lib.hid (below_call HH5.out hb6 (Nat.le_refl _))
          clear hb6
          have a0 : wb.cell? ⟨w.heap.size, 0, none⟩ = some (.slice A1 n1 c1) := (HK1.out.below HHB.out (by omega)).cell 0
          have a1 : wb.cell? ⟨w.heap.size, 1, none⟩ = some (.string t1) := (HK1.out.below HHB.out (by omega)).cell 1
          have b0 : wb.cell? ⟨w.heap.size + 1, 0, none⟩ = some (.slice A2 n2 c2) := (HK2.out.below HHB.out (by omega)).cell 0
          have b1 : wb.cell? ⟨w.heap.size + 1, 1, none⟩ = some (.string t2) := (HK2.out.below HHB.out (by omega)).cell 1
          obtain ⟨rfl, hc⟩ := HSL.out
          clear HSL
          rcases hc with ⟨rfl, rfl⟩ | ⟨rfl, rfl, rfl⟩ | ⟨rfl, rfl, rfl⟩ | ⟨rfl, rfl, rfl, rfl⟩ | ⟨rfl, rfl, rfl, rfl⟩ | ⟨rfl, rfl, rfl, rfl⟩ | ⟨rfl, rfl, rfl, rfl⟩
          all_goals
            go_wp2_with fail
            refine (compare_any A2 A1 n2 n1 c2 c1 zs2 zs1 t2 t1 _ (G2.out.keep HWB.out) (G1.out.keep HWB.out) (HS.out.keep HWB.out)).mono ?_
            rw [← HP'.out]
            rintro e w6 ⟨rfl, hbl⟩
            have HW6 := Lib.hid (below_call HWB.out hbl (Nat.le_refl _))
            have HH6 := Lib.hid (below_call HHB.out hbl (Nat.le_refl _))
            clear a0 a1 b0 b1 hbl
            have a0 : w6.cell? ⟨w.heap.size, 0, none⟩ = some (.slice A1 n1 c1) := (HK1.out.below HH6.out (by omega)).cell 0
            have a1 : w6.cell? ⟨w.heap.size, 1, none⟩ = some (.string t1) := (HK1.out.below HH6.out (by omega)).cell 1
            go_wp2_with fail
            refine (compare_any A1 A1 n1 n1 c1 c1 zs1 zs1 t1 t1 _ (G1.out.keep HW6.out) (G1.out.keep HW6.out) (HS.out.keep HW6.out)).mono ?_
            rw [← HZ.out]
            rintro e w7 ⟨rfl, hbl⟩
            have HW7 := Lib.hid (below_call HW6.out hbl (Nat.le_refl _))
            clear a0 a1 hbl
            go_wp2_with fail
            refine (wakes_any _ (tabOn HT.out HW7.out (Nat.le_refl _))).mono ?_
            rintro e w9 ⟨rfl, hbl⟩
            have hb9 := below_call HW7.out hbl (Nat.le_refl _)
            clear hbl
            go_wp2_with fail
            go_ret
            exact ⟨rfl, hb9⟩
      · rw [show (decide (n3 ≤ 2147483647) && decide (t3.size ≤ 2147483647)) = false by rw [Bool.eq_false_iff, ne_eq, Bool.and_eq_true, decide_eq_true_eq, decide_eq_true_eq]; exact f3]
        rintro e wz ⟨rfl, hbl⟩
        have hbz := below_call (below_call HBA.out H2.out (Nat.le_refl _)) hbl (Nat.le_refl _)
        clear hbl
        go_wp2_with fail
        go_ret
        exact ⟨rfl, hbz⟩
    · rw [show (decide (n2 ≤ 2147483647) && decide (t2.size ≤ 2147483647)) = false by rw [Bool.eq_false_iff, ne_eq, Bool.and_eq_true, decide_eq_true_eq, decide_eq_true_eq]; exact f2]
      rintro e wz ⟨rfl, hbl⟩
      have hbz := below_call (below_call HBA.out H1.out (Nat.le_refl _)) hbl (Nat.le_refl _)
      clear hbl
      go_wp2_with fail
      go_ret
      exact ⟨rfl, hbz⟩
  · rw [show (decide (n1 ≤ 2147483647) && decide (t1.size ≤ 2147483647)) = false by rw [Bool.eq_false_iff, ne_eq, Bool.and_eq_true, decide_eq_true_eq, decide_eq_true_eq]; exact f1]
    rintro e wz ⟨rfl, hbl⟩
    have hbz := below_call HBA.out hbl (Nat.le_refl _)
    clear hbl
    go_wp2_with fail
    go_ret
    exact ⟨rfl, hbz⟩
end Go.Proofs.YtnpghnipjienoaaDoor
