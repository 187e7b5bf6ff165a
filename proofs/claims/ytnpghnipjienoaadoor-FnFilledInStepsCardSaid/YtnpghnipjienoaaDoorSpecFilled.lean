/-
  The contract of spec.Filled.
-/
import Derived.Test.YtnpghnipjienoaaDoorFilled
namespace Go.Proofs.YtnpghnipjienoaaDoor
open Go Go.RowKit Go.Sort

theorem filledT_snoc (T : Int → Option (List UInt8)) (l : List (ByteArray × Int)) (p : ByteArray × Int) : filledT T (l ++ [p]) = filledT T l ++ (p.1.data.toList ++ (T p.2).getD (nameOf p.2)) := by rw [filledT_append, filledT_one]

set_option maxHeartbeats 4000000 in
set_option maxRecDepth 100000 in
theorem spec_Filled (A : Option Addr) (n c : Nat) (ps : List (ByteArray × Int)) (ta tb tc td : Bool) (sa sb sc sd : ByteArray) (w : World) (hr : Parts .i64 w w.heap.size A n ps) (ho : okTpl ps = true)
    (ha : sa.size ≤ 2147483647) (hb : sb.size ≤ 2147483647) (hc : sc.size ≤ 2147483647) (hd : sd.size ≤ 2147483647) :
    Calls Tryd.prog 29 #[.slice A n c, .agg #[.bool ta, .bool tb, .bool tc, .bool td], .agg #[.string sa, .string sb, .string sc, .string sd]] w fun e w' =>
      e = .returned (.string ⟨(filledT (toldT ta tb tc td sa sb sc sd) ps).toArray⟩) ∧ Below w.heap.size w w' := by
  have HO := Lib.hid ((okTpl_iff ps).1 ho)
  have HLA := Lib.hid ha
  have HLB := Lib.hid hb
  have HLC := Lib.hid hc
  have HLD := Lib.hid hd
  clear ho ha hb hc hd
  have HL := Lib.hid hr.1
  have HR := Lib.hid hr
  clear hr
  have hn : n ≤ 1000 := by have := HL.out; have := HO.out.2; omega
  go_enter Tryd.func29, Tryd.ntmps29
  go_wp2_with fail
  have hbA : Below w.heap.size w ((w.alloc (.cells #[.bool ta, .bool tb, .bool tc, .bool td] 53)).alloc (.cells #[.string sa, .string sb, .string sc, .string sd] 54)) := below_alloc ((Below.refl _ _).alloc (Nat.le_refl _) _) (Nat.le_refl _) _
  have hkA : Blk ((w.alloc (.cells #[.bool ta, .bool tb, .bool tc, .bool td] 53)).alloc (.cells #[.string sa, .string sb, .string sc, .string sd] 54)) w.heap.size 53 #[.bool ta, .bool tb, .bool tc, .bool td] := (Blk.new _ _ _).alloc _
  have hkB : Blk ((w.alloc (.cells #[.bool ta, .bool tb, .bool tc, .bool td] 53)).alloc (.cells #[.string sa, .string sb, .string sc, .string sd] 54)) (w.heap.size + 1) 54 #[.string sa, .string sb, .string sc, .string sd] := by
    have h := Blk.new (w.alloc (.cells #[.bool ta, .bool tb, .bool tc, .bool td] 53)) 54 #[.string sa, .string sb, .string sc, .string sd]
    have e : (w.alloc (.cells #[.bool ta, .bool tb, .bool tc, .bool td] 53)).heap.size = w.heap.size + 1 := by simp
    rw [e] at h
    exact h
  have hw0 : w.heap.size + 1 < ((w.alloc (.cells #[.bool ta, .bool tb, .bool tc, .bool td] 53)).alloc (.cells #[.string sa, .string sb, .string sc, .string sd] 54)).heap.size := hkB.lt
  generalize ((w.alloc (.cells #[.bool ta, .bool tb, .bool tc, .bool td] 53)).alloc (.cells #[.string sa, .string sb, .string sc, .string sd] 54)) = w0 at hbA hkA hkB hw0 ⊢
  have HBA := Lib.hid hbA
  have HKA := Lib.hid hkA
  have HKB := Lib.hid hkB
  clear hbA hkA hkB
  go_loopw [7, 12] (fun v i wr => ∃ (k : Nat) (x : ByteArray), k ≤ n ∧ i = .int .i64 k ∧ v = .string x ∧ x.data.toList = filledT (toldT ta tb tc td sa sb sc sd) (ps.take k) ∧ x.size ≤ 2147500000 * k ∧ Below w0.heap.size w0 wr) (fun _ i _ => n - (intOf i).toNat)
  case atStart => exact ⟨0, ⟨#[]⟩, Nat.zero_le _, rfl, rfl, rfl, Nat.le_refl _, Below.refl _ _⟩
  case round =>
    obtain ⟨k, x, hk, rfl, rfl, hx, hxs, hbel⟩ := hrel
    have HX := Lib.hid hx
    clear hx
    by_cases hlt : k < n
    · obtain ⟨b, o, s, z, rfl, hab, hp, h1, h2⟩ := HR.out.at_ hlt
      have hm : (s, z) ∈ ps := List.mem_of_getElem? hp
      obtain ⟨hz0, hz4, hs⟩ := HO.out.1 _ hm
      simp only at hz0 hz4 hs
      have h1' : wr.cell? ⟨b, o + k * 2, none⟩ = some (.string s) := by rw [hbel.cell (by simp; omega), HBA.out.cell (by exact hab)]; exact h1
      have h2' : wr.cell? ⟨b, o + k * 2 + 1, none⟩ = some (.int .i64 z) := by rw [hbel.cell (by simp; omega), HBA.out.cell (by exact hab)]; exact h2
      have HS : Hid (ps.take (k + 1) = ps.take k ++ [(s, z)]) := by
        show _ = _
        rw [List.take_add_one, hp]; rfl
      clear h1 h2 hp hm
      have hbs := hbel.size
      have HK1 := HKA.out.below hbel (by omega)
      have HK2 := HKB.out.below hbel (by omega)
      rcases (show z = 0 ∨ z = 1 ∨ z = 2 ∨ z = 3 ∨ z = 4 by omega) with rfl | rfl | rfl | rfl | rfl
      · have HTZ : Hid (toldT ta tb tc td sa sb sc sd 0 = none) := rfl
        have hnl := nameOf_len 0
        obtain ⟨nm, hnm⟩ : ∃ nm : ByteArray, nm = ⟨(nameOf 0).toArray⟩ := ⟨_, rfl⟩
        have hns : nm.size ≤ 6 := by rw [hnm]; simpa [ByteArray.size] using hnl
        have HNM := Lib.hid hnm
        clear hnm hnl HK1 HK2
        go_wp2_with fail
        have g0 : (wr.alloc (.cells #[.string s, .int .i64 0] 71)).cell? ⟨wr.heap.size, 0, none⟩ = some (.string s) := Lib.cell_of_heap (heap_alloc_new wr _) 0
        have g1 : (wr.alloc (.cells #[.string s, .int .i64 0] 71)).cell? ⟨wr.heap.size, 1, none⟩ = some (.int .i64 0) := Lib.cell_of_heap (heap_alloc_new wr _) 1
        have hb1 := below_alloc hbel (Nat.le_refl _) (.cells #[.string s, .int .i64 0] 71)
        generalize (wr.alloc (.cells #[.string s, .int .i64 0] 71)) = wa at g0 g1 hb1 ⊢
        refine (specName 0 (by omega) (by omega) wa).mono ?_
        rw [← HNM.out]
        rintro e wb ⟨rfl, hbl⟩
        have hb2 := below_call hb1 hbl (Nat.le_refl _)
        go_wp2_with fail
        go_roundw
        case rel =>
          refine ⟨k + 1, x ++ s ++ nm, by omega, by go_num, rfl, ?_, ?_, hb2⟩
          · rw [HS.out, filledT_snoc, HTZ.out, list_append, list_append, HX.out, HNM.out, List.append_assoc]; rfl
          · rw [ByteArray.size_append, ByteArray.size_append]; omega
        case measure => simp [intOf]; omega
      · have t0 : (wr.alloc (.cells #[.string s, .int .i64 1] 71)).cell? ⟨w.heap.size, 0, none⟩ = some (.bool ta) := (World.cell?_alloc_lt wr _ ⟨w.heap.size, 0, none⟩ (by simp; omega)).trans (HK1.cell 0)
        rcases Bool.eq_false_or_eq_true ta with hta | hta
        · rw [hta] at t0
          have HTZ : Hid (toldT ta tb tc td sa sb sc sd 1 = some sa.data.toList) := by show toldT _ _ _ _ _ _ _ _ _ = _; rw [hta]; rfl
          have hsx := HLA.out
          have u0 : (wr.alloc (.cells #[.string s, .int .i64 1] 71)).cell? ⟨w.heap.size + 1, 0, none⟩ = some (.string sa) := (World.cell?_alloc_lt wr _ ⟨w.heap.size + 1, 0, none⟩ (by simp; omega)).trans (HK2.cell 0)
          clear HK1 HK2
          go_wp2_with fail
          go_roundw
          case rel =>
            refine ⟨k + 1, x ++ s ++ sa, by omega, by go_num, rfl, ?_, ?_, below_alloc hbel (Nat.le_refl _) _⟩
            · rw [HS.out, filledT_snoc, HTZ.out, list_append, list_append, HX.out, List.append_assoc]; rfl
            · rw [ByteArray.size_append, ByteArray.size_append]; omega
          case measure => simp [intOf]; omega
        · rw [hta] at t0
          have HTZ : Hid (toldT ta tb tc td sa sb sc sd 1 = none) := by show toldT _ _ _ _ _ _ _ _ _ = _; rw [hta]; rfl
          have hnl := nameOf_len 1
          obtain ⟨nm, hnm⟩ : ∃ nm : ByteArray, nm = ⟨(nameOf 1).toArray⟩ := ⟨_, rfl⟩
          have hns : nm.size ≤ 6 := by rw [hnm]; simpa [ByteArray.size] using hnl
          have HNM := Lib.hid hnm
          clear hnm hnl HK1 HK2
          go_wp2_with fail
          have g0 : (wr.alloc (.cells #[.string s, .int .i64 1] 71)).cell? ⟨wr.heap.size, 0, none⟩ = some (.string s) := Lib.cell_of_heap (heap_alloc_new wr _) 0
          have g1 : (wr.alloc (.cells #[.string s, .int .i64 1] 71)).cell? ⟨wr.heap.size, 1, none⟩ = some (.int .i64 1) := Lib.cell_of_heap (heap_alloc_new wr _) 1
          have hb1 := below_alloc hbel (Nat.le_refl _) (.cells #[.string s, .int .i64 1] 71)
          generalize (wr.alloc (.cells #[.string s, .int .i64 1] 71)) = wa at g0 g1 hb1 ⊢
          clear t0 hta
          refine (specName 1 (by omega) (by omega) wa).mono ?_
          rw [← HNM.out]
          rintro e wb ⟨rfl, hbl⟩
          have hb2 := below_call hb1 hbl (Nat.le_refl _)
          go_wp2_with fail
          go_roundw
          case rel =>
            refine ⟨k + 1, x ++ s ++ nm, by omega, by go_num, rfl, ?_, ?_, hb2⟩
            · rw [HS.out, filledT_snoc, HTZ.out, list_append, list_append, HX.out, HNM.out, List.append_assoc]; rfl
            · rw [ByteArray.size_append, ByteArray.size_append]; omega
          case measure => simp [intOf]; omega
      · have t0 : (wr.alloc (.cells #[.string s, .int .i64 2] 71)).cell? ⟨w.heap.size, 1, none⟩ = some (.bool tb) := (World.cell?_alloc_lt wr _ ⟨w.heap.size, 1, none⟩ (by simp; omega)).trans (HK1.cell 1)
        rcases Bool.eq_false_or_eq_true tb with hta | hta
        · rw [hta] at t0
          have HTZ : Hid (toldT ta tb tc td sa sb sc sd 2 = some sb.data.toList) := by show toldT _ _ _ _ _ _ _ _ _ = _; rw [hta]; rfl
          have hsx := HLB.out
          have u0 : (wr.alloc (.cells #[.string s, .int .i64 2] 71)).cell? ⟨w.heap.size + 1, 1, none⟩ = some (.string sb) := (World.cell?_alloc_lt wr _ ⟨w.heap.size + 1, 1, none⟩ (by simp; omega)).trans (HK2.cell 1)
          clear HK1 HK2
          go_wp2_with fail
          go_roundw
          case rel =>
            refine ⟨k + 1, x ++ s ++ sb, by omega, by go_num, rfl, ?_, ?_, below_alloc hbel (Nat.le_refl _) _⟩
            · rw [HS.out, filledT_snoc, HTZ.out, list_append, list_append, HX.out, List.append_assoc]; rfl
            · rw [ByteArray.size_append, ByteArray.size_append]; omega
          case measure => simp [intOf]; omega
        · rw [hta] at t0
          have HTZ : Hid (toldT ta tb tc td sa sb sc sd 2 = none) := by show toldT _ _ _ _ _ _ _ _ _ = _; rw [hta]; rfl
          have hnl := nameOf_len 2
          obtain ⟨nm, hnm⟩ : ∃ nm : ByteArray, nm = ⟨(nameOf 2).toArray⟩ := ⟨_, rfl⟩
          have hns : nm.size ≤ 6 := by rw [hnm]; simpa [ByteArray.size] using hnl
          have HNM := Lib.hid hnm
          clear hnm hnl HK1 HK2
          go_wp2_with fail
          have g0 : (wr.alloc (.cells #[.string s, .int .i64 2] 71)).cell? ⟨wr.heap.size, 0, none⟩ = some (.string s) := Lib.cell_of_heap (heap_alloc_new wr _) 0
          have g1 : (wr.alloc (.cells #[.string s, .int .i64 2] 71)).cell? ⟨wr.heap.size, 1, none⟩ = some (.int .i64 2) := Lib.cell_of_heap (heap_alloc_new wr _) 1
          have hb1 := below_alloc hbel (Nat.le_refl _) (.cells #[.string s, .int .i64 2] 71)
          generalize (wr.alloc (.cells #[.string s, .int .i64 2] 71)) = wa at g0 g1 hb1 ⊢
          clear t0 hta
          refine (specName 2 (by omega) (by omega) wa).mono ?_
          rw [← HNM.out]
          rintro e wb ⟨rfl, hbl⟩
          have hb2 := below_call hb1 hbl (Nat.le_refl _)
          go_wp2_with fail
          go_roundw
          case rel =>
            refine ⟨k + 1, x ++ s ++ nm, by omega, by go_num, rfl, ?_, ?_, hb2⟩
            · rw [HS.out, filledT_snoc, HTZ.out, list_append, list_append, HX.out, HNM.out, List.append_assoc]; rfl
            · rw [ByteArray.size_append, ByteArray.size_append]; omega
          case measure => simp [intOf]; omega
      · have t0 : (wr.alloc (.cells #[.string s, .int .i64 3] 71)).cell? ⟨w.heap.size, 2, none⟩ = some (.bool tc) := (World.cell?_alloc_lt wr _ ⟨w.heap.size, 2, none⟩ (by simp; omega)).trans (HK1.cell 2)
        rcases Bool.eq_false_or_eq_true tc with hta | hta
        · rw [hta] at t0
          have HTZ : Hid (toldT ta tb tc td sa sb sc sd 3 = some sc.data.toList) := by show toldT _ _ _ _ _ _ _ _ _ = _; rw [hta]; rfl
          have hsx := HLC.out
          have u0 : (wr.alloc (.cells #[.string s, .int .i64 3] 71)).cell? ⟨w.heap.size + 1, 2, none⟩ = some (.string sc) := (World.cell?_alloc_lt wr _ ⟨w.heap.size + 1, 2, none⟩ (by simp; omega)).trans (HK2.cell 2)
          clear HK1 HK2
          go_wp2_with fail
          go_roundw
          case rel =>
            refine ⟨k + 1, x ++ s ++ sc, by omega, by go_num, rfl, ?_, ?_, below_alloc hbel (Nat.le_refl _) _⟩
            · rw [HS.out, filledT_snoc, HTZ.out, list_append, list_append, HX.out, List.append_assoc]; rfl
            · rw [ByteArray.size_append, ByteArray.size_append]; omega
          case measure => simp [intOf]; omega
        · rw [hta] at t0
          have HTZ : Hid (toldT ta tb tc td sa sb sc sd 3 = none) := by show toldT _ _ _ _ _ _ _ _ _ = _; rw [hta]; rfl
          have hnl := nameOf_len 3
          obtain ⟨nm, hnm⟩ : ∃ nm : ByteArray, nm = ⟨(nameOf 3).toArray⟩ := ⟨_, rfl⟩
          have hns : nm.size ≤ 6 := by rw [hnm]; simpa [ByteArray.size] using hnl
          have HNM := Lib.hid hnm
          clear hnm hnl HK1 HK2
          go_wp2_with fail
          have g0 : (wr.alloc (.cells #[.string s, .int .i64 3] 71)).cell? ⟨wr.heap.size, 0, none⟩ = some (.string s) := Lib.cell_of_heap (heap_alloc_new wr _) 0
          have g1 : (wr.alloc (.cells #[.string s, .int .i64 3] 71)).cell? ⟨wr.heap.size, 1, none⟩ = some (.int .i64 3) := Lib.cell_of_heap (heap_alloc_new wr _) 1
          have hb1 := below_alloc hbel (Nat.le_refl _) (.cells #[.string s, .int .i64 3] 71)
          generalize (wr.alloc (.cells #[.string s, .int .i64 3] 71)) = wa at g0 g1 hb1 ⊢
          clear t0 hta
          refine (specName 3 (by omega) (by omega) wa).mono ?_
          rw [← HNM.out]
          rintro e wb ⟨rfl, hbl⟩
          have hb2 := below_call hb1 hbl (Nat.le_refl _)
          go_wp2_with fail
          go_roundw
          case rel =>
            refine ⟨k + 1, x ++ s ++ nm, by omega, by go_num, rfl, ?_, ?_, hb2⟩
            · rw [HS.out, filledT_snoc, HTZ.out, list_append, list_append, HX.out, HNM.out, List.append_assoc]; rfl
            · rw [ByteArray.size_append, ByteArray.size_append]; omega
          case measure => simp [intOf]; omega
      · have t0 : (wr.alloc (.cells #[.string s, .int .i64 4] 71)).cell? ⟨w.heap.size, 3, none⟩ = some (.bool td) := (World.cell?_alloc_lt wr _ ⟨w.heap.size, 3, none⟩ (by simp; omega)).trans (HK1.cell 3)
        rcases Bool.eq_false_or_eq_true td with hta | hta
        · rw [hta] at t0
          have HTZ : Hid (toldT ta tb tc td sa sb sc sd 4 = some sd.data.toList) := by show toldT _ _ _ _ _ _ _ _ _ = _; rw [hta]; rfl
          have hsx := HLD.out
          have u0 : (wr.alloc (.cells #[.string s, .int .i64 4] 71)).cell? ⟨w.heap.size + 1, 3, none⟩ = some (.string sd) := (World.cell?_alloc_lt wr _ ⟨w.heap.size + 1, 3, none⟩ (by simp; omega)).trans (HK2.cell 3)
          clear HK1 HK2
          go_wp2_with fail
          go_roundw
          case rel =>
            refine ⟨k + 1, x ++ s ++ sd, by omega, by go_num, rfl, ?_, ?_, below_alloc hbel (Nat.le_refl _) _⟩
            · rw [HS.out, filledT_snoc, HTZ.out, list_append, list_append, HX.out, List.append_assoc]; rfl
            · rw [ByteArray.size_append, ByteArray.size_append]; omega
          case measure => simp [intOf]; omega
        · rw [hta] at t0
          have HTZ : Hid (toldT ta tb tc td sa sb sc sd 4 = none) := by show toldT _ _ _ _ _ _ _ _ _ = _; rw [hta]; rfl
          have hnl := nameOf_len 4
          obtain ⟨nm, hnm⟩ : ∃ nm : ByteArray, nm = ⟨(nameOf 4).toArray⟩ := ⟨_, rfl⟩
          have hns : nm.size ≤ 6 := by rw [hnm]; simpa [ByteArray.size] using hnl
          have HNM := Lib.hid hnm
          clear hnm hnl HK1 HK2
          go_wp2_with fail
          have g0 : (wr.alloc (.cells #[.string s, .int .i64 4] 71)).cell? ⟨wr.heap.size, 0, none⟩ = some (.string s) := Lib.cell_of_heap (heap_alloc_new wr _) 0
          have g1 : (wr.alloc (.cells #[.string s, .int .i64 4] 71)).cell? ⟨wr.heap.size, 1, none⟩ = some (.int .i64 4) := Lib.cell_of_heap (heap_alloc_new wr _) 1
          have hb1 := below_alloc hbel (Nat.le_refl _) (.cells #[.string s, .int .i64 4] 71)
          generalize (wr.alloc (.cells #[.string s, .int .i64 4] 71)) = wa at g0 g1 hb1 ⊢
          clear t0 hta
          refine (specName 4 (by omega) (by omega) wa).mono ?_
          rw [← HNM.out]
          rintro e wb ⟨rfl, hbl⟩
          have hb2 := below_call hb1 hbl (Nat.le_refl _)
          go_wp2_with fail
          go_roundw
          case rel =>
            refine ⟨k + 1, x ++ s ++ nm, by omega, by go_num, rfl, ?_, ?_, hb2⟩
            · rw [HS.out, filledT_snoc, HTZ.out, list_append, list_append, HX.out, HNM.out, List.append_assoc]; rfl
            · rw [ByteArray.size_append, ByteArray.size_append]; omega
          case measure => simp [intOf]; omega
    · obtain rfl : k = n := by omega
      go_wp2
      go_ret
      have hx := HX.out
      rw [List.take_of_length_le (by have := HL.out; omega)] at hx
      exact ⟨by rw [← string_of hx]; rfl, below_call HBA.out hbel (by have := HBA.out.size; omega)⟩
end Go.Proofs.YtnpghnipjienoaaDoor
