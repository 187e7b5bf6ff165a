/-
  The contract of compat.CompareSemver.
-/
import Derived.Test.YtnpghnipjienoaaDoorHeadNum
import Derived.Test.YtnpghnipjienoaaDoorAre
namespace Go.Proofs.YtnpghnipjienoaaDoor
open Go Go.RowKit

theorem nth_int {w : World} {B n : Nat} {A : Option Addr} {zs : List Int} {k : Nat} (h : Reads w B 1 A n (ints zs)) (hk : k < n) : ∃ ad : Addr, A = some ad ∧ ad.block < B ∧ w.cell? (ad.add k) = some (.int .i64 (zs.getD k 0)) ∧ k < zs.length := by
  obtain ⟨ad, u, h1, h2, h3, h4⟩ := h.at_ hk
  have h3' := h3
  unfold ints at h3'
  rw [List.getElem?_map, Option.map_eq_some_iff] at h3'
  obtain ⟨z, hz, rfl⟩ := h3'
  have hl := (List.getElem?_eq_some_iff.1 hz).1
  refine ⟨ad, h1, h2, ?_, hl⟩
  rw [h4, List.getD_eq_getElem?_getD, hz]
  rfl
theorem getD_in {zs : List Int} (h : ∀ z ∈ zs, 0 ≤ z ∧ z ≤ 1000000000) (k : Nat) : 0 ≤ zs.getD k 0 ∧ zs.getD k 0 ≤ 1000000000 := by
  by_cases hk : k < zs.length
  · rw [getD_lt _ _ _ hk]
    exact h _ (List.getElem_mem hk)
  · rw [getD_out _ _ (by omega)]
    omega

/-- The sign is that of the plain comparison; no int is left. -/
def Signed (r z : Int) : Prop := r.sign = z.sign
theorem verC_parts {zs ys : List Int} {s t : List UInt8} (h : partsC zs ys ≠ 0) : verC (zs, s) (ys, t) = partsC zs ys := by
  unfold verC lexF
  rw [if_neg h]
theorem verC_pre_ {zs ys : List Int} {s t : List UInt8} (h : partsC zs ys = 0) : verC (zs, s) (ys, t) = preC s t := by
  unfold verC lexF
  rw [if_pos h]

/-- The length of a string value. -/
def strSize : Value → Nat
  | .string s => s.size
  | _ => 0
theorem empty_of {s : ByteArray} (h : s.toList.isEmpty = true) : s.data.toList = [] ∧ s.size = 0 := by
  rw [Lib.toList_data, List.isEmpty_iff] at h
  exact ⟨h, by rw [← size_list, h]; rfl⟩
theorem full_of {s : ByteArray} (h : s.toList.isEmpty = false) : s.data.toList ≠ [] ∧ 0 < s.size := by
  rw [Lib.toList_data] at h
  have hne : s.data.toList ≠ [] := by intro e; rw [e] at h; cases h
  exact ⟨hne, by rw [← size_list]; exact List.length_pos_iff.2 hne⟩
theorem trim_len (l : List UInt8) : (Lib.trimPrefix l [45]).length ≤ l.length := by
  unfold Lib.trimPrefix
  split
  · rw [List.length_drop]; omega
  · exact Nat.le_refl _
theorem preC_same {s t : List UInt8} (h : presence s = presence t) : preC s t = tailC (Lib.trimPrefix s [45]) (Lib.trimPrefix t [45]) := by
  unfold preC lexF byKey
  rw [if_pos (by omega)]
theorem preC_left {s t : List UInt8} (hs : s = []) (ht : t ≠ []) : preC s t = 1 := by
  unfold preC lexF byKey presence
  rw [if_pos hs, if_neg ht]
  rfl
theorem preC_right {s t : List UInt8} (hs : s ≠ []) (ht : t = []) : preC s t = -1 := by
  unfold preC lexF byKey presence
  rw [if_neg hs, if_pos ht]
  rfl
theorem sign_pos {x : Int} (h : 0 < x) : x.sign = 1 := Int.sign_eq_one_of_pos h
theorem sign_neg {x : Int} (h : x < 0) : x.sign = -1 := Int.sign_eq_neg_one_of_neg h
/-- Where the heads differ, they decide. -/
theorem heads_decide {s t : List UInt8} (hs : s ≠ []) (ht : t ≠ []) (hne : headOf s ≠ headOf t) : tailC s t = headC (headOf s) (headOf t) := by
  rw [tailC_step hs ht, if_neg fun h => hne (headC_zero h)]
theorem heads_go {s t : List UInt8} (hs : s ≠ []) (ht : t ≠ []) (he : headOf s = headOf t) : tailC s t = tailC (restOf s) (restOf t) := by
  rw [tailC_step hs ht, he, if_pos (headC_self _)]
theorem rest_size {s r : ByteArray} (hr : r.data.toList = restOf s.data.toList) (hs : s.data.toList ≠ []) : r.size < s.size := by
  rw [← size_list, ← size_list s, hr]
  cases h : s.data.toList with
  | nil => exact absurd h hs
  | cons c l => have := restOf_lt c l; rw [List.length_cons]; omega

def SemPost (a b : List Int × List UInt8) (w : World) (e : Ending) (w' : World) : Prop := ∃ r : Int, e = .returned (.int .i64 r) ∧ r.sign = (verC a b).sign ∧ (-9223372036854775807 ≤ r ∧ r ≤ 9223372036854775807) ∧ Below w.heap.size w w'

set_option maxHeartbeats 4000000 in
set_option maxRecDepth 100000 in
theorem semver_any (A1 A2 : Option Addr) (n1 n2 c1 c2 : Nat) (zs1 zs2 : List Int) (t1 t2 : ByteArray) (w : World) (hr1 : Reads w w.heap.size 1 A1 n1 (ints zs1)) (hr2 : Reads w w.heap.size 1 A2 n2 (ints zs2))
    (hz1 : ∀ z ∈ zs1, 0 ≤ z ∧ z ≤ 1000000000) (hz2 : ∀ z ∈ zs2, 0 ≤ z ∧ z ≤ 1000000000) (hn1 : n1 ≤ 100) (hn2 : n2 ≤ 100) (ht1 : t1.size ≤ 2147483647) (ht2 : t2.size ≤ 2147483647)
    (ev2 ev3 : Value) (h2 : w.cell? ⟨2, 0, none⟩ = some ev2) (hev2 : ev2 = .nilIface ∨ ∃ te pe, ev2 = .iface te pe) (h3 : w.cell? ⟨3, 0, none⟩ = some ev3) (hev3 : ev3 = .nilIface ∨ ∃ te pe, ev3 = .iface te pe) :
    Calls Tryd.prog 44 #[.agg #[.slice A1 n1 c1, .string t1], .agg #[.slice A2 n2 c2, .string t2]] w (SemPost (zs1, t1.data.toList) (zs2, t2.data.toList) w) := by
  have HR1 := Lib.hid hr1
  have HR2 := Lib.hid hr2
  have HZ1 := Lib.hid hz1
  have HZ2 := Lib.hid hz2
  have HL1 : Hid (zs1.length = n1) := by have := hr1.1; simp at this; exact this
  have HL2 : Hid (zs2.length = n2) := by have := hr2.1; simp at this; exact this
  have H2 := Lib.hid h2
  have H3 := Lib.hid h3
  have E2 := Lib.hid hev2
  have E3 := Lib.hid hev3
  clear hr1 hr2 hz1 hz2 h2 hev2 h3 hev3
  have hbA : Below w.heap.size w ((w.alloc (.cells #[.slice A1 n1 c1, .string t1] 66)).alloc (.cells #[.slice A2 n2 c2, .string t2] 66)) := ((Below.refl _ _).alloc (Nat.le_refl _) _).alloc (by simp) _
  have hkA : Blk ((w.alloc (.cells #[.slice A1 n1 c1, .string t1] 66)).alloc (.cells #[.slice A2 n2 c2, .string t2] 66)) w.heap.size 66 #[.slice A1 n1 c1, .string t1] := (Blk.new _ _ _).alloc _
  have hkB : Blk ((w.alloc (.cells #[.slice A1 n1 c1, .string t1] 66)).alloc (.cells #[.slice A2 n2 c2, .string t2] 66)) (w.heap.size + 1) 66 #[.slice A2 n2 c2, .string t2] := by
    have h := Blk.new (w.alloc (.cells #[.slice A1 n1 c1, .string t1] 66)) 66 #[.slice A2 n2 c2, .string t2]
    have e : (w.alloc (.cells #[.slice A1 n1 c1, .string t1] 66)).heap.size = w.heap.size + 1 := by simp
    rw [e] at h
    exact h
  have HBA := Lib.hid hbA
  have HKA := Lib.hid hkA
  have HKB := Lib.hid hkB
  clear hbA hkA hkB
  by_cases hgt : n1 < n2
  · go_enter Tryd.func44, Tryd.ntmps44
    go_wp2_with fail
    generalize ((w.alloc (.cells #[.slice A1 n1 c1, .string t1] 66)).alloc (.cells #[.slice A2 n2 c2, .string t2] 66)) = w0 at HBA HKA HKB ⊢
    have a0 : w0.cell? ⟨w.heap.size, 0, none⟩ = some (.slice A1 n1 c1) := HKA.out.cell 0
    have a1 : w0.cell? ⟨w.heap.size, 1, none⟩ = some (.string t1) := HKA.out.cell 1
    have b0 : w0.cell? ⟨w.heap.size + 1, 0, none⟩ = some (.slice A2 n2 c2) := HKB.out.cell 0
    have b1 : w0.cell? ⟨w.heap.size + 1, 1, none⟩ = some (.string t2) := HKB.out.cell 1
    go_loop [8] (fun i => ∃ k : Nat, k ≤ n2 ∧ i = .int .i64 k ∧ ∀ j, j < k → zs1.getD j 0 = zs2.getD j 0) (fun i => n2 - (intOf i).toNat)
    case atStart => exact ⟨0, Nat.zero_le _, rfl, fun j hj => absurd hj (by omega)⟩
    case round =>
      obtain ⟨k, hk, rfl, hall⟩ := hrel
      have HA := Lib.hid hall
      clear hall
      by_cases hlt : k < n2
      · have hx := getD_in HZ1.out k
        have hy := getD_in HZ2.out k
        obtain ⟨x, hxe⟩ : ∃ x, x = zs1.getD k 0 := ⟨_, rfl⟩
        obtain ⟨y, hye⟩ : ∃ y, y = zs2.getD k 0 := ⟨_, rfl⟩
        rw [← hxe] at hx
        rw [← hye] at hy
        have HX := Lib.hid hxe
        have HY := Lib.hid hye
        clear hxe hye
        have HSAME : Hid (x = y → ∀ j, j < k + 1 → zs1.getD j 0 = zs2.getD j 0) := by
          intro hxy j hj
          by_cases hjk : j = k
          · subst hjk; rw [← HX.out, ← HY.out]; exact hxy
          · exact HA.out j (by omega)
        have HDIFF : Hid (x ≠ y → verC (zs1, t1.data.toList) (zs2, t2.data.toList) = x - y) := by
          intro hxy
          have h := partsC_diff (x := zs1) (y := zs2) (i := k) (by omega) (by rw [← HX.out, ← HY.out]; exact hxy) HA.out
          rw [← HX.out, ← HY.out] at h
          rw [verC_parts (by omega), h]
        by_cases hk1 : k < n1
        · obtain ⟨ad1, rfl, hab1, hc1, hl1⟩ := nth_int HR1.out hk1
          have g1 : w0.cell? (ad1.add k) = some (.int .i64 x) := by rw [HBA.out.cell (by rw [block_of_add]; exact hab1), HX.out]; exact hc1
          clear hc1 hab1 hl1
          by_cases hk2 : k < n2
          · obtain ⟨ad2, rfl, hab2, hc2, hl2⟩ := nth_int HR2.out hk2
            have g2 : w0.cell? (ad2.add k) = some (.int .i64 y) := by rw [HBA.out.cell (by rw [block_of_add]; exact hab2), HY.out]; exact hc2
            clear hc2 hab2 hl2
            by_cases hxy : x = y
            · subst hxy
              go_wp2_with fail
              go_round
              case rel => exact ⟨k + 1, by omega, by go_num, HSAME.out rfl⟩
              case measure => simp [intOf]; omega
            · have hne : (x == y) = false := by rw [beq_eq_false_iff_ne]; exact hxy
              go_wp2_with fail
              go_ret
              exact ⟨_, rfl, by rw [HDIFF.out hxy], by omega, HBA.out⟩
          · exact absurd hlt hk2
        · have hk2 : k < n2 := by omega
          have HX0 : Hid (x = 0) := HX.out.trans (getD_out _ _ (by have := HL1.out; omega))
          obtain ⟨ad2, rfl, hab2, hc2, hl2⟩ := nth_int HR2.out hk2
          have g2 : w0.cell? (ad2.add k) = some (.int .i64 y) := by rw [HBA.out.cell (by rw [block_of_add]; exact hab2), HY.out]; exact hc2
          clear hc2 hab2 hl2
          by_cases hxy : y = 0
          · subst hxy
            clear hx hy
            go_wp2_with fail
            go_round
            case rel => exact ⟨k + 1, by omega, by go_num, HSAME.out HX0.out⟩
            case measure => simp [intOf]; omega
          · have hne : (0 == y) = false := by rw [beq_eq_false_iff_ne]; omega
            go_wp2_with fail
            go_ret
            refine ⟨_, rfl, ?_, ?_, HBA.out⟩
            · rw [HDIFF.out (by have := HX0.out; omega), HX0.out]
              congr 1
              omega
            · omega
      · obtain rfl : k = n2 := by omega
        have HP : Hid (partsC zs1 zs2 = 0) := partsC_same (by have := HL1.out; omega) (by have := HL2.out; omega) HA.out
        have HQ := Lib.hid (verC_pre_ (s := t1.data.toList) (t := t2.data.toList) HP.out)
        have HT1 : Hid (t1.toList.isEmpty = true → t1.data.toList = [] ∧ t1.size = 0) := empty_of
        have HT2 : Hid (t2.toList.isEmpty = true → t2.data.toList = [] ∧ t2.size = 0) := empty_of
        have HF1 : Hid (t1.toList.isEmpty = false → t1.data.toList ≠ [] ∧ 0 < t1.size) := full_of
        have HF2 : Hid (t2.toList.isEmpty = false → t2.data.toList ≠ [] ∧ 0 < t2.size) := full_of
        rcases Bool.eq_false_or_eq_true t1.toList.isEmpty with p1 | p1
        all_goals rcases Bool.eq_false_or_eq_true t2.toList.isEmpty with p2 | p2
        case' inl.inr =>
          have X1 := Lib.hid (HT1.out p1)
          have X2 := Lib.hid (HF2.out p2)
          go_wp2_with fail
          go_ret
          refine ⟨_, rfl, ?_, ?_, HBA.out⟩
          · rw [HQ.out, preC_left X1.out.1 X2.out.1]
            have h1 := X1.out.2
            have h2 := X2.out.2
            rw [sign_pos (by omega)]
            rfl
          · omega
        case' inr.inl =>
          have X1 := Lib.hid (HF1.out p1)
          have X2 := Lib.hid (HT2.out p2)
          go_wp2_with fail
          go_ret
          refine ⟨_, rfl, ?_, ?_, HBA.out⟩
          · rw [HQ.out, preC_right X1.out.1 X2.out.1]
            have h1 := X1.out.2
            have h2 := X2.out.2
            rw [sign_neg (by omega)]
            rfl
          · omega
        all_goals
          have HPS : Hid (verC (zs1, t1.data.toList) (zs2, t2.data.toList) = tailC (Lib.trimPrefix t1.data.toList [45]) (Lib.trimPrefix t2.data.toList [45])) := by
            show _ = _
            rw [HQ.out]
            refine preC_same ?_
            unfold presence
            first
              | rw [if_pos (HT1.out p1).1, if_pos (HT2.out p2).1]
              | rw [if_neg (HF1.out p1).1, if_neg (HF2.out p2).1]
          go_wp2_with fail
          refine (Tryd.strings_TrimPrefix t1 ⟨#[45]⟩ w0).mono ?_
          obtain ⟨s0, hs0⟩ : ∃ s0 : ByteArray, s0 = ⟨(Lib.trimPrefix t1.data.toList (⟨#[45]⟩ : ByteArray).data.toList).toArray⟩ := ⟨_, rfl⟩
          rw [← hs0]
          have hsz1 : s0.size ≤ 2147483647 := by
            have h := trim_len t1.data.toList
            rw [size_list] at h
            rw [hs0]
            show (Lib.trimPrefix t1.data.toList [45]).toArray.size ≤ _
            rw [List.size_toArray]
            omega
          have HS0 := Lib.hid hs0
          clear hs0
          rintro e w1 ⟨rfl, rfl⟩
          go_wp2_with fail
          refine (Tryd.strings_TrimPrefix t2 ⟨#[45]⟩ w1).mono ?_
          obtain ⟨u0, hu0⟩ : ∃ u0 : ByteArray, u0 = ⟨(Lib.trimPrefix t2.data.toList (⟨#[45]⟩ : ByteArray).data.toList).toArray⟩ := ⟨_, rfl⟩
          rw [← hu0]
          have hsz2 : u0.size ≤ 2147483647 := by
            have h := trim_len t2.data.toList
            rw [size_list] at h
            rw [hu0]
            show (Lib.trimPrefix t2.data.toList [45]).toArray.size ≤ _
            rw [List.size_toArray]
            omega
          have HU0 := Lib.hid hu0
          clear hu0
          rintro e w2 ⟨rfl, rfl⟩
          have HPT : Hid (verC (zs1, t1.data.toList) (zs2, t2.data.toList) = tailC s0.data.toList u0.data.toList) := by
            show _ = _
            rw [HPS.out, HS0.out, HU0.out]
          clear HPS HS0 HU0 HT1 HT2 HF1 HF2 p1 p2 HP HQ HA hlt hk
          go_wp2_with fail
          go_loopw [11, 12] (fun v u wr => ∃ s t : ByteArray, v = .string s ∧ u = .string t ∧ s.size ≤ 2147483647 ∧ t.size ≤ 2147483647 ∧ verC (zs1, t1.data.toList) (zs2, t2.data.toList) = tailC s.data.toList t.data.toList ∧ Below w.heap.size w wr) (fun v _ _ => strSize v)
          case atStart => exact ⟨s0, u0, rfl, rfl, hsz1, hsz2, HPT.out, HBA.out⟩
          case round =>
            clear HPT hsz1 hsz2
            obtain ⟨s, t, rfl, rfl, hss, hts, hv, hbel⟩ := hrel
            have HV := Lib.hid hv
            clear hv
            have HE1 : Hid (s.toList.isEmpty = true → s.data.toList = [] ∧ s.size = 0) := empty_of
            have HE2 : Hid (t.toList.isEmpty = true → t.data.toList = [] ∧ t.size = 0) := empty_of
            have HF1 : Hid (s.toList.isEmpty = false → s.data.toList ≠ [] ∧ 0 < s.size) := full_of
            have HF2 : Hid (t.toList.isEmpty = false → t.data.toList ≠ [] ∧ 0 < t.size) := full_of
            rcases Bool.eq_false_or_eq_true s.toList.isEmpty with p1 | p1
            · rcases Bool.eq_false_or_eq_true t.toList.isEmpty with p2 | p2
              · have X1 := Lib.hid (HE1.out p1)
                have X2 := Lib.hid (HE2.out p2)
                go_wp2_with fail
                go_ret
                refine ⟨_, rfl, ?_, ?_, hbel⟩
                · rw [HV.out, X1.out.1, X2.out.1, tailC_nil]
                  have h1 := X1.out.2
                  have h2 := X2.out.2
                  rw [h1, h2]
                  rfl
                · omega
              · have X1 := Lib.hid (HE1.out p1)
                have X2 := Lib.hid (HF2.out p2)
                go_wp2_with fail
                go_ret
                refine ⟨_, rfl, ?_, ?_, hbel⟩
                · rw [HV.out, X1.out.1, tailC_nil_left X2.out.1]
                  have h1 := X1.out.2
                  have h2 := X2.out.2
                  rw [sign_neg (by omega)]
                  rfl
                · omega
            · rcases Bool.eq_false_or_eq_true t.toList.isEmpty with p2 | p2
              · have X1 := Lib.hid (HF1.out p1)
                have X2 := Lib.hid (HE2.out p2)
                go_wp2_with fail
                go_ret
                refine ⟨_, rfl, ?_, ?_, hbel⟩
                · rw [HV.out, X2.out.1, tailC_nil_right X1.out.1]
                  have h1 := X1.out.2
                  have h2 := X2.out.2
                  rw [sign_pos (by omega)]
                  rfl
                · omega
              · have X1 := Lib.hid (HF1.out p1)
                have X2 := Lib.hid (HF2.out p2)
                clear HE1 HE2 HF1 HF2
                go_wp2_with fail
                refine (split_any s _ hss).mono ?_
                rintro e w3 ⟨h1, r1, rfl, hh1, hbl⟩
                have HH1 := Lib.hid hh1
                have hb3 := below_call hbel hbl (Nat.le_refl _)
                have hr1s : r1.size ≤ s.size := hh1.2.2.2
                have hh1s : h1.size ≤ s.size := hh1.2.2.1
                clear hh1 hbl hbel
                go_wp2_with fail
                refine (split_any t _ hts).mono ?_
                rintro e w4 ⟨h2, r2, rfl, hh2, hbl⟩
                have HH2 := Lib.hid hh2
                have hb4 := below_call hb3 hbl (Nat.le_refl _)
                have hr2s : r2.size ≤ t.size := hh2.2.2.2
                have hh2s : h2.size ≤ t.size := hh2.2.2.1
                clear hh2 hbl hb3
                by_cases hq : (h1.toList == h2.toList) = true
                · have HEQ : Hid (headOf s.data.toList = headOf t.data.toList) := by
                    have h := hq
                    rw [Lib.toList_data, Lib.toList_data, beq_iff_eq] at h
                    show _ = _
                    rw [← HH1.out.1, ← HH2.out.1, h]
                  go_wp2_with fail
                  go_roundw
                  case rel =>
                    refine ⟨r1, r2, rfl, rfl, by omega, by omega, ?_, hb4⟩
                    rw [HV.out, heads_go X1.out.1 X2.out.1 HEQ.out, HH1.out.2.1, HH2.out.2.1]
                  case measure => exact rest_size HH1.out.2.1 X1.out.1
                · have HEQ : Hid (verC (zs1, t1.data.toList) (zs2, t2.data.toList) = headC h1.data.toList h2.data.toList) := by
                    have h : headOf s.data.toList ≠ headOf t.data.toList := by
                      intro h
                      apply hq
                      rw [Lib.toList_data, Lib.toList_data, beq_iff_eq, HH1.out.1, HH2.out.1, h]
                    show _ = _
                    rw [HV.out, heads_decide X1.out.1 X2.out.1 h, HH1.out.1, HH2.out.1]
                  have HNE : Hid (h1.data.toList ≠ h2.data.toList) := by
                    intro h
                    apply hq
                    rw [Lib.toList_data, Lib.toList_data, beq_iff_eq, h]
                  have hq' : (h1.toList == h2.toList) = false := by simpa using hq
                  clear hq HV HH1 HH2
                  go_wp2_with fail
                  refine (toNumber_any h1 _ (by omega) ev2 ev3 ((hb4.cell (block_lt_of_cell H2.out)).trans H2.out) E2.out ((hb4.cell (block_lt_of_cell H3.out)).trans H3.out) E3.out).mono ?_
                  rintro e w5 ⟨v1, x1, rfl, hn1x, hbl⟩
                  have HN1 := Lib.hid hn1x
                  have hb5 := below_call hb4 hbl (Nat.le_refl _)
                  clear hn1x hbl hb4
                  go_wp2_with fail
                  refine (toNumber_any h2 _ (by omega) ev2 ev3 ((hb5.cell (block_lt_of_cell H2.out)).trans H2.out) E2.out ((hb5.cell (block_lt_of_cell H3.out)).trans H3.out) E3.out).mono ?_
                  rintro e w6 ⟨v2, x2, rfl, hn2x, hbl⟩
                  have HN2 := Lib.hid hn2x
                  have hb6 := below_call hb5 hbl (Nat.le_refl _)
                  clear hn2x hbl hb5
                  rcases HN1.out with ⟨rfl, n1s⟩ | ⟨rfl, n1s⟩
                  · rcases HN2.out with ⟨rfl, n2s⟩ | ⟨rfl, n2s⟩
                    · have HSS := Lib.hid (head_ss n1s n2s)
                      obtain ⟨y1, hy1, hy1b, _⟩ := numOf_some n1s
                      obtain ⟨y2, hy2, hy2b, _⟩ := numOf_some n2s
                      clear n1s n2s HN1 HN2
                      by_cases hvv : v1 = v2
                      · subst hvv
                        go_wp2_with fail
                        go_ret
                        refine ⟨_, rfl, ?_, ?_, hb6⟩
                        · rw [HEQ.out, HSS.out, if_pos (by omega), size_list, size_list]
                        · omega
                      · have hne : (v1 == v2) = false := by rw [beq_eq_false_iff_ne]; exact hvv
                        go_wp2_with fail
                        go_ret
                        refine ⟨_, rfl, ?_, ?_, hb6⟩
                        · rw [HEQ.out, HSS.out, if_neg (by omega), hy1, hy2]
                        · omega
                    · have HSS := Lib.hid (head_sn n1s n2s)
                      clear n1s n2s HN1 HN2
                      go_wp2_with fail
                      go_ret
                      exact ⟨_, rfl, by rw [HEQ.out, HSS.out], by omega, hb6⟩
                  · rcases HN2.out with ⟨rfl, n2s⟩ | ⟨rfl, n2s⟩
                    · have HSS := Lib.hid (head_ns n1s n2s)
                      clear n1s n2s HN1 HN2
                      go_wp2_with fail
                      go_ret
                      exact ⟨_, rfl, by rw [HEQ.out, HSS.out], by omega, hb6⟩
                    · have HSS := Lib.hid (head_nn n1s n2s)
                      have HLS := Lib.hid (less_wordC h1.data.toList h2.data.toList)
                      clear n1s n2s HN1 HN2
                      rcases Bool.eq_false_or_eq_true (Op.bytesLess h1.toList h2.toList) with hl | hl
                      · go_wp2_with fail
                        go_ret
                        refine ⟨_, rfl, ?_, by omega, hb6⟩
                        rw [Lib.toList_data, Lib.toList_data, HLS.out] at hl
                        rw [HEQ.out, HSS.out, sign_neg hl]
                        rfl
                      · go_wp2_with fail
                        go_ret
                        refine ⟨_, rfl, ?_, by omega, hb6⟩
                        have h1' : ¬ wordC h1.data.toList h2.data.toList < 0 := by
                          rw [← HLS.out, ← Lib.toList_data, ← Lib.toList_data, hl]
                          decide
                        have h2' : wordC h1.data.toList h2.data.toList ≠ 0 := fun h => HNE.out (wordC_zero h)
                        rw [HEQ.out, HSS.out, sign_pos (x := wordC h1.data.toList h2.data.toList) (by omega)]
                        rfl
  · go_enter Tryd.func44, Tryd.ntmps44
    go_wp2_with fail
    generalize ((w.alloc (.cells #[.slice A1 n1 c1, .string t1] 66)).alloc (.cells #[.slice A2 n2 c2, .string t2] 66)) = w0 at HBA HKA HKB ⊢
    have a0 : w0.cell? ⟨w.heap.size, 0, none⟩ = some (.slice A1 n1 c1) := HKA.out.cell 0
    have a1 : w0.cell? ⟨w.heap.size, 1, none⟩ = some (.string t1) := HKA.out.cell 1
    have b0 : w0.cell? ⟨w.heap.size + 1, 0, none⟩ = some (.slice A2 n2 c2) := HKB.out.cell 0
    have b1 : w0.cell? ⟨w.heap.size + 1, 1, none⟩ = some (.string t2) := HKB.out.cell 1
    go_loop [8] (fun i => ∃ k : Nat, k ≤ n1 ∧ i = .int .i64 k ∧ ∀ j, j < k → zs1.getD j 0 = zs2.getD j 0) (fun i => n1 - (intOf i).toNat)
    case atStart => exact ⟨0, Nat.zero_le _, rfl, fun j hj => absurd hj (by omega)⟩
    case round =>
      obtain ⟨k, hk, rfl, hall⟩ := hrel
      have HA := Lib.hid hall
      clear hall
      by_cases hlt : k < n1
      · have hx := getD_in HZ1.out k
        have hy := getD_in HZ2.out k
        obtain ⟨x, hxe⟩ : ∃ x, x = zs1.getD k 0 := ⟨_, rfl⟩
        obtain ⟨y, hye⟩ : ∃ y, y = zs2.getD k 0 := ⟨_, rfl⟩
        rw [← hxe] at hx
        rw [← hye] at hy
        have HX := Lib.hid hxe
        have HY := Lib.hid hye
        clear hxe hye
        have HSAME : Hid (x = y → ∀ j, j < k + 1 → zs1.getD j 0 = zs2.getD j 0) := by
          intro hxy j hj
          by_cases hjk : j = k
          · subst hjk; rw [← HX.out, ← HY.out]; exact hxy
          · exact HA.out j (by omega)
        have HDIFF : Hid (x ≠ y → verC (zs1, t1.data.toList) (zs2, t2.data.toList) = x - y) := by
          intro hxy
          have h := partsC_diff (x := zs1) (y := zs2) (i := k) (by omega) (by rw [← HX.out, ← HY.out]; exact hxy) HA.out
          rw [← HX.out, ← HY.out] at h
          rw [verC_parts (by omega), h]
        by_cases hk1 : k < n1
        · obtain ⟨ad1, rfl, hab1, hc1, hl1⟩ := nth_int HR1.out hk1
          have g1 : w0.cell? (ad1.add k) = some (.int .i64 x) := by rw [HBA.out.cell (by rw [block_of_add]; exact hab1), HX.out]; exact hc1
          clear hc1 hab1 hl1
          by_cases hk2 : k < n2
          · obtain ⟨ad2, rfl, hab2, hc2, hl2⟩ := nth_int HR2.out hk2
            have g2 : w0.cell? (ad2.add k) = some (.int .i64 y) := by rw [HBA.out.cell (by rw [block_of_add]; exact hab2), HY.out]; exact hc2
            clear hc2 hab2 hl2
            by_cases hxy : x = y
            · subst hxy
              go_wp2_with fail
              go_round
              case rel => exact ⟨k + 1, by omega, by go_num, HSAME.out rfl⟩
              case measure => simp [intOf]; omega
            · have hne : (x == y) = false := by rw [beq_eq_false_iff_ne]; exact hxy
              go_wp2_with fail
              go_ret
              exact ⟨_, rfl, by rw [HDIFF.out hxy], by omega, HBA.out⟩
          · have HY0 : Hid (y = 0) := HY.out.trans (getD_out _ _ (by have := HL2.out; omega))
            by_cases hxy : x = 0
            · subst hxy
              clear hx hy
              go_wp2_with fail
              go_round
              case rel => exact ⟨k + 1, by omega, by go_num, HSAME.out HY0.out.symm⟩
              case measure => simp [intOf]; omega
            · have hne : (x == 0) = false := by rw [beq_eq_false_iff_ne]; exact hxy
              go_wp2_with fail
              go_ret
              refine ⟨_, rfl, ?_, ?_, HBA.out⟩
              · rw [HDIFF.out (by have := HY0.out; omega), HY0.out]
                congr 1
                omega
              · omega
        · exact absurd hlt hk1
      · obtain rfl : k = n1 := by omega
        have HP : Hid (partsC zs1 zs2 = 0) := partsC_same (by have := HL1.out; omega) (by have := HL2.out; omega) HA.out
        have HQ := Lib.hid (verC_pre_ (s := t1.data.toList) (t := t2.data.toList) HP.out)
        have HT1 : Hid (t1.toList.isEmpty = true → t1.data.toList = [] ∧ t1.size = 0) := empty_of
        have HT2 : Hid (t2.toList.isEmpty = true → t2.data.toList = [] ∧ t2.size = 0) := empty_of
        have HF1 : Hid (t1.toList.isEmpty = false → t1.data.toList ≠ [] ∧ 0 < t1.size) := full_of
        have HF2 : Hid (t2.toList.isEmpty = false → t2.data.toList ≠ [] ∧ 0 < t2.size) := full_of
        rcases Bool.eq_false_or_eq_true t1.toList.isEmpty with p1 | p1
        all_goals rcases Bool.eq_false_or_eq_true t2.toList.isEmpty with p2 | p2
        case' inl.inr =>
          have X1 := Lib.hid (HT1.out p1)
          have X2 := Lib.hid (HF2.out p2)
          go_wp2_with fail
          go_ret
          refine ⟨_, rfl, ?_, ?_, HBA.out⟩
          · rw [HQ.out, preC_left X1.out.1 X2.out.1]
            have h1 := X1.out.2
            have h2 := X2.out.2
            rw [sign_pos (by omega)]
            rfl
          · omega
        case' inr.inl =>
          have X1 := Lib.hid (HF1.out p1)
          have X2 := Lib.hid (HT2.out p2)
          go_wp2_with fail
          go_ret
          refine ⟨_, rfl, ?_, ?_, HBA.out⟩
          · rw [HQ.out, preC_right X1.out.1 X2.out.1]
            have h1 := X1.out.2
            have h2 := X2.out.2
            rw [sign_neg (by omega)]
            rfl
          · omega
        all_goals
          have HPS : Hid (verC (zs1, t1.data.toList) (zs2, t2.data.toList) = tailC (Lib.trimPrefix t1.data.toList [45]) (Lib.trimPrefix t2.data.toList [45])) := by
            show _ = _
            rw [HQ.out]
            refine preC_same ?_
            unfold presence
            first
              | rw [if_pos (HT1.out p1).1, if_pos (HT2.out p2).1]
              | rw [if_neg (HF1.out p1).1, if_neg (HF2.out p2).1]
          go_wp2_with fail
          refine (Tryd.strings_TrimPrefix t1 ⟨#[45]⟩ w0).mono ?_
          obtain ⟨s0, hs0⟩ : ∃ s0 : ByteArray, s0 = ⟨(Lib.trimPrefix t1.data.toList (⟨#[45]⟩ : ByteArray).data.toList).toArray⟩ := ⟨_, rfl⟩
          rw [← hs0]
          have hsz1 : s0.size ≤ 2147483647 := by
            have h := trim_len t1.data.toList
            rw [size_list] at h
            rw [hs0]
            show (Lib.trimPrefix t1.data.toList [45]).toArray.size ≤ _
            rw [List.size_toArray]
            omega
          have HS0 := Lib.hid hs0
          clear hs0
          rintro e w1 ⟨rfl, rfl⟩
          go_wp2_with fail
          refine (Tryd.strings_TrimPrefix t2 ⟨#[45]⟩ w1).mono ?_
          obtain ⟨u0, hu0⟩ : ∃ u0 : ByteArray, u0 = ⟨(Lib.trimPrefix t2.data.toList (⟨#[45]⟩ : ByteArray).data.toList).toArray⟩ := ⟨_, rfl⟩
          rw [← hu0]
          have hsz2 : u0.size ≤ 2147483647 := by
            have h := trim_len t2.data.toList
            rw [size_list] at h
            rw [hu0]
            show (Lib.trimPrefix t2.data.toList [45]).toArray.size ≤ _
            rw [List.size_toArray]
            omega
          have HU0 := Lib.hid hu0
          clear hu0
          rintro e w2 ⟨rfl, rfl⟩
          have HPT : Hid (verC (zs1, t1.data.toList) (zs2, t2.data.toList) = tailC s0.data.toList u0.data.toList) := by
            show _ = _
            rw [HPS.out, HS0.out, HU0.out]
          clear HPS HS0 HU0 HT1 HT2 HF1 HF2 p1 p2 HP HQ HA hlt hk
          go_wp2_with fail
          go_loopw [11, 12] (fun v u wr => ∃ s t : ByteArray, v = .string s ∧ u = .string t ∧ s.size ≤ 2147483647 ∧ t.size ≤ 2147483647 ∧ verC (zs1, t1.data.toList) (zs2, t2.data.toList) = tailC s.data.toList t.data.toList ∧ Below w.heap.size w wr) (fun v _ _ => strSize v)
          case atStart => exact ⟨s0, u0, rfl, rfl, hsz1, hsz2, HPT.out, HBA.out⟩
          case round =>
            clear HPT hsz1 hsz2
            obtain ⟨s, t, rfl, rfl, hss, hts, hv, hbel⟩ := hrel
            have HV := Lib.hid hv
            clear hv
            have HE1 : Hid (s.toList.isEmpty = true → s.data.toList = [] ∧ s.size = 0) := empty_of
            have HE2 : Hid (t.toList.isEmpty = true → t.data.toList = [] ∧ t.size = 0) := empty_of
            have HF1 : Hid (s.toList.isEmpty = false → s.data.toList ≠ [] ∧ 0 < s.size) := full_of
            have HF2 : Hid (t.toList.isEmpty = false → t.data.toList ≠ [] ∧ 0 < t.size) := full_of
            rcases Bool.eq_false_or_eq_true s.toList.isEmpty with p1 | p1
            · rcases Bool.eq_false_or_eq_true t.toList.isEmpty with p2 | p2
              · have X1 := Lib.hid (HE1.out p1)
                have X2 := Lib.hid (HE2.out p2)
                go_wp2_with fail
                go_ret
                refine ⟨_, rfl, ?_, ?_, hbel⟩
                · rw [HV.out, X1.out.1, X2.out.1, tailC_nil]
                  have h1 := X1.out.2
                  have h2 := X2.out.2
                  rw [h1, h2]
                  rfl
                · omega
              · have X1 := Lib.hid (HE1.out p1)
                have X2 := Lib.hid (HF2.out p2)
                go_wp2_with fail
                go_ret
                refine ⟨_, rfl, ?_, ?_, hbel⟩
                · rw [HV.out, X1.out.1, tailC_nil_left X2.out.1]
                  have h1 := X1.out.2
                  have h2 := X2.out.2
                  rw [sign_neg (by omega)]
                  rfl
                · omega
            · rcases Bool.eq_false_or_eq_true t.toList.isEmpty with p2 | p2
              · have X1 := Lib.hid (HF1.out p1)
                have X2 := Lib.hid (HE2.out p2)
                go_wp2_with fail
                go_ret
                refine ⟨_, rfl, ?_, ?_, hbel⟩
                · rw [HV.out, X2.out.1, tailC_nil_right X1.out.1]
                  have h1 := X1.out.2
                  have h2 := X2.out.2
                  rw [sign_pos (by omega)]
                  rfl
                · omega
              · have X1 := Lib.hid (HF1.out p1)
                have X2 := Lib.hid (HF2.out p2)
                clear HE1 HE2 HF1 HF2
                go_wp2_with fail
                refine (split_any s _ hss).mono ?_
                rintro e w3 ⟨h1, r1, rfl, hh1, hbl⟩
                have HH1 := Lib.hid hh1
                have hb3 := below_call hbel hbl (Nat.le_refl _)
                have hr1s : r1.size ≤ s.size := hh1.2.2.2
                have hh1s : h1.size ≤ s.size := hh1.2.2.1
                clear hh1 hbl hbel
                go_wp2_with fail
                refine (split_any t _ hts).mono ?_
                rintro e w4 ⟨h2, r2, rfl, hh2, hbl⟩
                have HH2 := Lib.hid hh2
                have hb4 := below_call hb3 hbl (Nat.le_refl _)
                have hr2s : r2.size ≤ t.size := hh2.2.2.2
                have hh2s : h2.size ≤ t.size := hh2.2.2.1
                clear hh2 hbl hb3
                by_cases hq : (h1.toList == h2.toList) = true
                · have HEQ : Hid (headOf s.data.toList = headOf t.data.toList) := by
                    have h := hq
                    rw [Lib.toList_data, Lib.toList_data, beq_iff_eq] at h
                    show _ = _
                    rw [← HH1.out.1, ← HH2.out.1, h]
                  go_wp2_with fail
                  go_roundw
                  case rel =>
                    refine ⟨r1, r2, rfl, rfl, by omega, by omega, ?_, hb4⟩
                    rw [HV.out, heads_go X1.out.1 X2.out.1 HEQ.out, HH1.out.2.1, HH2.out.2.1]
                  case measure => exact rest_size HH1.out.2.1 X1.out.1
                · have HEQ : Hid (verC (zs1, t1.data.toList) (zs2, t2.data.toList) = headC h1.data.toList h2.data.toList) := by
                    have h : headOf s.data.toList ≠ headOf t.data.toList := by
                      intro h
                      apply hq
                      rw [Lib.toList_data, Lib.toList_data, beq_iff_eq, HH1.out.1, HH2.out.1, h]
                    show _ = _
                    rw [HV.out, heads_decide X1.out.1 X2.out.1 h, HH1.out.1, HH2.out.1]
                  have HNE : Hid (h1.data.toList ≠ h2.data.toList) := by
                    intro h
                    apply hq
                    rw [Lib.toList_data, Lib.toList_data, beq_iff_eq, h]
                  have hq' : (h1.toList == h2.toList) = false := by simpa using hq
                  clear hq HV HH1 HH2
                  go_wp2_with fail
                  refine (toNumber_any h1 _ (by omega) ev2 ev3 ((hb4.cell (block_lt_of_cell H2.out)).trans H2.out) E2.out ((hb4.cell (block_lt_of_cell H3.out)).trans H3.out) E3.out).mono ?_
                  rintro e w5 ⟨v1, x1, rfl, hn1x, hbl⟩
                  have HN1 := Lib.hid hn1x
                  have hb5 := below_call hb4 hbl (Nat.le_refl _)
                  clear hn1x hbl hb4
                  go_wp2_with fail
                  refine (toNumber_any h2 _ (by omega) ev2 ev3 ((hb5.cell (block_lt_of_cell H2.out)).trans H2.out) E2.out ((hb5.cell (block_lt_of_cell H3.out)).trans H3.out) E3.out).mono ?_
                  rintro e w6 ⟨v2, x2, rfl, hn2x, hbl⟩
                  have HN2 := Lib.hid hn2x
                  have hb6 := below_call hb5 hbl (Nat.le_refl _)
                  clear hn2x hbl hb5
                  rcases HN1.out with ⟨rfl, n1s⟩ | ⟨rfl, n1s⟩
                  · rcases HN2.out with ⟨rfl, n2s⟩ | ⟨rfl, n2s⟩
                    · have HSS := Lib.hid (head_ss n1s n2s)
                      obtain ⟨y1, hy1, hy1b, _⟩ := numOf_some n1s
                      obtain ⟨y2, hy2, hy2b, _⟩ := numOf_some n2s
                      clear n1s n2s HN1 HN2
                      by_cases hvv : v1 = v2
                      · subst hvv
                        go_wp2_with fail
                        go_ret
                        refine ⟨_, rfl, ?_, ?_, hb6⟩
                        · rw [HEQ.out, HSS.out, if_pos (by omega), size_list, size_list]
                        · omega
                      · have hne : (v1 == v2) = false := by rw [beq_eq_false_iff_ne]; exact hvv
                        go_wp2_with fail
                        go_ret
                        refine ⟨_, rfl, ?_, ?_, hb6⟩
                        · rw [HEQ.out, HSS.out, if_neg (by omega), hy1, hy2]
                        · omega
                    · have HSS := Lib.hid (head_sn n1s n2s)
                      clear n1s n2s HN1 HN2
                      go_wp2_with fail
                      go_ret
                      exact ⟨_, rfl, by rw [HEQ.out, HSS.out], by omega, hb6⟩
                  · rcases HN2.out with ⟨rfl, n2s⟩ | ⟨rfl, n2s⟩
                    · have HSS := Lib.hid (head_ns n1s n2s)
                      clear n1s n2s HN1 HN2
                      go_wp2_with fail
                      go_ret
                      exact ⟨_, rfl, by rw [HEQ.out, HSS.out], by omega, hb6⟩
                    · have HSS := Lib.hid (head_nn n1s n2s)
                      have HLS := Lib.hid (less_wordC h1.data.toList h2.data.toList)
                      clear n1s n2s HN1 HN2
                      rcases Bool.eq_false_or_eq_true (Op.bytesLess h1.toList h2.toList) with hl | hl
                      · go_wp2_with fail
                        go_ret
                        refine ⟨_, rfl, ?_, by omega, hb6⟩
                        rw [Lib.toList_data, Lib.toList_data, HLS.out] at hl
                        rw [HEQ.out, HSS.out, sign_neg hl]
                        rfl
                      · go_wp2_with fail
                        go_ret
                        refine ⟨_, rfl, ?_, by omega, hb6⟩
                        have h1' : ¬ wordC h1.data.toList h2.data.toList < 0 := by
                          rw [← HLS.out, ← Lib.toList_data, ← Lib.toList_data, hl]
                          decide
                        have h2' : wordC h1.data.toList h2.data.toList ≠ 0 := fun h => HNE.out (wordC_zero h)
                        rw [HEQ.out, HSS.out, sign_pos (x := wordC h1.data.toList h2.data.toList) (by omega)]
                        rfl
end Go.Proofs.YtnpghnipjienoaaDoor
