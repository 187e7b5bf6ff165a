/-
  The contract of impl.Filled.
-/
import Derived.Test.YtnpghnipjienoaaDoorSubst
namespace Go.Proofs.YtnpghnipjienoaaDoor
open Go Go.RowKit Go.Sort

theorem info58 : (Tryd.prog.info? 58).map (fun i => (i.zero, i.size, i.bytes)) = some (some (.agg #[.string ⟨#[]⟩, .int .i64 0]), 2, 24) := by kernel_rfl

/-- What is told of the kinds: four answers, four texts. -/
def toldT (ta tb tc td : Bool) (a b c d : ByteArray) : Int → Option (List UInt8) := fun z =>
  pick none (if ta then some a.data.toList else none) (if tb then some b.data.toList else none) (if tc then some c.data.toList else none) (if td then some d.data.toList else none) z
theorem toldT_zero (ta tb tc td : Bool) (a b c d : ByteArray) : toldT ta tb tc td a b c d 0 = none := rfl
theorem toldT_len {ta tb tc td : Bool} {a b c d : ByteArray} (ha : a.size ≤ 2147483647) (hb : b.size ≤ 2147483647) (hc : c.size ≤ 2147483647) (hd : d.size ≤ 2147483647) : ∀ z t, toldT ta tb tc td a b c d z = some t → t.length ≤ 2147483647 := by
  intro z t h
  have key : ∀ (x : Bool) (s : ByteArray), s.size ≤ 2147483647 → (if x then some s.data.toList else none) = some t → t.length ≤ 2147483647 := by
    intro x s hs hx
    cases x
    · have hx : (none : Option (List UInt8)) = some t := hx
      cases hx
    · have hx : some s.data.toList = some t := hx
      injection hx with hx
      rw [← hx, size_list]
      exact hs
  unfold toldT pick at h
  by_cases h1 : z = 1
  · rw [if_pos h1] at h; exact key ta a ha h
  rw [if_neg h1] at h
  by_cases h2 : z = 2
  · rw [if_pos h2] at h; exact key tb b hb h
  rw [if_neg h2] at h
  by_cases h3 : z = 3
  · rw [if_pos h3] at h; exact key tc c hc h
  rw [if_neg h3] at h
  by_cases h4 : z = 4
  · rw [if_pos h4] at h; exact key td d hd h
  rw [if_neg h4] at h
  cases h

/-- The pointer to the i-th text, if it is told. -/
def ptr (t : Bool) (g i : Nat) : Option Addr := if t then some ⟨g, i, none⟩ else none
/-- The four pointers after k rounds. -/
def ptrs (ta tb tc td : Bool) (g k : Nat) : Array Value := #[.pointer (ptr (decide (0 < k) && ta) g 0), .pointer (ptr (decide (1 < k) && tb) g 1), .pointer (ptr (decide (2 < k) && tc) g 2), .pointer (ptr (decide (3 < k) && td) g 3)]
theorem ptr_points {w : World} {B g i : Nat} {s : ByteArray} {t : Bool} (hg : g < B) (hc : w.cell? ⟨g, i, none⟩ = some (.string s)) : Points w B (ptr t g i) (if t then some s.data.toList else none) := by
  cases t
  · exact .inl ⟨rfl, rfl⟩
  · exact .inr ⟨g, i, s.data.toList, rfl, hg, by rw [hc], rfl⟩
theorem ptrs_points {w : World} {B g : Nat} {ta tb tc td : Bool} {a b c d : ByteArray} (hg : g < B) (hb : Blk w g 54 #[.string a, .string b, .string c, .string d]) (z : Int) (h0 : 0 ≤ z) (h4 : z ≤ 4) :
    Points w B (pick none (ptr ta g 0) (ptr tb g 1) (ptr tc g 2) (ptr td g 3) z) (toldT ta tb tc td a b c d z) := by
  rcases (show z = 0 ∨ z = 1 ∨ z = 2 ∨ z = 3 ∨ z = 4 by omega) with rfl | rfl | rfl | rfl | rfl
  · exact .inl ⟨rfl, rfl⟩
  · exact ptr_points hg (hb.cell 0)
  · exact ptr_points hg (hb.cell 1)
  · exact ptr_points hg (hb.cell 2)
  · exact ptr_points hg (hb.cell 3)

def FilledPost (T : Int → Option (List UInt8)) (ps : List (ByteArray × Int)) (n : Nat) (w : World) (e : Ending) (w' : World) : Prop :=
  ∃ (A' : Option Addr) (m c' : Nat) (qs : List (ByteArray × Int)), e = .returned (.slice A' m c') ∧ Parts .i64 w' w'.heap.size A' m qs ∧ Told T ps qs ∧ tot qs ≤ tot ps + n * 2147483647 ∧ Below w.heap.size w w'

set_option maxHeartbeats 4000000 in
set_option maxRecDepth 100000 in
theorem filled_any (A : Option Addr) (n c : Nat) (ps : List (ByteArray × Int)) (ta tb tc td : Bool) (sa sb sc sd : ByteArray) (w : World) (hr : Parts .i64 w w.heap.size A n ps) (hn : n ≤ 1000) (hz : ∀ p ∈ ps, 0 ≤ p.2 ∧ p.2 ≤ 4)
    (htot : tot ps ≤ 35184372088832) (ha : sa.size ≤ 2147483647) (hb : sb.size ≤ 2147483647) (hc : sc.size ≤ 2147483647) (hd : sd.size ≤ 2147483647) :
    Calls Tryd.prog 28 #[.slice A n c, .agg #[.bool ta, .bool tb, .bool tc, .bool td], .agg #[.string sa, .string sb, .string sc, .string sd]] w (FilledPost (toldT ta tb tc td sa sb sc sd) ps n w) := by
  obtain ⟨i0, hi0, hz0, hz1, hz2⟩ := info_parts info75
  obtain ⟨j0, hj0, hy0, hy1, hy2⟩ := info_parts info58
  have HL := Lib.hid hr.1
  have HZ := Lib.hid hz
  have HTOT := Lib.hid htot
  have HM := Lib.hid (toldT_len (ta := ta) (tb := tb) (tc := tc) (td := td) ha hb hc hd)
  have HR := Lib.hid hr
  clear hz htot ha hb hc hd hr
  go_enter Tryd.func28, Tryd.ntmps28
  go_wp2_with fail
  have hbA : Below w.heap.size w ((w.alloc (.cells #[.bool ta, .bool tb, .bool tc, .bool td] 53)).alloc (.cells #[.string sa, .string sb, .string sc, .string sd] 54)) := below_alloc ((Below.refl _ _).alloc (Nat.le_refl _) _) (Nat.le_refl _) _
  have hkA : Blk ((w.alloc (.cells #[.bool ta, .bool tb, .bool tc, .bool td] 53)).alloc (.cells #[.string sa, .string sb, .string sc, .string sd] 54)) w.heap.size 53 #[.bool ta, .bool tb, .bool tc, .bool td] := (Blk.new _ _ _).alloc _
  have hkB : Blk ((w.alloc (.cells #[.bool ta, .bool tb, .bool tc, .bool td] 53)).alloc (.cells #[.string sa, .string sb, .string sc, .string sd] 54)) (w.heap.size + 1) 54 #[.string sa, .string sb, .string sc, .string sd] := by
    have h := Blk.new (w.alloc (.cells #[.bool ta, .bool tb, .bool tc, .bool td] 53)) 54 #[.string sa, .string sb, .string sc, .string sd]
    have e : (w.alloc (.cells #[.bool ta, .bool tb, .bool tc, .bool td] 53)).heap.size = w.heap.size + 1 := by simp
    rw [e] at h
    exact h
  generalize ((w.alloc (.cells #[.bool ta, .bool tb, .bool tc, .bool td] 53)).alloc (.cells #[.string sa, .string sb, .string sc, .string sd] 54)) = w0 at hbA hkA hkB ⊢
  go_loopw [7, 17] (fun v i wr => ∃ (k : Nat) (A' : Option Addr) (c' : Nat), k ≤ n ∧ i = .int .i64 k ∧ v = .slice A' k c' ∧ wr.ownsRow (w.heap.size + 2) 75 2 (.slice A' k c') k (flat .u8 (ps.take k)) ∧ Below w.heap.size w wr ∧
      Blk wr w.heap.size 53 #[.bool ta, .bool tb, .bool tc, .bool td] ∧ Blk wr (w.heap.size + 1) 54 #[.string sa, .string sb, .string sc, .string sd]) (fun _ i _ => n - (intOf i).toNat)
  case atStart => exact ⟨0, none, 0, Nat.zero_le _, rfl, rfl, World.ownsRow_nil _ _ _ _, hbA, hkA, hkB⟩
  case round =>
    clear hbA hkA hkB
    obtain ⟨k, A', c', hk, rfl, rfl, hown, hbel, hk1, hk2⟩ := hrel
    have HK1 := Lib.hid hk1
    have HK2 := Lib.hid hk2
    have hlt2 := hk2.lt
    clear hk1 hk2
    by_cases hlt : k < n
    · obtain ⟨b, o, s, z, rfl, hab, hp, h1, h2⟩ := HR.out.at_ hlt
      obtain ⟨hzl, hzh⟩ := HZ.out _ (List.mem_of_getElem? hp)
      simp only at hzl hzh
      have h1' : wr.cell? ⟨b, o + k * 2, none⟩ = some (.string s) := by rw [hbel.cell (by exact hab)]; exact h1
      have h2' : wr.cell? ⟨b, o + k * 2 + 1, none⟩ = some (.int .i64 z) := by rw [hbel.cell (by exact hab)]; exact h2
      have HS : Hid (ps.take (k + 1) = ps.take k ++ [(s, z)]) := by
        show _ = _
        rw [List.take_add_one, hp]; rfl
      clear h1 h2 hp
      have hws := hbel.size
      have hwrap : IntKind.u8.wrap z = z := IntWalk.u8_in z (by omega)
      go_wp2_with (at_builtin; refine wpList_append_own _ rfl _ _ 72 rfl (w.heap.size + 2) 75 i0 _ 2 24 Tryd.underlying72 hi0 hz0 hz1 hz2 rfl (by decide) _ _ _ rfl ((hown.alloc _).alloc _) ⟨wr.heap.size + 1, 0, none⟩ 1 1 [.string s, .int .u8 z] rfl rfl (news2' _ _ _ _ _) (by intro u hu; simp at hu; rcases hu with rfl | rfl <;> rfl) (by unfold maxLen; omega) (by omega) (by simp; omega) ?_)
      intro v' w1 hown' hgrow _
      obtain ⟨A1, c1, rfl⟩ := own_shape hown'
      go_wp2
      go_roundw
      case rel =>
        refine ⟨k + 1, A1, c1, by omega, by go_num, rfl, ?_, ?_, ?_, ?_⟩
        · rw [HS.out, flat_snoc]; exact hown'
        · exact (below_alloc (below_alloc hbel (Nat.le_refl _) _) (Nat.le_refl _) _).grown hgrow (by simp; omega) (fun g hg => by have := (hown.lt g hg).1; omega)
        · exact ((HK1.out.alloc _).alloc _).grown hgrow (fun h => by have := (hown.lt _ h.symm).1; omega)
        · exact ((HK2.out.alloc _).alloc _).grown hgrow (fun h => by have := (hown.lt _ h.symm).1; omega)
      case measure => simp [intOf]; omega
    · obtain rfl : k = n := by omega
      rw [List.take_of_length_le (by have := HL.out; omega)] at hown
      have HP := Lib.hid (Parts.of_own hown HL.out)
      clear hown
      obtain ⟨wA, rfl⟩ : ∃ wA, wA = wr := ⟨_, rfl⟩
      have hwA := hbel.size
      have HBEL := Lib.hid hbel
      clear hbel
      go_wp2_with fail
      have hkP : Blk (wA.alloc (.cells #[.pointer none, .pointer none, .pointer none, .pointer none] 87)) wA.heap.size 87 (ptrs ta tb tc td (w.heap.size + 1) 0) := Blk.new _ _ _
      have hbP : Below wA.heap.size wA (wA.alloc (.cells #[.pointer none, .pointer none, .pointer none, .pointer none] 87)) := (Below.refl _ _).alloc (Nat.le_refl _) _
      generalize (wA.alloc (.cells #[.pointer none, .pointer none, .pointer none, .pointer none] 87)) = wB at hkP hbP ⊢
      go_loopw [31] (fun i wr => ∃ q : Nat, q ≤ 4 ∧ i = .int .i64 q ∧ Below wA.heap.size wA wr ∧ Blk wr wA.heap.size 87 (ptrs ta tb tc td (w.heap.size + 1) q)) (fun i _ => 4 - (intOf i).toNat)
      case atStart => exact ⟨0, by omega, rfl, hbP, hkP⟩
      case round =>
        clear hkP hbP
        obtain ⟨q, hq, rfl, hbB, hkB⟩ := hrel
        have HKP := Lib.hid hkB
        have HK1' := HK1.out.below hbB (by omega)
        have HK2' := Lib.hid (HK2.out.below hbB (by omega))
        have hsB := hbB.size
        clear hkB
        rcases (show q = 0 ∨ q = 1 ∨ q = 2 ∨ q = 3 ∨ q = 4 by omega) with rfl | rfl | rfl | rfl | rfl
        · have t0 : wr.cell? ⟨w.heap.size, 0, none⟩ = some (.bool ta) := HK1'.cell 0
          rcases Bool.eq_false_or_eq_true ta with hta | hta
          · rw [hta] at t0
            have p0 := HKP.out.cell 0
            have f0 := HKP.out.frozen 0
            simp [ptrs] at p0
            go_wp2_with fail
            go_roundw
            case rel =>
              refine ⟨1, by omega, rfl, hbB.setCell (p := ⟨wA.heap.size, 0, none⟩) (Nat.le_refl _) _, ?_⟩
              have h := HKP.out.set_ 0 (.pointer (some ⟨w.heap.size + 1, 0, none⟩))
              simpa [ptrs, ptr, hta] using h
            case measure => simp [intOf]
          · rw [hta] at t0
            go_wp2_with fail
            go_roundw
            case rel =>
              refine ⟨1, by omega, rfl, hbB, ?_⟩
              have h := HKP.out
              simpa [ptrs, ptr, hta] using h
            case measure => simp [intOf]
        · have t0 : wr.cell? ⟨w.heap.size, 1, none⟩ = some (.bool tb) := HK1'.cell 1
          rcases Bool.eq_false_or_eq_true tb with hta | hta
          · rw [hta] at t0
            have p0 := HKP.out.cell 1
            have f0 := HKP.out.frozen 1
            simp [ptrs] at p0
            go_wp2_with fail
            go_roundw
            case rel =>
              refine ⟨2, by omega, rfl, hbB.setCell (p := ⟨wA.heap.size, 1, none⟩) (Nat.le_refl _) _, ?_⟩
              have h := HKP.out.set_ 1 (.pointer (some ⟨w.heap.size + 1, 1, none⟩))
              simpa [ptrs, ptr, hta] using h
            case measure => simp [intOf]
          · rw [hta] at t0
            go_wp2_with fail
            go_roundw
            case rel =>
              refine ⟨2, by omega, rfl, hbB, ?_⟩
              have h := HKP.out
              simpa [ptrs, ptr, hta] using h
            case measure => simp [intOf]
        · have t0 : wr.cell? ⟨w.heap.size, 2, none⟩ = some (.bool tc) := HK1'.cell 2
          rcases Bool.eq_false_or_eq_true tc with hta | hta
          · rw [hta] at t0
            have p0 := HKP.out.cell 2
            have f0 := HKP.out.frozen 2
            simp [ptrs] at p0
            go_wp2_with fail
            go_roundw
            case rel =>
              refine ⟨3, by omega, rfl, hbB.setCell (p := ⟨wA.heap.size, 2, none⟩) (Nat.le_refl _) _, ?_⟩
              have h := HKP.out.set_ 2 (.pointer (some ⟨w.heap.size + 1, 2, none⟩))
              simpa [ptrs, ptr, hta] using h
            case measure => simp [intOf]
          · rw [hta] at t0
            go_wp2_with fail
            go_roundw
            case rel =>
              refine ⟨3, by omega, rfl, hbB, ?_⟩
              have h := HKP.out
              simpa [ptrs, ptr, hta] using h
            case measure => simp [intOf]
        · have t0 : wr.cell? ⟨w.heap.size, 3, none⟩ = some (.bool td) := HK1'.cell 3
          rcases Bool.eq_false_or_eq_true td with hta | hta
          · rw [hta] at t0
            have p0 := HKP.out.cell 3
            have f0 := HKP.out.frozen 3
            simp [ptrs] at p0
            go_wp2_with fail
            go_roundw
            case rel =>
              refine ⟨4, by omega, rfl, hbB.setCell (p := ⟨wA.heap.size, 3, none⟩) (Nat.le_refl _) _, ?_⟩
              have h := HKP.out.set_ 3 (.pointer (some ⟨w.heap.size + 1, 3, none⟩))
              simpa [ptrs, ptr, hta] using h
            case measure => simp [intOf]
          · rw [hta] at t0
            go_wp2_with fail
            go_roundw
            case rel =>
              refine ⟨4, by omega, rfl, hbB, ?_⟩
              have h := HKP.out
              simpa [ptrs, ptr, hta] using h
            case measure => simp [intOf]
        · have q0 : wr.cell? ⟨wA.heap.size, 0, none⟩ = some (.pointer (ptr ta (w.heap.size + 1) 0)) := HKP.out.cell 0
          have q1 : wr.cell? ⟨wA.heap.size, 1, none⟩ = some (.pointer (ptr tb (w.heap.size + 1) 1)) := HKP.out.cell 1
          have q2 : wr.cell? ⟨wA.heap.size, 2, none⟩ = some (.pointer (ptr tc (w.heap.size + 1) 2)) := HKP.out.cell 2
          have q3 : wr.cell? ⟨wA.heap.size, 3, none⟩ = some (.pointer (ptr td (w.heap.size + 1) 3)) := HKP.out.cell 3
          go_wp2_with fail
          refine (subst_any A' k c' ps (ptr ta (w.heap.size + 1) 0) (ptr tb (w.heap.size + 1) 1) (ptr tc (w.heap.size + 1) 2) (ptr td (w.heap.size + 1) 3) (toldT ta tb tc td sa sb sc sd) _ ((HP.out.below hbB).more hsB) hn HZ.out HTOT.out HM.out rfl
            (ptrs_points (by omega) HK2'.out)).mono ?_
          rintro e w4 ⟨A2, m, c2, qs, rfl, hP4, hT4, ht4, hb4⟩
          have hml : m ≤ 1000 := by have h1 := hT4.length; have h2 := hP4.1; have h3 := HL.out; omega
          have HBE4 : Hid (Below w.heap.size w w4) := below_call (below_call HBEL.out hbB (by omega)) hb4 (by omega)
          have HQL := Lib.hid hP4.1
          have HP4 := Lib.hid hP4
          have HT4 := Lib.hid hT4
          have HTT := Lib.hid ht4
          clear hP4 hT4 ht4 hb4 q0 q1 q2 q3 HKP HK1' HK2' hbB HK1 HK2 HP hsB
          go_wp2_with fail
          go_loopw [12, 54] (fun v i wr => ∃ (j : Nat) (A' : Option Addr) (c' : Nat), j ≤ m ∧ i = .int .i64 j ∧ v = .slice A' j c' ∧ wr.ownsRow w4.heap.size 58 2 (.slice A' j c') j (flat .i64 (qs.take j)) ∧ Below w4.heap.size w4 wr) (fun _ i _ => m - (intOf i).toNat)
          case atStart => exact ⟨0, none, 0, Nat.zero_le _, rfl, rfl, World.ownsRow_nil _ _ _ _, Below.refl _ _⟩
          case round =>
            obtain ⟨j, A3, c3, hj, rfl, rfl, hown, hbel⟩ := hrel
            by_cases hlt : j < m
            · obtain ⟨b, o, s, z, rfl, hab, hp, h1, h2⟩ := HP4.out.at_ hlt
              obtain ⟨hzl, hzh, _⟩ := HT4.out.kinds _ (List.mem_of_getElem? hp)
              simp only at hzl hzh
              have h1' : wr.cell? ⟨b, o + j * 2, none⟩ = some (.string s) := by rw [hbel.cell (by exact hab)]; exact h1
              have h2' : wr.cell? ⟨b, o + j * 2 + 1, none⟩ = some (.int .u8 z) := by rw [hbel.cell (by exact hab)]; exact h2
              have HS : Hid (qs.take (j + 1) = qs.take j ++ [(s, z)]) := by
                show _ = _
                rw [List.take_add_one, hp]; rfl
              clear h1 h2 hp
              have hws := hbel.size
              have hwrap : IntKind.i64.wrap z = z := IntWalk.i64_in z (by omega)
              go_wp2_with (at_builtin; refine wpList_append_own _ rfl _ _ 32 rfl w4.heap.size 58 j0 _ 2 24 Tryd.underlying32 hj0 hy0 hy1 hy2 rfl (by decide) _ _ _ rfl ((hown.alloc _).alloc _) ⟨wr.heap.size + 1, 0, none⟩ 1 1 [.string s, .int .i64 z] rfl rfl (news2' _ _ _ _ _) (by intro u hu; simp at hu; rcases hu with rfl | rfl <;> rfl) (by unfold maxLen; omega) (by omega) (by simp; omega) ?_)
              intro v' w1 hown' hgrow _
              obtain ⟨A4, c4, rfl⟩ := own_shape hown'
              go_wp2
              go_roundw
              case rel =>
                refine ⟨j + 1, A4, c4, by omega, by go_num, rfl, ?_, ?_⟩
                · rw [HS.out, flat_snoc]; exact hown'
                · exact (below_alloc (below_alloc hbel (Nat.le_refl _) _) (Nat.le_refl _) _).grown hgrow (by simp; omega) (fun g hg => (hown.lt g hg).1)
              case measure => simp [intOf]; omega
            · obtain rfl : j = m := by omega
              rw [List.take_of_length_le (by have := HQL.out; omega)] at hown
              go_wp2_with fail
              go_ret
              exact ⟨A3, j, c3, qs, rfl, Parts.of_own hown HQL.out, HT4.out, HTT.out, below_call HBE4.out hbel (Nat.le_refl _)⟩
end Go.Proofs.YtnpghnipjienoaaDoor
