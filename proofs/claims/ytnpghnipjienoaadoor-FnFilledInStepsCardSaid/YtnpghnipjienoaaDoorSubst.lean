/-
  The contract of config.SubstituteTemplate.
-/
import Derived.Test.YtnpghnipjienoaaDoorGet
import Derived.Deep.Cut
import Derived.RegionTactic
import Derived.ChangeAlike
namespace Go.Proofs.YtnpghnipjienoaaDoor
open Go Go.RowKit Go.Sort

/-- A pointer to a text that is told, or nil. -/
def Points (w : World) (B : Nat) (a : Option Addr) (o : Option (List UInt8)) : Prop :=
  (a = none ∧ o = none) ∨ ∃ b i t, a = some ⟨b, i, none⟩ ∧ b < B ∧ w.cell? ⟨b, i, none⟩ = some (.string ⟨t.toArray⟩) ∧ o = some t
theorem Points.keep {w w' : World} {B : Nat} {a : Option Addr} {o : Option (List UInt8)} (h : Points w B a o) (hk : ∀ p : Addr, p.block < B → w'.cell? p = w.cell? p) : Points w' B a o := by
  rcases h with h | ⟨b, i, t, h1, h2, h3, h4⟩
  · exact .inl h
  · exact .inr ⟨b, i, t, h1, h2, (hk ⟨b, i, none⟩ h2).trans h3, h4⟩

theorem flat_set (l : Nat) (qs : List (ByteArray × Int)) (hl : qs.length = l) (s s' : ByteArray) (z z' : Int) :
    ((flat .u8 (qs ++ [(s, z)])).set (l * 2) (.string s')).set (l * 2 + 1) (.int .u8 z') = flat .u8 (qs ++ [(s', z')]) := by
  have hf : (flat .u8 qs).length = l * 2 := by rw [flat_length, hl]
  rw [flat_snoc, flat_snoc]
  rw [List.set_append_right _ _ (by omega), hf, Nat.sub_self]
  rw [List.set_append_right _ _ (by omega), hf, show l * 2 + 1 - l * 2 = 1 by omega]
  rfl
theorem last_part {w : World} {base m c' : Nat} {A' : Option Addr} {qs : List (ByteArray × Int)} (hown : w.ownsRow base 75 2 (.slice A' m c') m (flat .u8 qs)) (hqm : qs.length = m) :
    (m = 0 ∧ qs = []) ∨ ∃ (l : Nat) (qs' : List (ByteArray × Int)) (s1 : ByteArray) (z1 : Int) (g' : Nat), m = l + 1 ∧ qs = qs' ++ [(s1, z1)] ∧ qs'.length = l ∧ A' = some ⟨g', 0, none⟩ ∧ base ≤ g' ∧
      w.cell? ⟨g', l * 2, none⟩ = some (.string s1) ∧ w.cell? ⟨g', l * 2 + 1, none⟩ = some (.int .u8 z1) ∧ w.frozen? ⟨g', l * 2, none⟩ = false ∧ w.frozen? ⟨g', l * 2 + 1, none⟩ = false := by
  rcases Nat.eq_zero_or_pos m with h0 | h0
  · exact .inl ⟨h0, List.eq_nil_of_length_eq_zero (by omega)⟩
  · right
    have hne : qs ≠ [] := by rintro rfl; simp at hqm; omega
    obtain ⟨l, rfl⟩ : ∃ l, m = l + 1 := ⟨m - 1, by omega⟩
    obtain ⟨g, cap, hv, hb, _⟩ := hown.form (by omega)
    have hA : A' = some ⟨g, 0, none⟩ := by injection hv
    subst hA
    have hq : qs = qs.dropLast ++ [qs.getLast hne] := (List.dropLast_concat_getLast hne).symm
    have hl : qs.dropLast.length = l := by rw [List.length_dropLast]; omega
    obtain ⟨⟨s1, z1⟩, hlast⟩ : ∃ p, p = qs.getLast hne := ⟨_, rfl⟩
    rw [← hlast] at hq
    have hat : qs[l]? = some (s1, z1) := by
      rw [hq, List.getElem?_append_right (by omega), hl, Nat.sub_self]
      rfl
    obtain ⟨f1, f2⟩ := flat_at .u8 qs l _ hat
    refine ⟨l, qs.dropLast, s1, z1, g, rfl, hq, hl, rfl, hb, ?_, ?_, hown.frozenAt _, hown.frozenAt _⟩
    · rw [hown.cellAt _ (by omega)]; exact f1
    · rw [hown.cellAt _ (by omega)]; exact f2
theorem joined {w : World} {base c' l g' : Nat} {qs : List (ByteArray × Int)} {s1 : ByteArray} {z1 : Int} (hown : w.ownsRow base 75 2 (.slice (some ⟨g', 0, none⟩) (l + 1) c') (l + 1) (flat .u8 (qs ++ [(s1, z1)]))) (hl : qs.length = l) (s : ByteArray) (z : Int) :
    ((w.setCell ⟨g', l * 2, none⟩ (.string s)).setCell ⟨g', l * 2 + 1, none⟩ (.int .u8 z)).ownsRow base 75 2 (.slice (some ⟨g', 0, none⟩) (l + 1) c') (l + 1) (flat .u8 (qs ++ [(s, z)])) := by
  have h := ((hown.stored (l * 2) (.string s)).1.stored (l * 2 + 1) (.int .u8 z)).1
  rw [flat_set l qs hl] at h
  exact h

theorem round_push {w w7 w8 : World} {n j m c' A1c : Nat} {A' A1 : Option Addr} {ps qs : List (ByteArray × Int)} {P1 P2 P3 P4 : Option Addr} {T : Int → Option (List UInt8)} {s2 s7 : ByteArray} {z2 z7 : Int}
    (hO : w7.ownsRow (w.heap.size + 1) 75 2 (.slice A' m c') m (flat .u8 qs)) (hqm : qs.length = m) (htd : Told T (ps.take j) qs) (htq : tot qs ≤ tot (ps.take j) + j * 2147483647) (he : tellOne T (s2, z2) = (s7, z7))
    (hs : ps.take (j + 1) = ps.take j ++ [(s2, z2)]) (hM : ∀ z t, T z = some t → t.length ≤ 2147483647) (h0 : T 0 = none) (hz : 0 ≤ z2 ∧ z2 ≤ 4) (hj : j < n) (hb7 : Below w.heap.size w w7) (hw : w.heap.size < w7.heap.size)
    (hB : Blk w7 w.heap.size 90 #[.pointer P1, .pointer P2, .pointer P3, .pointer P4])
    (hown : w8.ownsRow (w.heap.size + 1) 75 2 (.slice A1 (m + 1) A1c) (m + 1) (flat .u8 qs ++ [.string s7, .int .u8 z7])) (hgrow : (w7.alloc (.cells #[.string s7, .int .u8 z7] 75)).grownBy w8 (Value.slice A' m c').ownBlock) :
    ∃ (j1 : Nat) (A2 : Option Addr) (m2 c2 : Nat) (qs2 : List (ByteArray × Int)), j1 ≤ n ∧ Value.int .i64 (j + 1) = .int .i64 j1 ∧ Value.slice A1 (m + 1) A1c = .slice A2 m2 c2 ∧ w8.ownsRow (w.heap.size + 1) 75 2 (.slice A2 m2 c2) m2 (flat .u8 qs2) ∧ qs2.length = m2 ∧
      Told T (ps.take j1) qs2 ∧ tot qs2 ≤ tot (ps.take j1) + j1 * 2147483647 ∧ Below w.heap.size w w8 ∧ Blk w8 w.heap.size 90 #[.pointer P1, .pointer P2, .pointer P3, .pointer P4] := by
  have ht := htd.push h0 (s2, z2) hz
  have hsz := tellOne_size hM (s2, z2)
  rw [he] at ht hsz
  refine ⟨j + 1, A1, m + 1, A1c, qs ++ [(s7, z7)], hj, by simp, rfl, ?_, by simp [hqm], ?_, ?_, ?_, ?_⟩
  · rw [flat_snoc]; exact hown
  · rw [hs]; exact ht
  · rw [hs, tot_append, tot_append, tot_one, tot_one]
    simp only at hsz ⊢
    omega
  · exact (hb7.alloc (by omega) _).grown hgrow (by simp; omega) (fun g hg => by have := (hO.lt g hg).1; omega)
  · exact (hB.alloc _).grown hgrow (fun h => by have := (hO.lt _ h.symm).1; omega)

theorem round_join {w w7 : World} {n j l c' g' : Nat} {ps qs : List (ByteArray × Int)} {P1 P2 P3 P4 : Option Addr} {T : Int → Option (List UInt8)} {s1 s2 s7 : ByteArray} {z2 z7 : Int}
    (hO : w7.ownsRow (w.heap.size + 1) 75 2 (.slice (some ⟨g', 0, none⟩) (l + 1) c') (l + 1) (flat .u8 (qs ++ [(s1, 0)]))) (hqm : (qs ++ [(s1, 0)]).length = l + 1) (htd : Told T (ps.take j) (qs ++ [(s1, 0)]))
    (htq : tot (qs ++ [(s1, 0)]) ≤ tot (ps.take j) + j * 2147483647) (he : tellOne T (s2, z2) = (s7, z7))
    (hs : ps.take (j + 1) = ps.take j ++ [(s2, z2)]) (hM : ∀ z t, T z = some t → t.length ≤ 2147483647) (h0 : T 0 = none) (hz : 0 ≤ z2 ∧ z2 ≤ 4) (hj : j < n) (hb7 : Below w.heap.size w w7)
    (hB : Blk w7 w.heap.size 90 #[.pointer P1, .pointer P2, .pointer P3, .pointer P4]) :
    ∃ (j1 : Nat) (A2 : Option Addr) (m2 c2 : Nat) (qs2 : List (ByteArray × Int)), j1 ≤ n ∧ Value.int .i64 (j + 1) = .int .i64 j1 ∧ Value.slice (some ⟨g', 0, none⟩) (l + 1) c' = .slice A2 m2 c2 ∧
      (((w7.setCell ⟨g', l * 2, none⟩ (.string (s1 ++ s7))).setCell ⟨g', l * 2 + 1, none⟩ (.int .u8 z7)).drew).ownsRow (w.heap.size + 1) 75 2 (.slice A2 m2 c2) m2 (flat .u8 qs2) ∧ qs2.length = m2 ∧
      Told T (ps.take j1) qs2 ∧ tot qs2 ≤ tot (ps.take j1) + j1 * 2147483647 ∧ Below w.heap.size w (((w7.setCell ⟨g', l * 2, none⟩ (.string (s1 ++ s7))).setCell ⟨g', l * 2 + 1, none⟩ (.int .u8 z7)).drew) ∧
      Blk (((w7.setCell ⟨g', l * 2, none⟩ (.string (s1 ++ s7))).setCell ⟨g', l * 2 + 1, none⟩ (.int .u8 z7)).drew) w.heap.size 90 #[.pointer P1, .pointer P2, .pointer P3, .pointer P4] := by
  have hg := (hO.lt g' rfl).1
  have ht := htd.join h0 (s2, z2) hz
  have hsz := tellOne_size hM (s2, z2)
  rw [he] at ht hsz
  rw [List.length_append, List.length_singleton] at hqm
  have hl : qs.length = l := by omega
  refine ⟨j + 1, _, l + 1, c', qs ++ [(s1 ++ s7, z7)], hj, by simp, rfl, (joined hO hl (s1 ++ s7) z7).kept (only_drew (World.grownBy.refl _ none)) (Classical.em _), by simp [hl], ?_, ?_, ?_, ?_⟩
  · rw [hs]; exact ht
  · rw [hs, tot_append, tot_append, tot_one, tot_one]
    rw [tot_append, tot_one] at htq
    simp only [ByteArray.size_append] at hsz htq ⊢
    omega
  · exact ((hb7.setCell (p := ⟨g', l * 2, none⟩) (by simp; omega) _).setCell (p := ⟨g', l * 2 + 1, none⟩) (by simp; omega) _).drew
  · exact ((hB.far (p := ⟨g', l * 2, none⟩) (by simp; omega) _).far (p := ⟨g', l * 2 + 1, none⟩) (by simp; omega) _).drew

def SubstPost (T : Int → Option (List UInt8)) (ps : List (ByteArray × Int)) (n : Nat) (w : World) (e : Ending) (w' : World) : Prop :=
  ∃ (A' : Option Addr) (m c' : Nat) (qs : List (ByteArray × Int)), e = .returned (.slice A' m c') ∧ Parts .u8 w' w'.heap.size A' m qs ∧ Told T ps qs ∧ tot qs ≤ tot ps + n * 2147483647 ∧ Below w.heap.size w w'

set_option maxHeartbeats 4000000 in
set_option maxRecDepth 100000 in
theorem subst_any (A : Option Addr) (n c : Nat) (ps : List (ByteArray × Int)) (P1 P2 P3 P4 : Option Addr) (T : Int → Option (List UInt8)) (w : World) (hr : Parts .u8 w w.heap.size A n ps) (hn : n ≤ 1000) (hz : ∀ p ∈ ps, 0 ≤ p.2 ∧ p.2 ≤ 4)
    (htot : tot ps ≤ 35184372088832) (hM : ∀ z t, T z = some t → t.length ≤ 2147483647) (h0 : T 0 = none) (hP : ∀ z, 0 ≤ z → z ≤ 4 → Points w w.heap.size (pick none P1 P2 P3 P4 z) (T z)) :
    Calls Tryd.prog 43 #[.slice A n c, .agg #[.pointer P1, .pointer P2, .pointer P3, .pointer P4]] w (SubstPost T ps n w) := by
  have HL := Lib.hid hr.1
  have HZ := Lib.hid hz
  have HTOT := Lib.hid htot
  have HM := Lib.hid hM
  have H0 := Lib.hid h0
  have HP := Lib.hid hP
  have HR := Lib.hid hr
  clear hz htot hM h0 hP hr
  go_enter Tryd.func43, Tryd.ntmps43
  go_wp2_with fail
  have hb0 : Below w.heap.size w (w.alloc (.cells #[.pointer P1, .pointer P2, .pointer P3, .pointer P4] 90)) := (Below.refl _ _).alloc (Nat.le_refl _) _
  have hblk0 : Blk (w.alloc (.cells #[.pointer P1, .pointer P2, .pointer P3, .pointer P4] 90)) w.heap.size 90 #[.pointer P1, .pointer P2, .pointer P3, .pointer P4] := Blk.new _ _ _
  generalize (w.alloc (.cells #[.pointer P1, .pointer P2, .pointer P3, .pointer P4] 90)) = w0 at hb0 hblk0 ⊢
  go_loopw [5, 16] (fun v i wr => ∃ k : Nat, k ≤ n ∧ i = .int .i64 k ∧ v = .bool false ∧ Below w.heap.size w wr ∧ Blk wr w.heap.size 90 #[.pointer P1, .pointer P2, .pointer P3, .pointer P4] ∧ ∀ p ∈ ps.take k, T p.2 = none) (fun _ i _ => n - (intOf i).toNat)
  case atStart => exact ⟨0, Nat.zero_le _, rfl, rfl, hb0, hblk0, by simp⟩
  case round =>
    clear hb0 hblk0
    obtain ⟨k, hk, rfl, rfl, hbel, hblk, hall⟩ := hrel
    have HB := Lib.hid hblk
    have HA := Lib.hid hall
    have hws := hblk.lt
    have p0 := hblk.cell 0
    have p1 := hblk.cell 1
    have p2 := hblk.cell 2
    have p3 := hblk.cell 3
    simp at p0 p1 p2 p3
    clear hall hblk
    by_cases hlt : k < n
    · obtain ⟨b, o, s, z, rfl, hab, hp, h1, h2⟩ := HR.out.at_ hlt
      obtain ⟨hz0, hz4⟩ := HZ.out _ (List.mem_of_getElem? hp)
      simp only at hz0 hz4
      have h1' : wr.cell? ⟨b, o + k * 2, none⟩ = some (.string s) := by rw [hbel.cell (by exact hab)]; exact h1
      have h2' : wr.cell? ⟨b, o + k * 2 + 1, none⟩ = some (.int .u8 z) := by rw [hbel.cell (by exact hab)]; exact h2
      have HS : Hid (ps.take (k + 1) = ps.take k ++ [(s, z)]) := by
        show _ = _
        rw [List.take_add_one, hp]; rfl
      clear h1 h2 hp
      have hpz := HP.out z hz0 hz4
      go_wp2_with fail
      refine (get_any P1 P2 P3 P4 z hz0 hz4 _).mono ?_
      obtain ⟨pz, hpz1⟩ : ∃ pz, pz = pick none P1 P2 P3 P4 z := ⟨_, rfl⟩
      rw [← hpz1] at hpz ⊢
      clear hpz1
      have hcase : (pz = none ∧ T z = none ∧ ¬ (z = 0 ∧ k + 1 < n)) ∨ ((pz = none ∧ z = 0 ∧ k + 1 < n) ∨ ∃ b1 i1, pz = some ⟨b1, i1, none⟩) := by
        rcases hpz with ⟨h1, h2⟩ | ⟨b1, i1, t, h1, _⟩
        · by_cases h : z = 0 ∧ k + 1 < n
          · exact .inr (.inl ⟨h1, h⟩)
          · exact .inl ⟨h1, h2, h⟩
        · exact .inr (.inr ⟨b1, i1, h1⟩)
      clear hpz
      have hb1 := below_alloc hbel (Nat.le_refl _) (.cells #[.string s, .int .u8 z] 75)
      have hs1 : w.heap.size < (wr.alloc (.cells #[.string s, .int .u8 z] 75)).heap.size := by simp; omega
      have HB1 := Lib.hid (HB.out.alloc (.cells #[.string s, .int .u8 z] 75))
      have c1 : (wr.alloc (.cells #[.string s, .int .u8 z] 75)).cell? ⟨wr.heap.size, 1, none⟩ = some (.int .u8 z) := Lib.cell_of_heap (heap_alloc_new wr _) 1
      have hlg : wr.heap.size < (wr.alloc (.cells #[.string s, .int .u8 z] 75)).heap.size := by simp
      rcases hcase with ⟨rfl, hTz, hlast⟩ | hbr
      · rintro e w1 ⟨rfl, hbl⟩
        have d1 : w1.cell? ⟨wr.heap.size, 1, none⟩ = some (.int .u8 z) := by rw [hbl.cell (by exact hlg)]; exact c1
        have hb2 := below_call hb1 hbl (Nat.le_refl _)
        have HB2 := Lib.hid (HB1.out.below hbl hs1)
        have HALL : Hid (∀ p ∈ ps.take (k + 1), T p.2 = none) := by
          intro p hp
          rw [HS.out, List.mem_append, List.mem_singleton] at hp
          rcases hp with hp | rfl
          · exact HA.out p hp
          · exact hTz
        clear hbl hb1 HB1 c1 hlg hTz
        by_cases hz0' : z = 0
        · subst hz0'
          have hkn : ¬ k + 1 < n := by omega
          go_wp2_with fail
          go_roundw
          case rel => exact ⟨k + 1, by omega, by go_num, rfl, hb2, HB2.out, HALL.out⟩
          case measure => simp [intOf]; omega
        · have hzb : (z == 0) = false := by rw [beq_eq_false_iff_ne]; exact hz0'
          go_wp2_with fail
          go_roundw
          case rel => exact ⟨k + 1, by omega, by go_num, rfl, hb2, HB2.out, HALL.out⟩
          case measure => simp [intOf]; omega
      · obtain ⟨i0, hi0, hz0', hz1', hz2'⟩ := info_parts info75
        rcases hbr with ⟨rfl, rfl, hk1⟩ | ⟨b1, i1, rfl⟩
        all_goals
          rintro e w1 ⟨rfl, hbl⟩
          have d1 : w1.cell? ⟨wr.heap.size, 1, none⟩ = some (.int .u8 _) := (hbl.cell (by exact hlg)).trans c1
          have hb2 := below_call hb1 hbl (Nat.le_refl _)
          have hs2 := hb2.size
          have hblk2 := HB1.out.below hbl hs1
          have hlt2 := hblk2.lt
          have HB2 := Lib.hid hblk2
          clear hbl hb1 HB1 c1 hlg hblk2
          go_wp2_with (at_make; refine wpList_make_own _ rfl _ _ 72 rfl (w.heap.size + 1) 75 i0 _ 2 Tryd.underlying72 hi0 hz0' hz1' _ _ _ n rfl rfl rfl (by rw [hz2']; omega) (by unfold maxLen; omega) (by omega) ?_)
          intro wm hown0 hgm
          have hbm : Below w.heap.size w wm := hb2.grown hgm (by omega) (by intro g hg; cases hg)
          have HBm := Lib.hid (HB2.out.grown hgm (by simp))
          clear hb2 HB2 hgm d1 HB HA HS hlt hk hbel p0 p1 p2 p3 h1' h2' hws hs1 hz0 hz4
          go_wp2_with fail
          go_loopw [8, 47] (fun v i wq => ∃ (j : Nat) (A' : Option Addr) (m c' : Nat) (qs : List (ByteArray × Int)), j ≤ n ∧ i = .int .i64 j ∧ v = .slice A' m c' ∧ wq.ownsRow (w.heap.size + 1) 75 2 (.slice A' m c') m (flat .u8 qs) ∧ qs.length = m ∧
              Told T (ps.take j) qs ∧ tot qs ≤ tot (ps.take j) + j * 2147483647 ∧ Below w.heap.size w wq ∧ Blk wq w.heap.size 90 #[.pointer P1, .pointer P2, .pointer P3, .pointer P4]) (fun _ i _ => n - (intOf i).toNat)
          case atStart => exact ⟨0, _, 0, n, [], Nat.zero_le _, rfl, rfl, hown0, rfl, Told.nil T, by simp [tot], hbm, HBm.out⟩
          case round =>
            clear hown0 hbm HBm
            obtain ⟨j, A', m, c', qs, hj, rfl, rfl, hown, hqm, htold, htq, hbel3, hblk3⟩ := hrel
            have hmj : m ≤ j := by have := htold.length; rw [List.length_take] at this; omega
            have HQM := Lib.hid hqm
            have HTD := Lib.hid htold
            have HTQ := Lib.hid htq
            have hws3 := hblk3.lt
            have q0 := hblk3.cell 0
            have q1 := hblk3.cell 1
            have q2 := hblk3.cell 2
            have q3 := hblk3.cell 3
            simp at q0 q1 q2 q3
            have HB3 := Lib.hid hblk3
            clear hqm htold htq hblk3
            by_cases hjn : j < n
            · obtain ⟨b2, o2, s2, z2, hA2, hab2, hp2, h3, h4⟩ := HR.out.at_ hjn
              simp only [Option.some.injEq, Addr.mk.injEq, and_true] at hA2
              obtain ⟨rfl, rfl⟩ := hA2
              obtain ⟨hy0, hy4⟩ := HZ.out _ (List.mem_of_getElem? hp2)
              simp only at hy0 hy4
              have h3' : wr.cell? ⟨b, o + j * 2, none⟩ = some (.string s2) := by rw [hbel3.cell (by exact hab2)]; exact h3
              have h4' : wr.cell? ⟨b, o + j * 2 + 1, none⟩ = some (.int .u8 z2) := by rw [hbel3.cell (by exact hab2)]; exact h4
              have HS2 : Hid (ps.take (j + 1) = ps.take j ++ [(s2, z2)]) := by
                show _ = _
                rw [List.take_add_one, hp2]; rfl
              have HSZ2 : Hid (s2.size ≤ 35184372088832) := by
                have h1 := HTOT.out
                have h2 : tot (ps.take (j + 1)) + tot (ps.drop (j + 1)) = tot ps := by rw [← tot_append, List.take_append_drop]
                rw [HS2.out, tot_append, tot_one] at h2
                show _ ≤ _
                simp only at h2
                omega
              clear h3 h4 hp2
              have hpz := (HP.out z2 hy0 hy4).keep (w' := wr) fun p hp => hbel3.cell hp
              go_wp2_with fail
              refine (get_any P1 P2 P3 P4 z2 hy0 hy4 _).mono ?_
              obtain ⟨pz, hpz1⟩ : ∃ pz, pz = pick none P1 P2 P3 P4 z2 := ⟨_, rfl⟩
              rw [← hpz1] at hpz ⊢
              clear hpz1
              have hb4 := below_alloc hbel3 (Nat.le_refl _) (.cells #[.string s2, .int .u8 z2] 75)
              have hs4 : w.heap.size < (wr.alloc (.cells #[.string s2, .int .u8 z2] 75)).heap.size := by simp; omega
              have HB4 := Lib.hid (HB3.out.alloc (.cells #[.string s2, .int .u8 z2] 75))
              have HO4 := Lib.hid (hown.alloc (.cells #[.string s2, .int .u8 z2] 75))
              have HX4 : Hid (Blk (wr.alloc (.cells #[.string s2, .int .u8 z2] 75)) wr.heap.size 75 #[.string s2, .int .u8 z2]) := Blk.new _ _ _
              have hlg : wr.heap.size < (wr.alloc (.cells #[.string s2, .int .u8 z2] 75)).heap.size := by simp
              have HNB : Hid ((Value.slice A' m c').ownBlock ≠ some wr.heap.size) := by
                intro h
                have := (hown.lt _ h).2
                omega
              rintro e w5 ⟨rfl, hbl⟩
              have hb5 := below_call hb4 hbl (Nat.le_refl _)
              have hs5 := hbl.size
              have HB5 := Lib.hid (HB4.out.below hbl hs4)
              have HO5 := Lib.hid (HO4.out.kept (only_of_below hbl none) (Classical.em _))
              have hx5 := HX4.out.below hbl hlg
              have HX5 := Lib.hid hx5
              have x0 := hx5.cell 0
              have x1 := hx5.cell 1
              have f0 := hx5.frozen 0
              have f1 := hx5.frozen 1
              simp at x0 x1
              have hpz5 := hpz.keep (w' := w5) fun p hp => (hbl.cell (by have := hbel3.size; simp; omega)).trans (World.cell?_alloc_lt _ _ _ (by have := hbel3.size; omega))
              clear hb4 hbl HB4 HO4 HX4 hx5 hpz hown q0 q1 q2 q3 HB3 h3' h4'
              have hbw5 := hb5.size
              rcases hpz5 with ⟨rfl, hTz⟩ | ⟨b6, i6, t, rfl, hb6, hc6, hTz⟩
              · go_upto_region 18 with (fail)
                have HE : Hid (tellOne T (s2, z2) = (s2, z2)) := by show _ = _; simp [tellOne, hTz]
                clear hTz
                have hb7 := hb5
                have HB7 := HB5
                have HO7 := HO5
                clear hb5 HB5 HO5 HX5
                have HKZ : Hid (0 ≤ z2 ∧ z2 ≤ 4) := by
                  have h := (told_one H0.out (s2, z2) ⟨hy0, hy4⟩).2
                  rw [HE.out] at h
                  exact ⟨h.1, h.2.1⟩
                have HSZ7 : Hid (s2.size ≤ s2.size + 2147483647) := by
                  have h := tellOne_size HM.out (s2, z2)
                  rw [HE.out] at h
                  exact h
                have hbw7 := hb7.size
                have hlm := last_part HO7.out HQM.out
                rcases hlm with ⟨rfl, rfl⟩ | ⟨l, qs', s1, z1, g', rfl, rfl, hl1, rfl, hgb, k0, k1, l0, l1⟩
                · go_wp2_with (at_builtin; refine wpList_append_own _ rfl _ _ 72 rfl (w.heap.size + 1) 75 i0 _ 2 24 Tryd.underlying72 hi0 hz0' hz1' hz2' rfl (by decide) _ _ _ rfl (HO7.out.alloc _) ⟨w5.heap.size, 0, none⟩ 1 1 [.string s2, .int .u8 z2] rfl rfl (news2 w5 _ _ _) (by intro u hu; simp at hu; rcases hu with rfl | rfl <;> rfl) (by unfold maxLen; omega) (by omega) (by simp; omega) ?_)
                  intro v' w8 hown' hgrow _
                  obtain ⟨A1, c1, rfl⟩ := own_shape hown'
                  go_wp2_with fail
                  go_roundw
                  case rel => exact round_push HO7.out HQM.out HTD.out HTQ.out HE.out HS2.out HM.out H0.out ⟨hy0, hy4⟩ hjn hb7 (by omega) HB7.out hown' hgrow
                  case measure => simp [intOf]; omega
                · have HL1 := Lib.hid hl1
                  clear hl1
                  by_cases hz1 : z1 = 0
                  · subst hz1
                    have hsz1 : s1.size ≤ 37331855735832 := by
                      have h1 := HTQ.out
                      have h2 := HTOT.out
                      have h3 : tot (ps.take j) + tot (ps.drop j) = tot ps := by rw [← tot_append, List.take_append_drop]
                      rw [tot_append, tot_one] at h1
                      simp only at h1
                      omega
                    have hsz7 := HSZ7.out
                    have hsz2 := HSZ2.out
                    have hkz := HKZ.out
                    have hgx : (⟨g', l * 2, none⟩ : Addr).block ≠ wr.heap.size := by
                      intro h
                      exact HNB.out (by rw [← h]; rfl)
                    simp only at hgx
                    go_wp2_with fail
                    go_region
                    go_wp2_with fail
                    go_roundw
                    case rel => exact round_join HO7.out HQM.out HTD.out HTQ.out HE.out HS2.out HM.out H0.out ⟨hy0, hy4⟩ hjn hb7 HB7.out
                    case measure => simp [intOf]; omega
                  · have hzb : (z1 == 0) = false := by rw [beq_eq_false_iff_ne]; exact hz1
                    go_wp2_with (at_builtin; refine wpList_append_own _ rfl _ _ 72 rfl (w.heap.size + 1) 75 i0 _ 2 24 Tryd.underlying72 hi0 hz0' hz1' hz2' rfl (by decide) _ _ _ rfl (HO7.out.alloc _) ⟨w5.heap.size, 0, none⟩ 1 1 [.string s2, .int .u8 z2] rfl rfl (news2 w5 _ _ _) (by intro u hu; simp at hu; rcases hu with rfl | rfl <;> rfl) (by unfold maxLen; omega) (by omega) (by simp; omega) ?_)
                    intro v' w8 hown' hgrow _
                    obtain ⟨A1, c1, rfl⟩ := own_shape hown'
                    go_wp2_with fail
                    go_roundw
                    case rel => exact round_push HO7.out HQM.out HTD.out HTQ.out HE.out HS2.out HM.out H0.out ⟨hy0, hy4⟩ hjn hb7 (by omega) HB7.out hown' hgrow
                    case measure => simp [intOf]; omega
              · have htl := HM.out _ _ hTz
                have hsz2 := HSZ2.out
                have htsz : (⟨t.toArray⟩ : ByteArray).size = t.length := by simp [ByteArray.size]
                go_wp2_with fail
                go_region
                go_upto_region 18 with (fail)
                have HE : Hid (tellOne T (s2, z2) = (s2 ++ ⟨t.toArray⟩, 0)) := by show _ = _; simp [tellOne, hTz]
                clear hTz htl hsz2 htsz hc6
                have hb7 : Below w.heap.size w ((w5.setCell ⟨wr.heap.size, 0, none⟩ (.string (s2 ++ ⟨t.toArray⟩))).setCell ⟨wr.heap.size, 1, none⟩ (.int .u8 0)).drew := ((hb5.setCell (p := ⟨wr.heap.size, 0, none⟩) hbel3.size _).setCell (p := ⟨wr.heap.size, 1, none⟩) hbel3.size _).drew
                have HB7 : Hid (Blk ((w5.setCell ⟨wr.heap.size, 0, none⟩ (.string (s2 ++ ⟨t.toArray⟩))).setCell ⟨wr.heap.size, 1, none⟩ (.int .u8 0)).drew w.heap.size 90 #[.pointer P1, .pointer P2, .pointer P3, .pointer P4]) := ((HB5.out.far (p := ⟨wr.heap.size, 0, none⟩) (by simp; omega) _).far (p := ⟨wr.heap.size, 1, none⟩) (by simp; omega) _).drew
                have HO7 : Hid (((w5.setCell ⟨wr.heap.size, 0, none⟩ (.string (s2 ++ ⟨t.toArray⟩))).setCell ⟨wr.heap.size, 1, none⟩ (.int .u8 0)).drew.ownsRow (w.heap.size + 1) 75 2 (.slice A' m c') m (flat .u8 qs)) := HO5.out.kept (only_drew (only_setCell (only_setCell (World.grownBy.refl w5 (some wr.heap.size)) (p := ⟨wr.heap.size, 0, none⟩) (.inl rfl) _) (p := ⟨wr.heap.size, 1, none⟩) (.inl rfl) _)) (.inr HNB.out)
                have hx7 := ((HX5.out.set_ 0 (.string (s2 ++ ⟨t.toArray⟩))).set_ 1 (.int .u8 0)).drew
                have y0 := hx7.cell 0
                have y1 := hx7.cell 1
                have e0 := hx7.frozen 0
                have e1 := hx7.frozen 1
                have hw7 : wr.heap.size < ((w5.setCell ⟨wr.heap.size, 0, none⟩ (.string (s2 ++ ⟨t.toArray⟩))).setCell ⟨wr.heap.size, 1, none⟩ (.int .u8 0)).drew.heap.size := hx7.lt
                clear hb5 HB5 HO5 HX5 x0 x1 f0 f1 hx7
                generalize (((w5.setCell ⟨wr.heap.size, 0, none⟩ (.string (s2 ++ ⟨t.toArray⟩))).setCell ⟨wr.heap.size, 1, none⟩ (.int .u8 0)).drew) = w7 at hb7 HB7 HO7 y0 y1 e0 e1 hw7 ⊢
                generalize s2 ++ ⟨t.toArray⟩ = s7 at HE y0 ⊢
                simp at y0 y1
                have HKZ : Hid ((0 : Int) ≤ 0 ∧ (0 : Int) ≤ 4) := by
                  have h := (told_one H0.out (s2, z2) ⟨hy0, hy4⟩).2
                  rw [HE.out] at h
                  exact ⟨h.1, h.2.1⟩
                have HSZ7 : Hid (s7.size ≤ s2.size + 2147483647) := by
                  have h := tellOne_size HM.out (s2, z2)
                  rw [HE.out] at h
                  exact h
                have hbw7 := hb7.size
                have hlm := last_part HO7.out HQM.out
                rcases hlm with ⟨rfl, rfl⟩ | ⟨l, qs', s1, z1, g', rfl, rfl, hl1, rfl, hgb, k0, k1, l0, l1⟩
                · go_wp2_with (at_builtin; refine wpList_append_own _ rfl _ _ 72 rfl (w.heap.size + 1) 75 i0 _ 2 24 Tryd.underlying72 hi0 hz0' hz1' hz2' rfl (by decide) _ _ _ rfl (HO7.out.alloc _) ⟨w7.heap.size, 0, none⟩ 1 1 [.string s7, .int .u8 0] rfl rfl (news2 w7 _ _ _) (by intro u hu; simp at hu; rcases hu with rfl | rfl <;> rfl) (by unfold maxLen; omega) (by omega) (by simp; omega) ?_)
                  intro v' w8 hown' hgrow _
                  obtain ⟨A1, c1, rfl⟩ := own_shape hown'
                  go_wp2_with fail
                  go_roundw
                  case rel => exact round_push HO7.out HQM.out HTD.out HTQ.out HE.out HS2.out HM.out H0.out ⟨hy0, hy4⟩ hjn hb7 (by omega) HB7.out hown' hgrow
                  case measure => simp [intOf]; omega
                · have HL1 := Lib.hid hl1
                  clear hl1
                  by_cases hz1 : z1 = 0
                  · subst hz1
                    have hsz1 : s1.size ≤ 37331855735832 := by
                      have h1 := HTQ.out
                      have h2 := HTOT.out
                      have h3 : tot (ps.take j) + tot (ps.drop j) = tot ps := by rw [← tot_append, List.take_append_drop]
                      rw [tot_append, tot_one] at h1
                      simp only at h1
                      omega
                    have hsz7 := HSZ7.out
                    have hsz2 := HSZ2.out
                    have hkz := HKZ.out
                    have hgx : (⟨g', l * 2, none⟩ : Addr).block ≠ wr.heap.size := by
                      intro h
                      exact HNB.out (by rw [← h]; rfl)
                    simp only at hgx
                    go_wp2_with fail
                    go_region
                    go_wp2_with fail
                    go_roundw
                    case rel => exact round_join HO7.out HQM.out HTD.out HTQ.out HE.out HS2.out HM.out H0.out ⟨hy0, hy4⟩ hjn hb7 HB7.out
                    case measure => simp [intOf]; omega
                  · have hzb : (z1 == 0) = false := by rw [beq_eq_false_iff_ne]; exact hz1
                    go_wp2_with (at_builtin; refine wpList_append_own _ rfl _ _ 72 rfl (w.heap.size + 1) 75 i0 _ 2 24 Tryd.underlying72 hi0 hz0' hz1' hz2' rfl (by decide) _ _ _ rfl (HO7.out.alloc _) ⟨w7.heap.size, 0, none⟩ 1 1 [.string s7, .int .u8 0] rfl rfl (news2 w7 _ _ _) (by intro u hu; simp at hu; rcases hu with rfl | rfl <;> rfl) (by unfold maxLen; omega) (by omega) (by simp; omega) ?_)
                    intro v' w8 hown' hgrow _
                    obtain ⟨A1, c1, rfl⟩ := own_shape hown'
                    go_wp2_with fail
                    go_roundw
                    case rel => exact round_push HO7.out HQM.out HTD.out HTQ.out HE.out HS2.out HM.out H0.out ⟨hy0, hy4⟩ hjn hb7 (by omega) HB7.out hown' hgrow
                    case measure => simp [intOf]; omega
            · obtain rfl : j = n := by omega
              have h := HTD.out
              have h2 := HTQ.out
              rw [List.take_of_length_le (by have := HL.out; omega)] at h h2
              go_wp2_with fail
              go_ret
              exact ⟨A', m, c', qs, rfl, Parts.of_own hown HQM.out, h, h2, hbel3⟩
    · obtain rfl : k = n := by omega
      go_wp2_with fail
      go_ret
      refine ⟨A, k, c, ps, rfl, (HR.out.below hbel).more hbel.size, Told.same_ fun p hp => ⟨(HZ.out p hp).1, (HZ.out p hp).2, ?_⟩, by omega, hbel⟩
      have h := HA.out
      rw [List.take_of_length_le (by have := HL.out; omega)] at h
      exact h p hp
end Go.Proofs.YtnpghnipjienoaaDoor
