/-
  The contracts of spec.name, spec.Written, config.TemplateToString and impl.Written: a template is written by its texts and the names of its kinds.
-/
import Derived.Test.YtnpghnipjienoaaDoorPartsOf
import Derived.Lib.QuietBelow
namespace Go.Proofs.YtnpghnipjienoaaDoor
open Go Go.RowKit Go.Sort

def nameOf (z : Int) : List UInt8 := if z = 1 then [91, 100, 105, 114, 93] else if z = 2 then [91, 110, 97, 109, 101, 93] else if z = 3 then [91, 104, 97, 115, 104, 93] else if z = 4 then [91, 101, 120, 116, 93] else []
theorem nameOf_len (z : Int) : (nameOf z).length ≤ 6 := by
  unfold nameOf
  split
  · decide
  · split
    · decide
    · split
      · decide
      · split <;> decide
/-- A template as it is written. -/
def writtenT (ps : List (ByteArray × Int)) : List UInt8 := ps.flatMap fun p => p.1.data.toList ++ nameOf p.2
theorem writtenT_snoc (ps : List (ByteArray × Int)) (p : ByteArray × Int) : writtenT (ps ++ [p]) = writtenT ps ++ (p.1.data.toList ++ nameOf p.2) := by simp [writtenT]

set_option maxHeartbeats 1000000 in
set_option maxRecDepth 100000 in
theorem specName (z : Int) (h0 : 0 ≤ z) (h4 : z ≤ 4) (w : World) :
    Calls Tryd.prog 37 #[.int .i64 z] w fun e w' => e = .returned (.string ⟨(nameOf z).toArray⟩) ∧ Below w.heap.size w w' := by
  rcases (show z = 0 ∨ z = 1 ∨ z = 2 ∨ z = 3 ∨ z = 4 by omega) with rfl | rfl | rfl | rfl | rfl
  all_goals
    clear h0 h4
    go_enter Tryd.func37, Tryd.ntmps37
    go_wp2_with fail
    go_ret
    exact ⟨rfl, (Below.refl _ _).alloc (Nat.le_refl _) _⟩

set_option maxHeartbeats 1000000 in
set_option maxRecDepth 100000 in
theorem spec_Written (A : Option Addr) (n c : Nat) (ps : List (ByteArray × Int)) (w : World) (hr : Parts .i64 w w.heap.size A n ps) (ho : okTpl ps = true) :
    Calls Tryd.prog 21 #[.slice A n c] w fun e w' => e = .returned (.string ⟨(writtenT ps).toArray⟩) ∧ Below w.heap.size w w' := by
  have HO := Lib.hid ((okTpl_iff ps).1 ho)
  clear ho
  have HL := Lib.hid hr.1
  have hn : n ≤ 1000 := by have := HL.out; have := HO.out.2; omega
  go_enter Tryd.func21, Tryd.ntmps21
  go_wp2_with fail
  go_loopw [3, 8] (fun v i wr => ∃ (k : Nat) (x : ByteArray), k ≤ n ∧ i = .int .i64 k ∧ v = .string x ∧ x.data.toList = writtenT (ps.take k) ∧ x.size ≤ 1006 * k ∧ Below w.heap.size w wr) (fun _ i _ => n - (intOf i).toNat)
  case atStart => exact ⟨0, ⟨#[]⟩, Nat.zero_le _, rfl, rfl, rfl, Nat.le_refl _, Below.refl _ _⟩
  case round =>
    obtain ⟨k, x, hk, rfl, rfl, hx, hxs, hbel⟩ := hrel
    have HX := Lib.hid hx
    clear hx
    by_cases hlt : k < n
    · obtain ⟨b, o, s, z, rfl, hab, hp, h1, h2⟩ := hr.at_ hlt
      have hm : (s, z) ∈ ps := List.mem_of_getElem? hp
      obtain ⟨hz0, hz4, hs⟩ := HO.out.1 _ hm
      simp only at hz0 hz4 hs
      have h1' : wr.cell? ⟨b, o + k * 2, none⟩ = some (.string s) := by rw [hbel.cell (by exact hab)]; exact h1
      have h2' : wr.cell? ⟨b, o + k * 2 + 1, none⟩ = some (.int .i64 z) := by rw [hbel.cell (by exact hab)]; exact h2
      have HS : Hid (ps.take (k + 1) = ps.take k ++ [(s, z)]) := by
        show _ = _
        rw [List.take_add_one, hp]; rfl
      clear h1 h2 hp hm
      have hbs := hbel.size
      have hnl := nameOf_len z
      obtain ⟨nm, hnm⟩ : ∃ nm : ByteArray, nm = ⟨(nameOf z).toArray⟩ := ⟨_, rfl⟩
      have hns : nm.size ≤ 6 := by rw [hnm]; simpa [ByteArray.size] using hnl
      have HNM := Lib.hid hnm
      clear hnm
      go_wp2_with fail
      have g0 : (wr.alloc (.cells #[.string s, .int .i64 z] 71)).cell? ⟨wr.heap.size, 0, none⟩ = some (.string s) := Lib.cell_of_heap (heap_alloc_new wr _) 0
      have g1 : (wr.alloc (.cells #[.string s, .int .i64 z] 71)).cell? ⟨wr.heap.size, 1, none⟩ = some (.int .i64 z) := Lib.cell_of_heap (heap_alloc_new wr _) 1
      have hb1 := below_alloc hbel (Nat.le_refl _) (.cells #[.string s, .int .i64 z] 71)
      generalize (wr.alloc (.cells #[.string s, .int .i64 z] 71)) = wa at g0 g1 hb1 ⊢
      have k0 := fun d os => cell_regrown g0 d os
      have k1 := fun d os => cell_regrown g1 d os
      have cN : ∀ d os, Calls Tryd.prog 37 #[.int .i64 z] (grow (redrawn wa d) os) fun e w'' => e = .returned (.string nm) ∧ ∃ p : Regrown, w'' = grow (redrawn wa p.d) p.os := fun d os => Calls.regrown_of (by rw [HNM.out]; exact specName z hz0 hz4 _)
      have a1 : ¬ 9223372036854775807 < s.size + nm.size := by omega
      have a2 : ¬ 9223372036854775807 < x.size + (s.size + nm.size) := by omega
      clear g0 g1 h1' h2'
      refine wp_region_quiet_below (by kernel_rfl) (by kernel_rfl) ?_
      repeat (quiet_step (first | exact cN _ _))
      refine wpQuiet_nil ?_
      intro _ hw'
      obtain ⟨⟨dq, osq⟩, hw''⟩ := hw'
      subst hw''
      have hb2 := below_call hb1 (below_regrown wa dq osq) (Nat.le_refl _)
      generalize (grow (redrawn wa dq) osq) = wb at hb2 ⊢
      go_wp2
      go_roundw
      case rel =>
        refine ⟨k + 1, x ++ (s ++ nm), by omega, by go_num, rfl, ?_, ?_, hb2⟩
        · rw [HS.out, writtenT_snoc, list_append, list_append, HX.out, HNM.out]
        · rw [ByteArray.size_append, ByteArray.size_append]; omega
      case measure => simp [intOf]; omega
    · obtain rfl : k = n := by omega
      go_wp2
      go_ret
      have hx := HX.out
      rw [List.take_of_length_le (by have := HL.out; omega)] at hx
      exact ⟨by rw [← string_of hx]; rfl, hbel⟩

theorem info75 : (Tryd.prog.info? 75).map (fun i => (i.zero, i.size, i.bytes)) = some (some (.agg #[.string ⟨#[]⟩, .int .u8 0]), 2, 24) := by kernel_rfl

theorem builderWriteK (B b : Nat) (acc new : List UInt8) (w : World) (h : Lib.IsBuilderF 95 5 B b (Lib.byteCells acc) w) (hlen : acc.length + new.length ≤ 140737488355328) (hBw : B ≤ w.heap.size) :
    Calls Tryd.prog 47 #[.pointer (some ⟨b, 0, none⟩), .string ⟨new.toArray⟩] w fun e w' => e = .returned (.tuple #[.int .i64 new.length, .nilIface]) ∧ (Lib.IsBuilderF 95 5 B b (Lib.byteCells (acc ++ new)) w' ∧ Below B w w' ∧ Lib.OthersKept 5 (some b) w w') := by
  refine (writeString_k B b _ ⟨new.toArray⟩ w h (by rw [Lib.byteCells_length]; exact hlen) hBw).mono ?_
  rintro e w' ⟨he, hw, hb, hk⟩
  refine ⟨he, .inr ?_, hb, hk⟩
  rw [Lib.byteCells_append]
  exact hw
theorem writtenT_at (ps : List (ByteArray × Int)) (k : Nat) (p : ByteArray × Int) (h : ps[k]? = some p) : (writtenT (ps.take k)).length + p.1.size + (nameOf p.2).length ≤ (writtenT ps).length := by
  have hk : k < ps.length := (List.getElem?_eq_some_iff.1 h).1
  have e : ps = ps.take k ++ (p :: ps.drop (k + 1)) := by
    have := List.drop_eq_getElem_cons hk
    rw [← (List.getElem?_eq_some_iff.1 h).2, ← this, List.take_append_drop]
  have e2 : writtenT ps = writtenT (ps.take k) ++ ((p.1.data.toList ++ nameOf p.2) ++ writtenT (ps.drop (k + 1))) := by
    conv => lhs; rw [e]
    simp [writtenT]
  rw [e2, ← size_list]
  simp only [List.length_append]
  omega
theorem writtenT_take_le (ps : List (ByteArray × Int)) (k : Nat) : (writtenT (ps.take k)).length ≤ (writtenT ps).length := by
  have e2 : writtenT ps = writtenT (ps.take k) ++ writtenT (ps.drop k) := by
    conv => lhs; rw [← List.take_append_drop k ps]
    simp only [writtenT, List.flatMap_append]
  rw [e2, List.length_append]
  omega

set_option maxHeartbeats 4000000 in
set_option maxRecDepth 100000 in
theorem template_String (A : Option Addr) (n c : Nat) (ps : List (ByteArray × Int)) (w : World) (hr : Parts .u8 w w.heap.size A n ps) (hn : n ≤ 2147483647) (hz : ∀ p ∈ ps, 0 ≤ p.2 ∧ p.2 ≤ 4) (hT : (writtenT ps).length ≤ 70368744177664) :
    Calls Tryd.prog 36 #[.slice A n c] w fun e w' => e = .returned (.string ⟨(writtenT ps).toArray⟩) ∧ Below w.heap.size w w' := by
  have HL := Lib.hid hr.1
  by_cases hdirect : n = 1 ∧ ∃ s, ps = [(s, 0)]
  · obtain ⟨rfl, s, rfl⟩ := hdirect
    obtain ⟨b, o, s', z, rfl, hab, hp, h1, h2⟩ := hr.at_ (show 0 < 1 by omega)
    simp at hp
    obtain ⟨rfl, rfl⟩ := hp
    simp only [Nat.zero_mul, Nat.add_zero] at h1 h2
    go_enter Tryd.func36, Tryd.ntmps36
    go_wp2_with fail
    go_ret
    refine ⟨?_, Below.refl _ _⟩
    rw [← string_of (s := s) (l := writtenT [(s, 0)]) (by simp [writtenT, nameOf])]
    rfl
  · have hgo : (((n : Int) == 1) = true ∧ 0 < n ∧ ∃ b o z, A = some ⟨b, o, none⟩ ∧ w.cell? ⟨b, o + 1, none⟩ = some (.int .u8 z) ∧ ((z == 0) = false)) ∨ ((n : Int) == 1) = false := by
      by_cases h1 : n = 1
      · left
        obtain ⟨b, o, s', z, hA, hab, hp, h1', h2'⟩ := hr.at_ (show 0 < n by omega)
        refine ⟨by rw [beq_iff_eq]; omega, by omega, b, o, z, hA, by simpa using h2', ?_⟩
        rw [beq_eq_false_iff_ne]
        rintro rfl
        refine hdirect ⟨h1, s', ?_⟩
        have := HL.out
        match ps, hp with
        | [x], hp => simp at hp; rw [hp]
        | x :: y :: r, _ => simp at this; omega
      · right
        rw [beq_eq_false_iff_ne]
        omega
    have HZ := Lib.hid hz
    have HTT := Lib.hid hT
    clear hdirect hz hT
    rcases hgo with ⟨hn1, hn0, b, o, z, rfl, hcz, hzz⟩ | hgo
    all_goals
      go_enter Tryd.func36, Tryd.ntmps36
      go_wp2_with fail
      have HI0 := Lib.hid (Lib.IsBuilderF.of (Lib.fresh_isBuilder 95 5 w))
      have hb0 : Below w.heap.size w (w.alloc (.cells #[.pointer none, .slice none 0 0] 95)) := (Below.refl _ _).alloc (Nat.le_refl _) _
      have hs0 : w.heap.size < (w.alloc (.cells #[.pointer none, .slice none 0 0] 95)).heap.size := by simp
      generalize (w.alloc (.cells #[.pointer none, .slice none 0 0] 95)) = w0 at HI0 hb0 hs0 ⊢
      go_loopw [23] (fun i wr => ∃ k : Nat, k ≤ n ∧ i = .int .i64 k ∧ Lib.IsBuilderF 95 5 w.heap.size w.heap.size (Lib.byteCells (writtenT (ps.take k))) wr ∧ Below w.heap.size w wr ∧ w.heap.size < wr.heap.size) (fun i _ => n - (intOf i).toNat)
      case atStart => exact ⟨0, Nat.zero_le _, rfl, HI0.out, hb0, hs0⟩
      case round =>
        clear hb0 HI0 hs0
        obtain ⟨k, hk, rfl, hI, hbel, hws⟩ := hrel
        have htl := writtenT_take_le ps k
        by_cases hlt : k < n
        · obtain ⟨b1, o1, s, z1, hA, hab, hp, h1, h2⟩ := hr.at_ hlt
          obtain ⟨hz0, hz4⟩ := HZ.out _ (List.mem_of_getElem? hp)
          have hlen := writtenT_at ps k _ hp
          have hTT := HTT.out
          simp only at hz0 hz4 hlen
          have h1' : wr.cell? ⟨b1, o1 + k * 2, none⟩ = some (.string s) := by rw [hbel.cell (by exact hab)]; exact h1
          have h2' : wr.cell? ⟨b1, o1 + k * 2 + 1, none⟩ = some (.int .u8 z1) := by rw [hbel.cell (by exact hab)]; exact h2
          have HS : Hid (writtenT (ps.take (k + 1)) = writtenT (ps.take k) ++ (s.data.toList ++ nameOf z1)) := by
            show _ = _
            rw [List.take_add_one, hp]
            exact writtenT_snoc _ _
          clear h1 h2 hp
          first
            | subst hA
            | (simp only [Option.some.injEq, Addr.mk.injEq, and_true] at hA; obtain ⟨rfl, rfl⟩ := hA)
          obtain ⟨t, rfl⟩ : ∃ t : List UInt8, s = ⟨t.toArray⟩ := ⟨s.data.toList, string_of rfl⟩
          have hts : t.length = (⟨t.toArray⟩ : ByteArray).size := size_list ⟨t.toArray⟩
          rw [← hts] at hlen
          clear hts
          obtain ⟨acc, hacc⟩ : ∃ acc, acc = writtenT (ps.take k) := ⟨_, rfl⟩
          rw [← hacc] at hI HS hlen htl
          clear hacc
          go_wp2_with fail
          have hblk : Blk (wr.alloc (.cells #[.string ⟨t.toArray⟩, .int .u8 z1] 75)) wr.heap.size 75 #[.string ⟨t.toArray⟩, .int .u8 z1] := Blk.new _ _ _
          have hI1 := Lib.IsBuilderF.alloc hI (.cells #[.string ⟨t.toArray⟩, .int .u8 z1] 75)
          have hb1 := below_alloc hbel (Nat.le_refl _) (.cells #[.string ⟨t.toArray⟩, .int .u8 z1] 75)
          have hs1 : wr.heap.size < (wr.alloc (.cells #[.string ⟨t.toArray⟩, .int .u8 z1] 75)).heap.size := by simp
          refine (builderWriteK _ _ acc t _ hI1 (by omega) (by simp; omega)).mono ?_
          rintro e w2 ⟨rfl, hI2, hb2, hk2⟩
          have hblk2 : Blk w2 wr.heap.size 75 #[.string ⟨t.toArray⟩, .int .u8 z1] := hk2 _ _ hblk (by simp; omega) (by intro c fz h; cases h)
          have hbw2 := hb1.trans hb2
          have hs2 := hb2.size
          have c21 := hblk2.cell 1
          simp at c21
          have al : (acc ++ t).length = acc.length + t.length := List.length_append
          clear hblk hI1 hb1 hb2 hk2 hblk2
          rcases (show z1 = 0 ∨ z1 = 1 ∨ z1 = 2 ∨ z1 = 3 ∨ z1 = 4 by omega) with rfl | rfl | rfl | rfl | rfl
          · go_wp2_with fail
            go_roundw
            case rel => exact ⟨k + 1, by omega, by go_num, by rw [HS.out]; simpa [nameOf] using hI2, hbw2, by omega⟩
            case measure => simp [intOf]; omega
          · have hln : (nameOf 1).length = 5 := rfl
            go_wp2_with fail
            refine (builderWriteK _ _ (acc ++ t) [91, 100, 105, 114, 93] _ hI2 (by simp only [List.length_cons, List.length_nil]; omega) (by omega)).mono ?_
            rintro e w3 ⟨rfl, hI3, hb3, _⟩
            have hs3 := hb3.size
            go_wp2_with fail
            go_roundw
            case rel => exact ⟨k + 1, by omega, by go_num, by rw [HS.out]; simpa [nameOf] using hI3, hbw2.trans hb3, by omega⟩
            case measure => simp [intOf]; omega
          · have hln : (nameOf 2).length = 6 := rfl
            go_wp2_with fail
            refine (builderWriteK _ _ (acc ++ t) [91, 110, 97, 109, 101, 93] _ hI2 (by simp only [List.length_cons, List.length_nil]; omega) (by omega)).mono ?_
            rintro e w3 ⟨rfl, hI3, hb3, _⟩
            have hs3 := hb3.size
            go_wp2_with fail
            go_roundw
            case rel => exact ⟨k + 1, by omega, by go_num, by rw [HS.out]; simpa [nameOf] using hI3, hbw2.trans hb3, by omega⟩
            case measure => simp [intOf]; omega
          · have hln : (nameOf 3).length = 6 := rfl
            go_wp2_with fail
            refine (builderWriteK _ _ (acc ++ t) [91, 104, 97, 115, 104, 93] _ hI2 (by simp only [List.length_cons, List.length_nil]; omega) (by omega)).mono ?_
            rintro e w3 ⟨rfl, hI3, hb3, _⟩
            have hs3 := hb3.size
            go_wp2_with fail
            go_roundw
            case rel => exact ⟨k + 1, by omega, by go_num, by rw [HS.out]; simpa [nameOf] using hI3, hbw2.trans hb3, by omega⟩
            case measure => simp [intOf]; omega
          · have hln : (nameOf 4).length = 5 := rfl
            go_wp2_with fail
            refine (builderWriteK _ _ (acc ++ t) [91, 101, 120, 116, 93] _ hI2 (by simp only [List.length_cons, List.length_nil]; omega) (by omega)).mono ?_
            rintro e w3 ⟨rfl, hI3, hb3, _⟩
            have hs3 := hb3.size
            go_wp2_with fail
            go_roundw
            case rel => exact ⟨k + 1, by omega, by go_num, by rw [HS.out]; simpa [nameOf] using hI3, hbw2.trans hb3, by omega⟩
            case measure => simp [intOf]; omega
        · obtain rfl : k = n := by omega
          go_wp2_with fail
          refine (Tryd.Builder_String_any_k _ _ _ _ hI (by omega)).mono ?_
          rintro e w4 ⟨rfl, _, hb4, _⟩
          go_wp2_with fail
          go_ret
          refine ⟨?_, hbel.trans hb4⟩
          rw [List.take_of_length_le (by have := HL.out; omega)]
          rfl
end Go.Proofs.YtnpghnipjienoaaDoor
