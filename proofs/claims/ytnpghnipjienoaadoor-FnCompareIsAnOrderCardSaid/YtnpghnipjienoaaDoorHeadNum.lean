/-
  The contracts of compat.splitOffNextPreReleasePart and compat.preReleasePartToNumber.
-/
import Derived.Test.YtnpghnipjienoaaDoorOrder
import Derived.Test.YtnpghnipjienoaaDoorShelf2
import Derived.Test.YtnpghnipjienoaaDoorShelf3
import Derived.Test.YtnpghnipjienoaaDoorSpec
import Derived.Test.YtnpghnipjienoaaDoorPairs
import Derived.Lib.SmallJoins
import Derived.Laws.RangeAny
import Derived.Laws.RangeString
import Derived.RegionTactic
import Derived.LoopTactic
import Derived.BigQuiet
namespace Go.Proofs.YtnpghnipjienoaaDoor
open Go Go.RowKit

theorem below_iter (w : World) (s : ByteArray) (pos : Nat) : Below w.heap.size w (w.iter s pos) := (Below.refl _ _).alloc (Nat.le_refl _) _

theorem numOf_not {l : List UInt8} (h : l.all isDigit = false) : numOf l = none := by
  unfold numOf
  rw [if_neg (by rw [h]; decide)]
theorem numOf_ok {l : List UInt8} {v : Int} (h : l.all isDigit = true) (ha : Lib.atoiAll l = .ok v) : numOf l = some v := by
  unfold numOf
  rw [if_pos h, ha]
theorem numOf_bad {l : List UInt8} (ha : ∀ v, Lib.atoiAll l ≠ .ok v) : numOf l = none := by
  unfold numOf
  split
  · split
    · next v h => exact absurd h (ha v)
    · rfl
  · rfl
theorem not_all {s : ByteArray} {pos : Nat} (hp : pos < s.size) (h : isDigit (s[pos]'hp) = false) : s.data.toList.all isDigit = false := by
  have hm : s[pos]'hp ∈ s.data.toList := by
    rw [Array.mem_toList_iff]
    exact Array.getElem_mem hp
  rw [Bool.eq_false_iff]
  intro x
  have := List.all_eq_true.1 x _ hm
  rw [h] at this
  cases this
theorem take_digit {s : ByteArray} {pos : Nat} (hp : pos < s.size) (h : isDigit (s[pos]'hp) = true) (hall : (s.data.toList.take pos).all isDigit = true) : (s.data.toList.take (pos + 1)).all isDigit = true := by
  have hl : pos < s.data.toList.length := by rw [size_list]; exact hp
  have e : s.data.toList.take (pos + 1) = s.data.toList.take pos ++ [s[pos]'hp] := by
    rw [List.take_add_one, List.getElem?_eq_getElem hl]
    rfl
  rw [e, List.all_append, hall]
  simp [h]

/-- What a head is told to be. -/
def NumPost (s : ByteArray) (w : World) (e : Ending) (w' : World) : Prop := ∃ (v : Int) (b : Bool), e = .returned (.tuple #[.int .i64 v, .bool b]) ∧ ((b = true ∧ numOf s.data.toList = some v) ∨ (b = false ∧ numOf s.data.toList = none)) ∧ Below w.heap.size w w'

set_option maxHeartbeats 2000000 in
set_option maxRecDepth 100000 in
theorem toNumber_any (s : ByteArray) (w : World) (hs : s.size ≤ 2147483647) (ev2 ev3 : Value) (h2 : w.cell? ⟨2, 0, none⟩ = some ev2) (hev2 : ev2 = .nilIface ∨ ∃ te pe, ev2 = .iface te pe) (h3 : w.cell? ⟨3, 0, none⟩ = some ev3) (hev3 : ev3 = .nilIface ∨ ∃ te pe, ev3 = .iface te pe) :
    Calls Tryd.prog 54 #[.string s] w (NumPost s w) := by
  have H2 := Lib.hid h2
  have H3 := Lib.hid h3
  have E2 := Lib.hid hev2
  have E3 := Lib.hid hev3
  clear h2 h3 hev2 hev3
  go_enter Tryd.func54, Tryd.ntmps54
  go_wp2
  go_loopw [5] (fun _ wr => ∃ pos, wr = w.iter s pos ∧ pos ≤ s.size ∧ (s.data.toList.take pos).all isDigit = true) (fun _ wr => s.size - wr.iterPos w.heap.size)
  case atStart => exact ⟨0, rfl, Nat.zero_le _, by simp⟩
  case round =>
    obtain ⟨pos, rfl, hle, hall⟩ := hrel
    have HA := Lib.hid hall
    clear hall
    by_cases hp : pos < s.size
    · by_cases hd : isDigit (s[pos]'hp) = true
      · have HD := Lib.hid hd
        have hd2 := hd
        unfold isDigit at hd2
        simp at hd2
        have hdec := decode_ascii s pos hp (by omega)
        have hnx : ∀ ty, (Instr.next (.pointer (some ⟨w.heap.size, 0, none⟩)) true ty).run Tryd.prog (w.iter s pos) = .ok (.tuple #[.bool true, .int .i64 pos, .int .i32 (s[pos]'hp).toNat]) (w.iter s (pos + 1)) := fun ty => by rw [run_next_any w s pos ty hp, hdec]
        clear hdec hd
        obtain ⟨r, hr⟩ : ∃ r : Nat, r = (s[pos]'hp).toNat := ⟨_, rfl⟩
        rw [← hr] at hnx hd2
        clear hr
        go_wp2
        go_roundw
        case rel => exact ⟨pos + 1, rfl, by omega, take_digit hp HD.out HA.out⟩
        case measure => simp; omega
      · have hN : Hid (numOf s.data.toList = none) := numOf_not (not_all hp (by simpa using hd))
        obtain ⟨r, d, hdec, hr⟩ : ∃ (r d : Nat), Utf8.decode s pos = (r, d) ∧ ¬ (48 ≤ r ∧ r ≤ 57) := by
          by_cases ha : (s[pos]'hp).toNat < 128
          · refine ⟨_, _, decode_ascii s pos hp ha, ?_⟩
            unfold isDigit at hd
            simpa using hd
          · have h := (decode_high s pos hp (by omega)).1
            rcases hdd : Utf8.decode s pos with ⟨r, d⟩
            rw [hdd] at h
            exact ⟨r, d, rfl, by simp only at h; omega⟩
        have hnx : ∀ ty, (Instr.next (.pointer (some ⟨w.heap.size, 0, none⟩)) true ty).run Tryd.prog (w.iter s pos) = .ok (.tuple #[.bool true, .int .i64 pos, .int .i32 r]) (w.iter s (pos + d)) := fun ty => by rw [run_next_any w s pos ty hp, hdec]
        clear hdec hd
        by_cases hr1 : r < 48
        · go_wp2
          go_ret2
          exact ⟨_, _, rfl, .inr ⟨rfl, hN.out⟩, below_iter w s _⟩
        · have hr2 : 57 < r := by omega
          go_wp2
          go_ret2
          exact ⟨_, _, rfl, .inr ⟨rfl, hN.out⟩, below_iter w s _⟩
    · have hnx : ∀ ty, (Instr.next (.pointer (some ⟨w.heap.size, 0, none⟩)) true ty).run Tryd.prog (w.iter s pos) = .ok (.tuple #[.bool false]) (w.iter s pos) := fun ty => run_next_end w s pos ty hp
      have HALL : Hid (s.data.toList.all isDigit = true) := by
        have h := HA.out
        rw [List.take_of_length_le (by rw [size_list]; omega)] at h
        exact h
      go_wp2_with fail
      clear hnx
      have hb1 := below_iter w s pos
      have k2 : (w.iter s pos).cell? ⟨2, 0, none⟩ = some ev2 := (hb1.cell (block_lt_of_cell H2.out)).trans H2.out
      have k3 : (w.iter s pos).cell? ⟨3, 0, none⟩ = some ev3 := (hb1.cell (block_lt_of_cell H3.out)).trans H3.out
      have hle1 : w.heap.size ≤ (w.iter s pos).heap.size := hb1.size
      generalize (w.iter s pos) = wi at hb1 k2 k3 hle1 ⊢
      cases hA : Lib.atoiAll s.data.toList with
      | ok v =>
        have HN := Lib.hid (numOf_ok HALL.out hA)
        refine (Tryd.strconv_Atoi_ok s (by omega) v hA wi).mono ?_
        clear hA
        rintro e w2 ⟨rfl, hw⟩
        have hb2 : Below w.heap.size w w2 := by
          rcases hw with rfl | ⟨t, rfl⟩
          · exact hb1
          · exact below_call hb1 (Joins.below_bytesWorld _ _ _ _ (Nat.le_refl _)) (Nat.le_refl _)
        clear hw hb1 k2 k3
        go_wp2_with fail
        go_quiet (fail)
        go_wp2
        go_ret2
        exact ⟨v, true, rfl, .inl ⟨rfl, HN.out⟩, below_drewN hb2 _⟩
      | range =>
        have HN := Lib.hid (numOf_bad (l := s.data.toList) (fun v h => by rw [hA] at h; cases h))
        refine (Tryd.strconv_Atoi_range s (by omega) hA ev3 wi k3 E3.out).mono ?_
        clear hA
        rintro e w2 ⟨N, rfl, _, _, hbl⟩
        have hb2 := below_call hb1 hbl (Nat.le_refl _)
        clear hbl hb1 k2 k3
        go_wp2_with fail
        go_quiet (fail)
        go_wp2
        go_ret2
        exact ⟨_, false, rfl, .inr ⟨rfl, HN.out⟩, below_drewN hb2 _⟩
      | _ =>
        have HN := Lib.hid (numOf_bad (l := s.data.toList) (fun v h => by rw [hA] at h; cases h))
        refine (Any.strconv_Atoi_syntax Tryd.laysC172 s (by omega) hA ev2 wi k2 E2.out).mono ?_
        clear hA
        rintro e w2 ⟨N, rfl, _, _, hbl⟩
        have hb2 := below_call hb1 hbl (Nat.le_refl _)
        clear hbl hb1 k2 k3
        go_wp2_with fail
        go_quiet (fail)
        go_wp2
        go_ret2
        exact ⟨_, false, rfl, .inr ⟨rfl, HN.out⟩, below_drewN hb2 _⟩

theorem cut_list (s : ByteArray) (a b : Nat) : (s.extract a b).data.toList = (s.data.toList.drop a).take (b - a) := by
  obtain ⟨⟨l⟩⟩ := s
  rw [ByteArray.extract_mk]
theorem cut_size (s : ByteArray) (a b : Nat) : (s.extract a b).size ≤ s.size := by
  have h := congrArg List.length (cut_list s a b)
  rw [size_list, List.length_take, List.length_drop, size_list] at h
  omega
set_option maxHeartbeats 1000000 in
set_option maxRecDepth 100000 in
theorem split_any (s : ByteArray) (w : World) (hs : s.size ≤ 2147483647) :
    Calls Tryd.prog 53 #[.string s] w fun e w' => ∃ h r : ByteArray, e = .returned (.tuple #[.string h, .string r]) ∧ (h.data.toList = headOf s.data.toList ∧ r.data.toList = restOf s.data.toList ∧ h.size ≤ s.size ∧ r.size ≤ s.size) ∧ Below w.heap.size w w' := by
  go_enter Tryd.func53, Tryd.ntmps53
  go_wp2_with fail
  refine (Tryd.strings_IndexByte s 46 w).mono ?_
  rw [show (46 : Int).toNat.toUInt8 = 46 from rfl]
  by_cases hx : Lib.indexByte s.data.toList 46 = -1
  · have HX := Lib.hid (index_no hx)
    rw [hx]
    clear hx
    rintro e w1 ⟨rfl, rfl⟩
    go_wp2_with fail
    go_ret2
    exact ⟨s, ⟨#[]⟩, rfl, ⟨HX.out.1.symm, HX.out.2.symm, Nat.le_refl _, Nat.zero_le _⟩, Below.refl _ _⟩
  · have hge := Lib.indexByte_ge s.data.toList 46
    obtain ⟨i, hi⟩ : ∃ i : Nat, Lib.indexByte s.data.toList 46 = i := ⟨(Lib.indexByte s.data.toList 46).toNat, by omega⟩
    have HX := Lib.hid (index_at hi)
    have hlt : i < s.size := by have := HX.out.1; rw [size_list] at this; exact this
    rw [hi]
    clear hx hge hi
    rintro e w1 ⟨rfl, rfl⟩
    have hne : ((i : Int) == -1) = false := by rw [beq_eq_false_iff_ne]; omega
    go_wp2_with fail
    go_quiet (fail)
    go_wp2
    go_ret2
    refine ⟨_, _, rfl, ⟨?_, ?_, cut_size _ _ _, cut_size _ _ _⟩, below_drewN (Below.refl _ _) _⟩
    · rw [cut_list, HX.out.2.1, List.drop_zero, Nat.sub_zero]
    · rw [cut_list, HX.out.2.2, List.take_of_length_le (by rw [List.length_drop, size_list]; omega)]
end Go.Proofs.YtnpghnipjienoaaDoor
