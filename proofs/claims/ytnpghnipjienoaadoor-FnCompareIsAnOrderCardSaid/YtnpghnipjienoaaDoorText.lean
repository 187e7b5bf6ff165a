/-
  The contracts of Semver.String and impl.Text: a version is written by its numbers, points between, and its tail.
-/
import Derived.Test.YtnpghnipjienoaaDoorBuilder
import Derived.Test.YtnpghnipjienoaaDoorNum
import Derived.Lib.Hide
import Derived.Lib.SmallJoins
import Derived.Lib.AppendIntMem
namespace Go.Proofs.YtnpghnipjienoaaDoor
open Go Go.RowKit

theorem bcell {B : Nat} {W w1 : World} (hb : Below B W w1) : (∀ b o, b < B → w1.cell? ⟨b, o, none⟩ = W.cell? ⟨b, o, none⟩) ∧ (∀ b o, b < B → w1.frozen? ⟨b, o, none⟩ = W.frozen? ⟨b, o, none⟩) :=
  ⟨fun b o h => hb.cell (p := ⟨b, o, none⟩) h, fun b o h => hb.frozen (p := ⟨b, o, none⟩) h⟩

/-- A list of ints as cells. -/
abbrev ints (zs : List Int) : List Value := zs.map (Value.int .i64)

theorem isBuilder_old {T e : TypeId} {B b : Nat} {bs : List Value} {w w' : World} (h : Lib.IsBuilderF T e B b bs w) (hb : Below w.heap.size w w') : Lib.IsBuilderF T e B b bs w' := by
  have at_ : ∀ p, Lib.BuilderAtF T e B b p bs w → Lib.BuilderAtF T e B b p bs w' := by
    intro p hp
    have hlt := hp.lt
    obtain ⟨hB, v, hk, hown, hne⟩ := hp
    exact ⟨hB, v, (hb.block b hlt).trans hk, hown.kept (only_of_below hb none) (Classical.em _), hne⟩
  rcases h with h | h
  · exact .inl (at_ _ h)
  · exact .inr (at_ _ h)
theorem builderLen (B b : Nat) (acc : List UInt8) (w : World) (h : Lib.IsBuilderF 95 5 B b (Lib.byteCells acc) w) :
    Calls Tryd.prog 45 #[.pointer (some ⟨b, 0, none⟩)] w fun e w' => e = .returned (.int .i64 acc.length) ∧ w = w' := by
  refine (Tryd.Builder_Len_f B b _ w h).mono ?_
  rintro e w' ⟨he, hw⟩
  exact ⟨by rw [he, Lib.byteCells_length], hw.symm⟩
theorem builderWrite (B b : Nat) (acc new : List UInt8) (w : World) (h : Lib.IsBuilderF 95 5 B b (Lib.byteCells acc) w) (hlen : acc.length + new.length ≤ 140737488355328) (hBw : B ≤ w.heap.size) :
    Calls Tryd.prog 47 #[.pointer (some ⟨b, 0, none⟩), .string ⟨new.toArray⟩] w fun e w' => e = .returned (.tuple #[.int .i64 new.length, .nilIface]) ∧ (Lib.IsBuilderF 95 5 B b (Lib.byteCells (acc ++ new)) w' ∧ Below B w w') := by
  refine (writeString_k B b _ ⟨new.toArray⟩ w h (by rw [Lib.byteCells_length]; exact hlen) hBw).mono ?_
  rintro e w' ⟨he, hw, hb, _⟩
  refine ⟨he, .inr ?_, hb⟩
  rw [Lib.byteCells_append]
  exact hw
theorem builderDot (B b : Nat) (acc : List UInt8) (w : World) (h : Lib.IsBuilderF 95 5 B b (Lib.byteCells acc) w) (hlen : acc.length + 4 ≤ 140737488355328) (hBw : B ≤ w.heap.size) :
    Calls Tryd.prog 46 #[.pointer (some ⟨b, 0, none⟩), .int .i32 46] w fun e w' => e = .returned (.tuple #[.int .i64 1, .nilIface]) ∧ (Lib.IsBuilderF 95 5 B b (Lib.byteCells (acc ++ [46])) w' ∧ Below B w w') := by
  refine (writeRune_k B b _ 46 (by omega) (by omega) w h (by rw [Lib.byteCells_length]; exact hlen) hBw).mono ?_
  rintro e w' ⟨he, hw, hb, _⟩
  refine ⟨he, .inr ?_, hb⟩
  rw [Lib.byteCells_append]
  exact hw
theorem itoa_any (z : Int) (h0 : 0 ≤ z) (h1 : z ≤ 1000000000) (w : World) (hT : Lib.TabIs Tryd.prog w "internal/strconv.uint64pow10" .u64 Lib.pow10Tab) :
    Calls Tryd.prog 48 #[.int .i64 z] w fun e w' => e = .returned (.string ⟨(Lib.itoa z).toArray⟩) ∧ Below w.heap.size w w' := by
  refine (Tryd.strconv_Itoa z (by omega) (by omega) w hT).mono ?_
  rintro e w' ⟨he, k, os, hw⟩
  exact ⟨he, by rw [hw]; exact Lib.below_grow _ _ (Nat.le_refl _) k os⟩
theorem gPow : Tryd.prog.globalNamed "internal/strconv.uint64pow10" = some 1 := by kernel_rfl
theorem tabOn {B : Nat} {w w' : World} (hT : Lib.TabIs Tryd.prog w "internal/strconv.uint64pow10" .u64 Lib.pow10Tab) (hb : Below B w w') (hB : w.heap.size ≤ B) : Lib.TabIs Tryd.prog w' "internal/strconv.uint64pow10" .u64 Lib.pow10Tab :=
  Joins.tab_stays gPow hT hb hB

set_option maxHeartbeats 1000000 in
set_option maxRecDepth 100000 in
theorem semver_String (A : Option Addr) (n c : Nat) (zs : List Int) (tail : ByteArray) (w : World) (hr : Reads w w.heap.size 1 A n (ints zs)) (hz : ∀ z ∈ zs, 0 ≤ z ∧ z ≤ 1000000000)
    (hn : n ≤ 100) (ht : tail.size ≤ 2147483647) (hT : Lib.TabIs Tryd.prog w "internal/strconv.uint64pow10" .u64 Lib.pow10Tab) :
    Calls Tryd.prog 33 #[.agg #[.slice A n c, .string tail]] w fun e w' => e = .returned (.string ⟨(written zs tail.data.toList).toArray⟩) ∧ Below w.heap.size w w' := by
  have hl : zs.length = n := by have := hr.1; simpa using this
  go_enter Tryd.func33, Tryd.ntmps33
  go_wp2_with fail
  have hs0 : (w.alloc (.cells #[.slice A n c, .string tail] 66)).heap.size = w.heap.size + 1 := by simp
  have hI0 : Lib.IsBuilderF 95 5 (w.heap.size + 1) (w.heap.size + 1) (Lib.byteCells (dotted (zs.take 0))) ((w.alloc (.cells #[.slice A n c, .string tail] 66)).alloc (.cells #[.pointer none, .slice none 0 0] 95)) := by
    have := Lib.IsBuilderF.of (Lib.fresh_isBuilder 95 5 (w.alloc (.cells #[.slice A n c, .string tail] 66)))
    rw [hs0] at this
    exact this
  have hc1 : ((w.alloc (.cells #[.slice A n c, .string tail] 66)).alloc (.cells #[.pointer none, .slice none 0 0] 95)).cell? ⟨w.heap.size, 1, none⟩ = some (.string tail) := by
    rw [World.cell?_alloc_lt _ _ _ (by simp)]; exact Lib.cell_of_heap (heap_alloc_new w _) 1
  have HC1 := Lib.hid hc1
  have HI0 := Lib.hid hI0
  have HS0 := Lib.hid hs0
  clear hc1 hI0 hs0
  have hb0 : Below w.heap.size w ((w.alloc (.cells #[.slice A n c, .string tail] 66)).alloc (.cells #[.pointer none, .slice none 0 0] 95)) := ((Below.refl _ _).alloc (Nat.le_refl _) _).alloc (by simp) _
  go_loopw [10] (fun i wr => ∃ k : Nat, k ≤ n ∧ i = .int .i64 k ∧ Lib.IsBuilderF 95 5 (w.heap.size + 1) (w.heap.size + 1) (Lib.byteCells (dotted (zs.take k))) wr ∧ Below (w.heap.size + 1) ((w.alloc (.cells #[.slice A n c, .string tail] 66)).alloc (.cells #[.pointer none, .slice none 0 0] 95)) wr)
    (fun i _ => n - (intOf i).toNat)
  case atStart => exact ⟨0, Nat.zero_le _, rfl, HI0.out, Below.refl _ _⟩
  case round =>
    obtain ⟨k, hk, rfl, hI, hbel⟩ := hrel
    have hsz : w.heap.size + 2 ≤ wr.heap.size := by have := hbel.size; simpa using this
    have hbw : Below w.heap.size w wr := hb0.trans (hbel.mono (by omega))
    by_cases hlt : k < n
    · obtain ⟨ad, u, rfl, hab, hx, hcell⟩ := hr.at_ hlt
      obtain rfl : u = .int .i64 (zs.getD k 0) := by
        have e : (ints zs)[k]? = some (.int .i64 (zs.getD k 0)) := by
          rw [List.getElem?_map, List.getElem?_eq_getElem (by omega), getD_lt _ _ _ (by omega)]; rfl
        rw [e] at hx; exact (Option.some.inj hx).symm
      have hm : zs.getD k 0 ∈ zs := by rw [getD_lt _ _ _ (by omega)]; exact List.getElem_mem _
      have hzb := hz _ hm
      have hcw : wr.cell? (ad.add k) = some (.int .i64 (zs.getD k 0)) := by rw [hbw.cell (by rw [block_of_add]; exact hab)]; exact hcell
      have hd := dotted_len zs hz k (by omega)
      have HDT := Lib.hid (dotted_take zs k (by omega))
      obtain ⟨z, hzz⟩ : ∃ z, z = zs.getD k 0 := ⟨_, rfl⟩
      rw [← hzz] at hcw hzb HDT
      obtain ⟨acc, hacc⟩ : ∃ acc, acc = dotted (zs.take k) := ⟨_, rfl⟩
      rw [← hacc] at hI HDT hd
      clear hzz hacc hm hx hcell
      have hTr := tabOn hT hbw (Nat.le_refl _)
      by_cases ha : 0 < acc.length
      · go_wp2_with (go_at_call 45; refine (builderLen _ _ acc _ hI).mono ?_; rintro e w' ⟨rfl, rfl⟩)
        refine (builderDot _ _ acc _ hI (by omega) (by omega)).mono ?_
        rintro e w1 ⟨rfl, hI1, hb1⟩
        have hs1 := hb1.size
        have hTr1 := tabOn hT (hbw.trans (hb1.mono (by omega))) (Nat.le_refl _)
        go_wp2_with fail
        refine (itoa_any z hzb.1 hzb.2 _ hTr1).mono ?_
        rintro e w2 ⟨rfl, hb2⟩
        have hI2 := isBuilder_old hI1 hb2
        have hs2 := hb2.size
        have hil := Lib.itoa_length_le z (by omega) (by omega)
        go_wp2_with fail
        refine (builderWrite _ _ (acc ++ [46]) (Lib.itoa z) _ hI2 (by rw [List.length_append, List.length_singleton]; omega) (by omega)).mono ?_
        rintro e w3 ⟨rfl, hI3, hb3⟩
        go_wp2_with fail
        go_roundw
        case rel =>
          refine ⟨k + 1, by omega, by go_num, ?_, ((hbel.trans hb1).trans (hb2.mono (by omega))).trans hb3⟩
          rw [HDT.out, if_neg (by simp; rintro rfl; simp at ha)]
          exact hI3
        case measure => simp [intOf]; omega
      · obtain rfl : acc = [] := by cases acc with | nil => rfl | cons a r => simp at ha
        go_wp2_with (go_at_call 45; refine (builderLen _ _ [] _ hI).mono ?_; rintro e w' ⟨rfl, rfl⟩)
        refine (itoa_any z hzb.1 hzb.2 _ hTr).mono ?_
        rintro e w2 ⟨rfl, hb2⟩
        have hI2 := isBuilder_old hI hb2
        have hs2 := hb2.size
        have hil := Lib.itoa_length_le z (by omega) (by omega)
        go_wp2_with fail
        refine (builderWrite _ _ [] (Lib.itoa z) _ hI2 (by simp; omega) (by omega)).mono ?_
        rintro e w3 ⟨rfl, hI3, hb3⟩
        go_wp2_with fail
        go_roundw
        case rel =>
          refine ⟨k + 1, by omega, by go_num, ?_, (hbel.trans (hb2.mono (by omega))).trans hb3⟩
          rw [HDT.out]
          exact hI3
        case measure => simp [intOf]; omega
    · obtain rfl : k = n := by omega
      have hcb : wr.cell? ⟨w.heap.size, 1, none⟩ = some (.string tail) := by rw [hbel.cell (by simp)]; exact HC1.out
      have hd := dotted_len zs hz k (by omega)
      obtain ⟨t, rfl⟩ : ∃ t : List UInt8, tail = ⟨t.toArray⟩ := ⟨tail.data.toList, by cases tail; simp⟩
      have ht' : t.length ≤ 2147483647 := by simpa [ByteArray.size] using ht
      clear ht
      go_wp2_with fail
      refine (builderWrite _ _ _ t _ hI (by omega) (by omega)).mono ?_
      rintro e w3 ⟨rfl, hI3, hb3⟩
      have hs3 := hb3.size
      go_wp2_with fail
      refine (Tryd.Builder_String_any_k _ _ _ _ hI3 (by omega)).mono ?_
      rintro e w4 ⟨rfl, _, hb4, _⟩
      go_wp2_with fail
      go_ret
      refine ⟨?_, (hbw.trans (hb3.mono (by omega))).trans (hb4.mono (by omega))⟩
      rw [List.take_of_length_le (by omega)]
      rfl

/-- impl.of: a version as package compat has it. -/
theorem implOf (A : Option Addr) (n c : Nat) (tail : ByteArray) (w : World) :
    Calls Tryd.prog 32 #[.agg #[.slice A n c, .string tail]] w fun e w' => e = .returned (.agg #[.slice A n c, .string tail]) ∧ Below w.heap.size w w' := by
  go_enter Tryd.func32, Tryd.ntmps32
  go_wp2_with fail
  exact bodyPost_ret (v := .agg #[.slice A n c, .string tail]) (by simp [results, Tryd.results32, go_sem]) rfl ⟨rfl, by
    repeat (first | exact Below.refl _ _ | refine Below.setCell ?_ (by simp) _ | refine Below.alloc ?_ (by simp) _)⟩
/-- laws.of: a version as package spec has it. -/
theorem lawsOf (A : Option Addr) (n c : Nat) (tail : ByteArray) (w : World) :
    Calls Tryd.prog 16 #[.agg #[.slice A n c, .string tail]] w fun e w' => e = .returned (.agg #[.slice A n c, .string tail]) ∧ Below w.heap.size w w' := by
  go_enter Tryd.func16, Tryd.ntmps16
  go_wp2_with fail
  exact bodyPost_ret (v := .agg #[.slice A n c, .string tail]) (by simp [results, Tryd.results16, go_sem]) rfl ⟨rfl, by
    repeat (first | exact Below.refl _ _ | refine Below.setCell ?_ (by simp) _ | refine Below.alloc ?_ (by simp) _)⟩

set_option maxHeartbeats 1000000 in
theorem impl_Text (A : Option Addr) (n c : Nat) (zs : List Int) (tail : ByteArray) (w : World) (hr : Reads w w.heap.size 1 A n (ints zs)) (hz : ∀ z ∈ zs, 0 ≤ z ∧ z ≤ 1000000000)
    (hn : n ≤ 100) (ht : tail.size ≤ 2147483647) (hT : Lib.TabIs Tryd.prog w "internal/strconv.uint64pow10" .u64 Lib.pow10Tab) :
    Calls Tryd.prog 14 #[.agg #[.slice A n c, .string tail]] w fun e w' => e = .returned (.string ⟨(written zs tail.data.toList).toArray⟩) ∧ Below w.heap.size w w' := by
  go_enter Tryd.func14, Tryd.ntmps14
  go_wp2_with fail
  refine (implOf A n c tail _).mono ?_
  rintro e w1 ⟨rfl, hb1⟩
  have hs1 : w.heap.size + 1 ≤ w1.heap.size := by have := hb1.size; simpa using this
  have hbw : Below w.heap.size w w1 := ((Below.refl _ _).alloc (Nat.le_refl _) _).trans (hb1.mono (by simp))
  go_wp2_with fail
  refine (semver_String A n c zs tail _ ((hr.below hbw).more (by omega)) hz hn ht (tabOn hT hbw (Nat.le_refl _))).mono ?_
  rintro e w2 ⟨rfl, hb2⟩
  go_wp2_with fail
  go_ret
  exact ⟨rfl, hbw.trans (hb2.mono (by omega))⟩
end Go.Proofs.YtnpghnipjienoaaDoor
