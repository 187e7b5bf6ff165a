/-
  The walk of the law FnWritten.
-/
import Derived.Test.YtnpghnipjienoaaDoorImplWritten
namespace Go.Proofs.YtnpghnipjienoaaDoor
open Go Go.RowKit Go.Sort

theorem okTpl_len (ps : List (ByteArray × Int)) (ho : okTpl ps = true) : (writtenT ps).length ≤ 1006000 := by
  obtain ⟨h, hl⟩ := (okTpl_iff ps).1 ho
  have : ∀ l : List (ByteArray × Int), (∀ p ∈ l, 0 ≤ p.2 ∧ p.2 ≤ 4 ∧ p.1.size ≤ 1000) → (writtenT l).length ≤ 1006 * l.length := by
    intro l
    induction l with
    | nil => intro _; simp [writtenT]
    | cons x r ih =>
      intro hx
      have h1 := ih fun p hp => hx p (List.mem_cons_of_mem _ hp)
      have h2 := (hx x (List.mem_cons_self ..)).2.2
      have h3 := nameOf_len x.2
      have e : writtenT (x :: r) = (x.1.data.toList ++ nameOf x.2) ++ writtenT r := rfl
      rw [e, List.length_append, List.length_append, size_list, List.length_cons]
      omega
  have := this ps h
  omega

set_option maxHeartbeats 2000000 in
set_option maxRecDepth 100000 in
theorem writtenLaw (A : Option Addr) (n c : Nat) (ps : List (ByteArray × Int)) (w : World) (hr : Parts .i64 w w.heap.size A n ps) (hn : n ≤ 9223372036854775807) (hsz : ∀ p ∈ ps, p.1.size ≤ 9223372036854775807)
    (hT : Lib.TabIs Tryd.prog w "internal/strconv.uint64pow10" .u64 Lib.pow10Tab) :
    Calls Tryd.prog 4 #[.slice A n c] w fun e w' => e = .returned (.bool true) ∧ Below w.heap.size w w' := by
  have HL := Lib.hid hr.1
  have HR := Lib.hid hr
  clear hr
  go_enter Tryd.func4, Tryd.ntmps4
  go_wp2_with fail
  refine (zzFits4_any A n c ps _ HR.out hn hsz).mono ?_
  cases hfit : fitsP ps with
  | false =>
    clear hfit
    rintro e w1 ⟨rfl, hb1⟩
    go_wp2_with fail
    go_ret
    exact ⟨rfl, hb1⟩
  | true =>
    obtain ⟨hsz2, hn2⟩ := (fitsP_iff ps).1 hfit
    clear hfit
    have hnM : n ≤ 2147483647 := by have := HL.out; omega
    rintro e w1 ⟨rfl, hb1⟩
    have HR1 := Lib.hid ((HR.out.below hb1).more hb1.size)
    go_wp2_with fail
    refine (parts_any A n c ps _ HR1.out hnM).mono ?_
    rintro e w2 ⟨A2, c2, rfl, hP2, hbl⟩
    have hb2 := below_call hb1 hbl (Nat.le_refl _)
    have HP2 := Lib.hid hP2
    clear hbl hb1 HR1 hP2
    go_wp2_with fail
    refine (isTemplate_any A2 n c2 ps _ HP2.out hnM hsz2).mono ?_
    clear HP2
    cases hok : okTpl ps with
    | false =>
      clear hok
      rintro e w3 ⟨rfl, hbl⟩
      have hb3 := below_call hb2 hbl (Nat.le_refl _)
      clear hbl hb2
      go_wp2_with fail
      refine (wakes_any _ (tabOn hT hb3 (Nat.le_refl _))).mono ?_
      rintro e w4 ⟨rfl, hbl⟩
      have hb4 := below_call hb3 hbl (Nat.le_refl _)
      clear hbl hb3
      go_wp2_with fail
      go_ret
      exact ⟨rfl, hb4⟩
    | true =>
      have HOK := Lib.hid hok
      clear hok
      rintro e w3 ⟨rfl, hbl⟩
      have hb3 := below_call hb2 hbl (Nat.le_refl _)
      clear hbl hb2
      have HR3 := Lib.hid ((HR.out.below hb3).more hb3.size)
      have hlen := okTpl_len ps HOK.out
      go_wp2_with fail
      refine (impl_Written A n c ps _ HR3.out hnM (fun p hp => ⟨(((okTpl_iff ps).1 HOK.out).1 p hp).1, (((okTpl_iff ps).1 HOK.out).1 p hp).2.1⟩) (by omega)).mono ?_
      obtain ⟨s, hsd⟩ : ∃ s : ByteArray, s = ⟨(writtenT ps).toArray⟩ := ⟨_, rfl⟩
      rw [← hsd]
      have HSD := Lib.hid hsd
      clear hsd HR3
      rintro e w4 ⟨rfl, hbl⟩
      have hb4 := below_call hb3 hbl (Nat.le_refl _)
      clear hbl hb3
      have HR4 := Lib.hid ((HR.out.below hb4).more hb4.size)
      go_wp2_with fail
      refine (parts_any A n c ps _ HR4.out hnM).mono ?_
      rintro e w5 ⟨A5, c5, rfl, hP5, hbl⟩
      have hb5 := below_call hb4 hbl (Nat.le_refl _)
      have HP5 := Lib.hid hP5
      clear hbl hb4 HR4 hP5
      go_wp2_with fail
      refine (spec_Written A5 n c5 ps _ HP5.out HOK.out).mono ?_
      rw [← HSD.out]
      rintro e w6 ⟨rfl, hbl⟩
      have hb6 := below_call hb5 hbl (Nat.le_refl _)
      clear hbl hb5 HP5
      go_wp2_with fail
      refine (wakes_any _ (tabOn hT hb6 (Nat.le_refl _))).mono ?_
      rintro e w7 ⟨rfl, hbl⟩
      have hb7 := below_call hb6 hbl (Nat.le_refl _)
      clear hbl hb6
      go_wp2_with fail
      go_ret
      exact ⟨rfl, hb7⟩
end Go.Proofs.YtnpghnipjienoaaDoor
