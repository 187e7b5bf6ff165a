/-
  The contracts of package spec's digits, Text and IsVersion, and of the laws' zzFits1 and are.
-/
import Derived.Test.YtnpghnipjienoaaDoorText
namespace Go.Proofs.YtnpghnipjienoaaDoor
open Go Go.RowKit

theorem tenDigits : ∀ d : Fin 10, Utf8.encode ((({ data := #[48, 49, 50, 51, 52, 53, 54, 55, 56, 57] } : ByteArray)[d.val]'(by have := d.isLt; exact this)).toNat : Int) = ⟨#[UInt8.ofNat (48 + d.val)]⟩ := by decide +kernel
theorem digitAt (d : Nat) (h : d < 10) (hd : d < ({ data := #[48, 49, 50, 51, 52, 53, 54, 55, 56, 57] } : ByteArray).size) : Utf8.encode ((({ data := #[48, 49, 50, 51, 52, 53, 54, 55, 56, 57] } : ByteArray)[d]'hd).toNat : Int) = ⟨#[UInt8.ofNat (48 + d)]⟩ := tenDigits ⟨d, h⟩
theorem digitSize (d : Nat) (h : d < 10) (hd : d < ({ data := #[48, 49, 50, 51, 52, 53, 54, 55, 56, 57] } : ByteArray).size) : (Utf8.encode ((({ data := #[48, 49, 50, 51, 52, 53, 54, 55, 56, 57] } : ByteArray)[d]'hd).toNat : Int)).size = 1 := by
  rw [digitAt d h hd]; rfl
theorem bytes_append (a b : List UInt8) : ({ data := a.toArray } : ByteArray) ++ { data := b.toArray } = { data := (a ++ b).toArray } := by
  apply ByteArray.ext
  simp
theorem string_append (a b : List UInt8) : Value.string (({ data := a.toArray } : ByteArray) ++ { data := b.toArray }) = .string { data := (a ++ b).toArray } := by rw [bytes_append]
theorem decDigits_big (k : Nat) (h : 9 < k) : Lib.decDigits k = Lib.decDigits (k / 10) ++ [UInt8.ofNat (48 + k % 10)] := by
  rw [Lib.decDigits, dif_neg (by omega)]
theorem decDigits_small (k : Nat) (h : k < 10) : Lib.decDigits k = [UInt8.ofNat (48 + k)] := by
  rw [Lib.decDigits, dif_pos h]
theorem decDigits_len (m : Nat) (hm : m ≤ 1000000000) : (Lib.decDigits m).length ≤ 21 := by
  have h := Lib.itoa_length_le (m : Int) (by omega) (by omega)
  unfold Lib.itoa at h
  rw [if_neg (by omega)] at h
  simpa using h
theorem itoa_nat (m : Nat) : Lib.itoa (m : Int) = Lib.decDigits m := by
  unfold Lib.itoa
  rw [if_neg (by omega)]
  simp

set_option maxHeartbeats 1000000 in
set_option maxRecDepth 100000 in
theorem digits_any (m : Nat) (hm : m ≤ 1000000000) (w : World) :
    Calls Tryd.prog 34 #[.int .i64 m] w fun e w' => e = .returned (.string ⟨(Lib.decDigits m).toArray⟩) ∧ w = w' := by
  have hdl := decDigits_len m hm
  go_enter Tryd.func34, Tryd.ntmps34
  go_wp2_with fail
  go_loop [0, 3] (fun v s => ∃ (k : Nat) (acc : List UInt8), k ≤ 1000000000 ∧ v = .int .i64 k ∧ s = .string ⟨acc.toArray⟩ ∧ Lib.decDigits m = Lib.decDigits k ++ acc)
    (fun v _ => (intOf v).toNat)
  case atStart => exact ⟨m, [], hm, rfl, rfl, by simp⟩
  case round =>
    obtain ⟨k, acc, hk, rfl, rfl, hacc⟩ := hrel
    have hal : acc.length ≤ 21 := by
      have := congrArg List.length hacc
      rw [List.length_append] at this
      omega
    have HAL := Lib.hid hal
    have HAC := Lib.hid hacc
    clear hal hacc
    by_cases h9 : 9 < k
    · go_wp2_with fail
      case roundEnd =>
        have HA : Lib.decDigits m = Lib.decDigits (k / 10) ++ (UInt8.ofNat (48 + k % 10) :: acc) := by
          rw [HAC.out, decDigits_big k h9, List.append_assoc]; rfl
        rw [digitAt (k % 10) (by omega)]
        refine ⟨⟨k / 10, _, by omega, by go_num, ?_, HA⟩, ?_⟩
        · exact string_append [_] acc
        · simp [intOf]; omega
      all_goals
        exfalso
        rename_i hov
        rw [digitSize (k % 10) (by omega)] at hov
        have := HAL.out
        omega
    · go_wp2_with fail
      all_goals first
        | (exfalso
           rename_i hov
           rw [digitSize k (by omega)] at hov
           have := HAL.out
           omega)
        | (go_ret
           have HA : Lib.decDigits m = UInt8.ofNat (48 + k) :: acc := by
             rw [HAC.out, decDigits_small k (by omega)]; rfl
           refine ⟨?_, rfl⟩
           rw [digitAt k (by omega), HA]
           exact congrArg Ending.returned (string_append [_] acc))

theorem string_of {s : ByteArray} {l : List UInt8} (h : s.data.toList = l) : s = ⟨l.toArray⟩ := by
  subst h
  apply ByteArray.ext
  simp
theorem list_append (s t : ByteArray) : (s ++ t).data.toList = s.data.toList ++ t.data.toList := by simp
theorem size_list (s : ByteArray) : s.data.toList.length = s.size := Array.length_toList

/-- An element of a slice of ints, in the walk's form. -/
theorem Reads.int {w : World} {B n k : Nat} {A : Option Addr} {zs : List Int} (h : Reads w B 1 A n (ints zs)) (hk : k < n) :
    ∃ ad, A = some ad ∧ ad.block < B ∧ w.cell? (ad.add k) = some (.int .i64 (zs.getD k 0)) ∧ zs.getD k 0 ∈ zs := by
  have hl : zs.length = n := by have := h.1; simpa using this
  obtain ⟨ad, u, rfl, hab, hx, hcell⟩ := h.at_ hk
  have e : (ints zs)[k]? = some (.int .i64 (zs.getD k 0)) := by
    rw [List.getElem?_map, List.getElem?_eq_getElem (by omega), getD_lt _ _ _ (by omega)]; rfl
  rw [e] at hx
  exact ⟨ad, rfl, hab, by rw [hcell]; exact hx.symm, by rw [getD_lt _ _ _ (by omega)]; exact List.getElem_mem _⟩

theorem digits_int (z : Int) (h0 : 0 ≤ z) (h1 : z ≤ 1000000000) (w : World) :
    Calls Tryd.prog 34 #[.int .i64 z] w fun e w' => e = .returned (.string ⟨(Lib.itoa z).toArray⟩) ∧ w = w' := by
  obtain ⟨m, rfl⟩ := Int.eq_ofNat_of_zero_le h0
  rw [itoa_nat]
  exact digits_any m (by omega) w

set_option maxHeartbeats 1000000 in
set_option maxRecDepth 100000 in
theorem spec_Text (A : Option Addr) (n c : Nat) (zs : List Int) (tail : ByteArray) (w : World) (hr : Reads w w.heap.size 1 A n (ints zs)) (hz : ∀ z ∈ zs, 0 ≤ z ∧ z ≤ 1000000000)
    (hn : n ≤ 100) (ht : tail.size ≤ 2147483647) :
    Calls Tryd.prog 15 #[.agg #[.slice A n c, .string tail]] w fun e w' => e = .returned (.string ⟨(written zs tail.data.toList).toArray⟩) ∧ Below w.heap.size w w' := by
  have hl : zs.length = n := by have := hr.1; simpa using this
  go_enter Tryd.func15, Tryd.ntmps15
  go_wp2_with fail
  have hc1 : (w.alloc (.cells #[.slice A n c, .string tail] 30)).cell? ⟨w.heap.size, 1, none⟩ = some (.string tail) := Lib.cell_of_heap (heap_alloc_new w _) 1
  have hb0 : Below w.heap.size w (w.alloc (.cells #[.slice A n c, .string tail] 30)) := (Below.refl _ _).alloc (Nat.le_refl _) _
  generalize (w.alloc (.cells #[.slice A n c, .string tail] 30)) = w0 at hc1 hb0 ⊢
  have HC1 := Lib.hid hc1
  have HL := Lib.hid hl
  clear hc1 hl
  go_loop [3, 9] (fun s i => ∃ (k : Nat) (x : ByteArray), k ≤ n ∧ i = .int .i64 k ∧ s = .string x ∧ x.data.toList = dotted (zs.take k))
    (fun _ i => n - (intOf i).toNat)
  case atStart => exact ⟨0, ⟨#[]⟩, Nat.zero_le _, rfl, rfl, rfl⟩
  case round =>
    obtain ⟨k, x, hk, rfl, rfl, hx⟩ := hrel
    have hd := dotted_len zs hz k (by have := HL.out; omega)
    rw [← hx, size_list] at hd
    have HX := Lib.hid hx
    clear hx
    by_cases hlt : k < n
    · obtain ⟨ad, rfl, hab, hcell, hm⟩ := hr.int hlt
      have hzb := hz _ hm
      have hcw : w0.cell? (ad.add k) = some (.int .i64 (zs.getD k 0)) := by rw [hb0.cell (by rw [block_of_add]; exact hab)]; exact hcell
      have HDT := Lib.hid (dotted_take zs k (by have := HL.out; omega))
      have HP := Lib.hid (fun h => dotted_pos zs k h (by have := HL.out; omega))
      obtain ⟨z, hzz⟩ : ∃ z, z = zs.getD k 0 := ⟨_, rfl⟩
      rw [← hzz] at hcw hzb HDT
      have hil := Lib.itoa_length_le z (by omega) (by omega)
      clear hzz hm hcell
      by_cases hk0 : 0 < k
      · go_wp2_with (go_at_call 34; refine (digits_int z hzb.1 hzb.2 _).mono ?_; rintro e w' ⟨rfl, rfl⟩)
        go_round
        case rel =>
          refine ⟨k + 1, _, by omega, by go_num, rfl, ?_⟩
          have hp := HP.out hk0
          rw [HDT.out, list_append, list_append, HX.out, if_neg (by cases h : dotted (zs.take k) with | nil => rw [h] at hp; simp at hp | cons a r => simp)]
        case measure => simp [intOf]; omega
      · go_wp2_with (go_at_call 34; refine (digits_int z hzb.1 hzb.2 _).mono ?_; rintro e w' ⟨rfl, rfl⟩)
        go_round
        case rel =>
          refine ⟨k + 1, _, by omega, by go_num, rfl, ?_⟩
          obtain rfl : k = 0 := by omega
          rw [HDT.out, list_append, HX.out]
          simp [dotted]
        case measure => simp [intOf]; omega
    · obtain rfl : k = n := by omega
      have hc2 := HC1.out
      go_wp2_with fail
      go_ret
      refine ⟨?_, hb0⟩
      rw [string_of (s := x ++ tail) (l := written zs tail.data.toList) (by rw [list_append, HX.out, List.take_of_length_le (by have := HL.out; omega)]; rfl)]
      rfl

theorem ret_bool {a b : Bool} (h : a = b) : Ending.returned (.bool a) = .returned (.bool b) := by rw [h]
/-- spec.IsVersion: all numbers are from 0 to 10^9, and they are not too many. -/
def okNums (zs : List Int) : Bool := zs.all (fun z => decide (0 ≤ z) && decide (z ≤ 1000000000)) && decide (zs.length ≤ 100)
theorem okNums_iff (zs : List Int) : okNums zs = true ↔ (∀ z ∈ zs, 0 ≤ z ∧ z ≤ 1000000000) ∧ zs.length ≤ 100 := by
  simp [okNums]

set_option maxHeartbeats 1000000 in
set_option maxRecDepth 100000 in
theorem isVersion_any (A : Option Addr) (n c : Nat) (zs : List Int) (tail : ByteArray) (w : World) (hr : Reads w w.heap.size 1 A n (ints zs)) (hn : n ≤ 2147483647) :
    Calls Tryd.prog 31 #[.agg #[.slice A n c, .string tail]] w fun e w' => e = .returned (.bool (okNums zs)) ∧ Below w.heap.size w w' := by
  have hl : zs.length = n := by have := hr.1; simpa using this
  go_enter Tryd.func31, Tryd.ntmps31
  go_wp2_with fail
  have hc0 : (w.alloc (.cells #[.slice A n c, .string tail] 30)).cell? ⟨w.heap.size, 0, none⟩ = some (.slice A n c) := Lib.cell_of_heap (heap_alloc_new w _) 0
  have hb0 : Below w.heap.size w (w.alloc (.cells #[.slice A n c, .string tail] 30)) := (Below.refl _ _).alloc (Nat.le_refl _) _
  generalize (w.alloc (.cells #[.slice A n c, .string tail] 30)) = w0 at hc0 hb0 ⊢
  have HC0 := Lib.hid hc0
  have HL := Lib.hid hl
  clear hc0 hl
  go_loop [8] (fun i => ∃ k : Nat, k ≤ n ∧ i = .int .i64 k ∧ ∀ z ∈ zs.take k, 0 ≤ z ∧ z ≤ 1000000000)
    (fun i => n - (intOf i).toNat)
  case atStart => exact ⟨0, Nat.zero_le _, rfl, by simp⟩
  case round =>
    obtain ⟨k, hk, rfl, hall⟩ := hrel
    have HA := Lib.hid hall
    clear hall
    by_cases hlt : k < n
    · obtain ⟨ad, rfl, hab, hcell, hm⟩ := hr.int hlt
      have hcw : w0.cell? (ad.add k) = some (.int .i64 (zs.getD k 0)) := by rw [hb0.cell (by rw [block_of_add]; exact hab)]; exact hcell
      have HS := Lib.hid (take_snoc_getD zs 0 k (by have := HL.out; omega))
      have HM := Lib.hid hm
      clear hm hcell
      obtain ⟨z, hzz⟩ : ∃ z, z = zs.getD k 0 := ⟨_, rfl⟩
      rw [← hzz] at hcw HM HS
      clear hzz
      by_cases h1 : z < 0
      · go_wp2_with fail
        go_ret
        exact ⟨ret_bool (by rw [Eq.comm, Bool.eq_false_iff, ne_eq, okNums_iff]; intro h; have := h.1 z HM.out; omega), hb0⟩
      · by_cases h2 : 1000000000 < z
        · go_wp2_with fail
          go_ret
          exact ⟨ret_bool (by rw [Eq.comm, Bool.eq_false_iff, ne_eq, okNums_iff]; intro h; have := h.1 z HM.out; omega), hb0⟩
        · go_wp2_with fail
          go_round
          case rel =>
            refine ⟨k + 1, by omega, by go_num, fun y hy => ?_⟩
            rw [HS.out, List.mem_append, List.mem_singleton] at hy
            rcases hy with hy | rfl
            · exact HA.out y hy
            · omega
          case measure => simp [intOf]; omega
    · obtain rfl : k = n := by omega
      have hc2 := HC0.out
      have HO : Hid (okNums zs = decide (k ≤ 100)) := by
        show _ = _
        have h := HA.out
        rw [List.take_of_length_le (by have := HL.out; omega)] at h
        rw [Bool.eq_iff_iff, okNums_iff, HL.out]
        simp only [decide_eq_true_eq]
        exact ⟨fun x => x.2, fun x => ⟨h, x⟩⟩
      go_wp2_with fail
      go_ret
      exact ⟨ret_bool (by rw [HO.out]; exact decide_eq_decide.2 (by omega)), hb0⟩

set_option maxHeartbeats 1000000 in
/-- laws.zzFits1: the list and the tail are not longer than the bound. -/
theorem zzFits1_any (A : Option Addr) (n c : Nat) (tail : ByteArray) (w : World) (hn : n ≤ 9223372036854775807) (ht : tail.size ≤ 9223372036854775807) :
    Calls Tryd.prog 11 #[.agg #[.slice A n c, .string tail]] w fun e w' => e = .returned (.bool (decide (n ≤ 2147483647) && decide (tail.size ≤ 2147483647))) ∧ Below w.heap.size w w' := by
  by_cases h1 : 2147483647 < n
  · go_enter Tryd.func11, Tryd.ntmps11
    go_wp2_with fail
    go_ret
    exact ⟨ret_bool (by rw [decide_eq_false (by omega)]; rfl), (Below.refl _ _).alloc (Nat.le_refl _) _⟩
  · by_cases h2 : 2147483647 < tail.size
    · go_enter Tryd.func11, Tryd.ntmps11
      go_wp2_with fail
      go_ret
      exact ⟨ret_bool (by rw [decide_eq_false (p := tail.size ≤ 2147483647) (by omega)]; simp), (Below.refl _ _).alloc (Nat.le_refl _) _⟩
    · go_enter Tryd.func11, Tryd.ntmps11
      go_wp2_with fail
      go_ret
      exact ⟨ret_bool (by rw [decide_eq_true (by omega), decide_eq_true (by omega)]; rfl), (Below.refl _ _).alloc (Nat.le_refl _) _⟩
end Go.Proofs.YtnpghnipjienoaaDoor
