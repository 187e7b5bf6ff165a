/-
  The contracts of impl.Loads, spec.found and spec.Loads.
-/
import Derived.Test.YtnpghnipjienoaaDoorLoader
import Derived.Test.YtnpghnipjienoaaDoorPartsOf
namespace Go.Proofs.YtnpghnipjienoaaDoor
open Go Go.RowKit Go.Maps Go.WideMaps

theorem lastOf_bounds (ps : List (ByteArray × Int)) (hz : ∀ p ∈ ps, 0 ≤ p.2 ∧ p.2 ≤ 255) (e : List UInt8) : 0 ≤ (lastOf ps e).getD 0 ∧ (lastOf ps e).getD 0 ≤ 255 := by
  revert hz
  refine snoc_ind (P := fun ps => (∀ p ∈ ps, 0 ≤ p.2 ∧ p.2 ≤ 255) → 0 ≤ (lastOf ps e).getD 0 ∧ (lastOf ps e).getD 0 ≤ 255) ?_ ?_ ps
  · intro _
    exact ⟨Int.le_refl 0, show (0 : Int) ≤ 255 by decide⟩
  · intro l x ih hz
    rw [lastOf_snoc]
    split
    · exact hz x (by simp)
    · exact ih fun p hp => hz p (by simp [hp])
theorem scan_bounds (F : List UInt8 → Option Int) (hF : ∀ e, 0 ≤ (F e).getD 0 ∧ (F e).getD 0 ≤ 255) : ∀ bs, 0 ≤ (scan F bs).getD 0 ∧ (scan F bs).getD 0 ≤ 255
  | [] => ⟨Int.le_refl 0, show (0 : Int) ≤ 255 by decide⟩
  | c :: r => by
    rw [scan]
    split
    · split
      · next z hz => have := hF (c :: r); rw [hz] at this; exact this
      · exact scan_bounds F hF r
    · exact scan_bounds F hF r
theorem loads_bounds (ps : List (ByteArray × Int)) (hz : ∀ p ∈ ps, 0 ≤ p.2 ∧ p.2 ≤ 255) (bs : List UInt8) : 0 ≤ loads (lastOf ps) bs ∧ loads (lastOf ps) bs ≤ 255 := by
  unfold loads
  split
  · exact scan_bounds _ (lastOf_bounds ps hz) bs
  · exact lastOf_bounds ps hz []

set_option maxHeartbeats 2000000 in
set_option maxRecDepth 100000 in
theorem impl_Loads (A : Option Addr) (n c : Nat) (ps : List (ByteArray × Int)) (base : ByteArray) (w : World) (hr : Parts .i64 w w.heap.size A n ps) (hn : n ≤ 1000) (hs : base.size ≤ 1000) (hz : ∀ p ∈ ps, 0 ≤ p.2 ∧ p.2 ≤ 255 ∧ p.1.size ≤ maxLen) :
    Calls Tryd.prog 25 #[.slice A n c, .string base] w fun e w' => e = .returned (.int .i64 (loads (lastOf ps) base.data.toList)) ∧ Below w.heap.size w w' := by
  have HL := Lib.hid hr.1
  have HZ := Lib.hid hz
  clear hz
  have hmm := @run_makeMap Tryd.prog
  go_enter Tryd.func25, Tryd.ntmps25
  go_wp2_with fail
  clear hmm
  go_loopw [11] (fun i wr => ∃ k : Nat, k ≤ n ∧ i = .int .i64 k ∧ wr.ownsMap Tryd.prog 9 (plainElem (H := Unit) Tryd.prog 82) w.heap.size k (mapOf (ps.take k)) ∧ Below w.heap.size w wr ∧ w.heap.size < wr.heap.size) (fun i _ => n - (intOf i).toNat)
  case atStart => exact ⟨0, Nat.zero_le _, rfl, World.ownsMap_made _ _ _ _, (Below.refl _ _).alloc (Nat.le_refl _) _, by simp⟩
  case round =>
    obtain ⟨k, hk, rfl, hown, hbel, hws⟩ := hrel
    by_cases hlt : k < n
    · obtain ⟨b, o, s, z, rfl, hab, hp, h1, h2⟩ := hr.at_ hlt
      obtain ⟨hzl, hzh, hsl⟩ := HZ.out _ (List.mem_of_getElem? hp)
      simp only at hzl hzh hsl
      have h1' : wr.cell? ⟨b, o + k * 2, none⟩ = some (.string s) := by rw [hbel.cell (by exact hab)]; exact h1
      have h2' : wr.cell? ⟨b, o + k * 2 + 1, none⟩ = some (.int .i64 z) := by rw [hbel.cell (by exact hab)]; exact h2
      have HS : Hid (mapOf (ps.take (k + 1)) = (mapOf (ps.take k)).put (.string s.data.toList) (.lit (.int .u8 z))) := by
        show _ = _
        rw [List.take_add_one, hp]
        exact mapOf_snoc _ _
      clear h1 h2 hp
      have hwrap : IntKind.u8.wrap z = z := IntWalk.u8_in z (by omega)
      have hwf : (Lit.int .u8 z).wf = true := WalkArith.wf_u8 (by omega)
      go_wp2_with (at_mapUpdate; refine wpList_mapUpdate_own _ rfl _ _ _ 81 rfl 9 82 lawStr Tryd.underlying81 _ w.heap.size k _ rfl (hown.alloc _) (by unfold maxLen; omega) _ _ _ rfl rfl (keyOf_string_mk (s := s) Tryd.underlying9 hsl) _ [] (plainElem_int Tryd.underlying82 hwf) ?_; intro w1 hown1 hgrow1)
      have hsg := hgrow1.size
      go_roundw
      case rel =>
        refine ⟨k + 1, by omega, by go_num, by rw [HS.out]; exact hown1, ?_, ?_⟩
        · exact (below_alloc hbel (Nat.le_refl _) _).grown hgrow1 (by simp; omega) (fun j hj => by cases hj; exact Nat.le_refl _)
        · simp at hsg; omega
      case measure => simp [intOf]; omega
    · obtain rfl : k = n := by omega
      rw [List.take_of_length_le (by have := HL.out; omega)] at hown
      have hlb := loads_bounds ps (fun p hp => ⟨(HZ.out p hp).1, (HZ.out p hp).2.1⟩) base.data.toList
      go_wp2_with fail
      refine (loader_any _ _ ps base _ hown hs).mono ?_
      obtain ⟨y, hy⟩ : ∃ y, y = loads (lastOf ps) base.data.toList := ⟨_, rfl⟩
      rw [← hy] at hlb ⊢
      have HY := Lib.hid hy
      clear hy
      rintro e w' ⟨rfl, rfl⟩
      go_wp2_with fail
      go_ret
      exact ⟨by rw [← HY.out]; rfl, hbel⟩

theorem lastOf_step (ps : List (ByteArray × Int)) (e : List UInt8) (k : Nat) (p : ByteArray × Int) (h : ps[k]? = some p) : lastOf (ps.take (k + 1)) e = if p.1.data.toList = e then some p.2 else lastOf (ps.take k) e := by
  rw [List.take_add_one, h]
  exact lastOf_snoc _ _ _

set_option maxHeartbeats 2000000 in
set_option maxRecDepth 100000 in
theorem found_any (A : Option Addr) (n c : Nat) (ps : List (ByteArray × Int)) (e : ByteArray) (w : World) (hr : Parts .i64 w w.heap.size A n ps) (hn : n ≤ 1000) :
    Calls Tryd.prog 42 #[.slice A n c, .string e] w fun x w' => x = .returned (.tuple #[.int .i64 ((lastOf ps e.data.toList).getD 0), .bool (lastOf ps e.data.toList).isSome]) ∧ w = w' := by
  have HL := Lib.hid hr.1
  go_enter Tryd.func42, Tryd.ntmps42
  go_wp2_with fail
  go_loop [6] (fun i => ∃ k : Nat, k ≤ n ∧ i = .int .i64 ((k : Int) - 1) ∧ lastOf ps e.data.toList = lastOf (ps.take k) e.data.toList) (fun i => (intOf i + 1).toNat)
  case atStart => exact ⟨n, Nat.le_refl _, rfl, by rw [List.take_of_length_le (by have := HL.out; omega)]⟩
  case round =>
    obtain ⟨k, hk, rfl, hlast⟩ := hrel
    by_cases h0 : 0 < k
    · obtain ⟨b, o, s, z, rfl, hab, hp, h1, h2⟩ := hr.at_ (show k - 1 < n by omega)
      have hst := lastOf_step ps e.data.toList (k - 1) (s, z) hp
      rw [show k - 1 + 1 = k by omega] at hst
      have HS : Hid (lastOf ps e.data.toList = if s.data.toList = e.data.toList then some z else lastOf (ps.take (k - 1)) e.data.toList) := hlast.trans hst
      clear hp hst hlast
      go_wp2_with fail
      case roundEnd =>
        have hne : (s.toList == e.toList) = false := by assumption
        refine ⟨⟨k - 1, by omega, ?_, ?_⟩, by simp [intOf]; omega⟩
        · rw [show ((k : Int) - 1 - 1) = ((k - 1 : Nat) : Int) - 1 by omega]
        · rw [HS.out, if_neg]
          intro he
          rw [Lib.toList_data, Lib.toList_data, he] at hne
          simp at hne
      · have heq : (s.toList == e.toList) = true := by assumption
        rw [Lib.toList_data, Lib.toList_data, beq_iff_eq] at heq
        go_ret2
        refine ⟨?_, rfl⟩
        rw [HS.out, if_pos heq]
        rfl
    · obtain rfl : k = 0 := by omega
      have HLA := Lib.hid hlast
      clear hlast
      go_wp2_with fail
      go_ret2
      refine ⟨?_, rfl⟩
      rw [HLA.out]
      rfl

theorem byte_at (s : ByteArray) (k : Nat) (h : k < s.size) : s.data.toList[k]? = some s[k] := by
  rw [List.getElem?_eq_getElem (by simpa using h)]
  rfl
theorem byte_dot {c : UInt8} (h : ((c.toNat : Int) != 46) = false) : c = 46 := by
  rw [bne_eq_false_iff_eq] at h
  apply UInt8.toNat_inj.1
  have : (46 : UInt8).toNat = 46 := rfl
  omega
theorem byte_no {c : UInt8} (h : ((c.toNat : Int) != 46) = true) : c ≠ 46 := by
  rintro rfl
  rw [bne_iff_ne] at h
  exact h rfl

set_option maxHeartbeats 2000000 in
set_option maxRecDepth 100000 in
theorem spec_Loads (A : Option Addr) (n c : Nat) (ps : List (ByteArray × Int)) (base : ByteArray) (w : World) (hr : Parts .i64 w w.heap.size A n ps) (hn : n ≤ 1000) (hs : base.size ≤ 1000) :
    Calls Tryd.prog 26 #[.slice A n c, .string base] w fun e w' => e = .returned (.int .i64 (loads (lastOf ps) base.data.toList)) ∧ w = w' := by
  have HR := Lib.hid hr
  clear hr
  go_enter Tryd.func26, Tryd.ntmps26
  go_wp2_with fail
  go_loop [5, 13] (fun v i => ∃ (k : Nat) (q : Bool), k ≤ base.size ∧ i = .int .i64 k ∧ v = .bool q ∧ (q = true ↔ 46 ∈ base.data.toList.take k) ∧ scan (lastOf ps) base.data.toList = scan (lastOf ps) (base.data.toList.drop k))
    (fun _ i => base.size - (intOf i).toNat)
  case atStart => exact ⟨0, false, Nat.zero_le _, rfl, rfl, by simp, rfl⟩
  case round =>
    obtain ⟨k, q, hk, rfl, rfl, hq, hsc⟩ := hrel
    have HQ := Lib.hid hq
    have HSC := Lib.hid hsc
    clear hq hsc
    by_cases hlt : k < base.size
    · go_wp2_with fail
      case roundEnd =>
        have hno : ((base[k].toNat : Int) != 46) = true := by assumption
        have hb := byte_at base k hlt
        have hne := byte_no hno
        refine ⟨⟨k + 1, q, by omega, by go_num, rfl, ?_, ?_⟩, by simp [intOf]; omega⟩
        · rw [List.take_add_one, hb, List.mem_append, HQ.out]
          simp [Ne.symm hne]
        · rw [HSC.out, List.drop_eq_getElem_cons (by rw [size_list]; exact hlt)]
          rw [List.getElem?_eq_getElem (by rw [size_list]; exact hlt), Option.some.injEq] at hb
          rw [hb, scan, if_neg hne]
      · have hdot : ((base[k].toNat : Int) != 46) = false := by assumption
        have hb := byte_at base k hlt
        rw [byte_dot hdot] at hb
        have HM := Lib.hid (List.mem_of_getElem? hb)
        have HST : Hid (scan (lastOf ps) base.data.toList = (lastOf ps (base.extract k base.size).data.toList).or (scan (lastOf ps) (base.data.toList.drop (k + 1)))) := by
          show _ = _
          rw [HSC.out, scan_at _ _ k hb, Lib.extract_to_end]
        have HTK : Hid (46 ∈ base.data.toList.take (k + 1)) := by
          show _ ∈ _
          rw [List.take_add_one, hb]
          simp
        clear hb hdot
        obtain ⟨y, hy⟩ : ∃ y, y = base.extract k base.size := ⟨_, rfl⟩
        rw [← hy] at HST ⊢
        clear hy
        refine (found_any A n c ps y _ HR.out hn).mono ?_
        cases hF : lastOf ps y.data.toList with
        | some z =>
          have HF := Lib.hid hF
          clear hF
          rintro e w' ⟨rfl, rfl⟩
          go_wp2_with fail
          go_ret
          refine ⟨?_, rfl⟩
          rw [loads, if_pos HM.out, HST.out, HF.out]
          rfl
        | none =>
          have HF := Lib.hid hF
          clear hF
          rintro e w' ⟨rfl, rfl⟩
          go_wp2_with fail
          go_round
          case rel => exact ⟨k + 1, true, by omega, by go_num, rfl, ⟨fun _ => HTK.out, fun _ => rfl⟩, by rw [HST.out, HF.out, Option.none_or]⟩
          case measure => simp [intOf]; omega
    · obtain rfl : k = base.size := by omega
      have hdr : base.data.toList.drop base.size = [] := List.drop_eq_nil_of_le (by rw [size_list]; exact Nat.le_refl _)
      have htk : base.data.toList.take base.size = base.data.toList := List.take_of_length_le (by rw [size_list]; exact Nat.le_refl _)
      have hq := HQ.out
      have hsc := HSC.out
      rw [hdr] at hsc
      rw [htk] at hq
      have HQ2 := Lib.hid hq
      have HS2 := Lib.hid hsc
      clear hq hsc hdr htk
      cases q with
      | true =>
        go_wp2_with fail
        go_ret
        refine ⟨?_, rfl⟩
        rw [loads, if_pos (HQ2.out.1 (by simp)), HS2.out]
        rfl
      | false =>
        go_wp2_with fail
        refine (found_any A n c ps ⟨#[]⟩ _ HR.out hn).mono ?_
        have HN : Hid (loads (lastOf ps) base.data.toList = (lastOf ps (⟨#[]⟩ : ByteArray).data.toList).getD 0) := by
          show _ = _
          rw [loads, if_neg (fun h => by have := HQ2.out.2 h; cases this)]
        generalize hb1 : (lastOf ps (⟨#[]⟩ : ByteArray).data.toList).isSome = b1
        clear hb1
        obtain ⟨y, hy⟩ : ∃ y, y = (lastOf ps (⟨#[]⟩ : ByteArray).data.toList).getD 0 := ⟨_, rfl⟩
        rw [← hy] at HN ⊢
        clear hy
        rintro e w' ⟨rfl, rfl⟩
        go_wp2_with fail
        go_ret
        exact ⟨by rw [HN.out]; rfl, rfl⟩
end Go.Proofs.YtnpghnipjienoaaDoor
