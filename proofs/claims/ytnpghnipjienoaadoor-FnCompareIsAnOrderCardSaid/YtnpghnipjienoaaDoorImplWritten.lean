/-
  The contract of impl.Written, and of the laws' wakes.
-/
import Derived.Test.YtnpghnipjienoaaDoorWritten
namespace Go.Proofs.YtnpghnipjienoaaDoor
open Go Go.RowKit Go.Sort

set_option maxHeartbeats 1000000 in
set_option maxRecDepth 100000 in
theorem impl_Written (A : Option Addr) (n c : Nat) (ps : List (ByteArray × Int)) (w : World) (hr : Parts .i64 w w.heap.size A n ps) (hn : n ≤ 2147483647) (hz : ∀ p ∈ ps, 0 ≤ p.2 ∧ p.2 ≤ 4) (hT : (writtenT ps).length ≤ 70368744177664) :
    Calls Tryd.prog 20 #[.slice A n c] w fun e w' => e = .returned (.string ⟨(writtenT ps).toArray⟩) ∧ Below w.heap.size w w' := by
  obtain ⟨i0, hi0, hz0, hz1, hz2⟩ := info_parts info75
  have HL := Lib.hid hr.1
  have HZ := Lib.hid hz
  have HT := Lib.hid hT
  clear hz hT
  go_enter Tryd.func20, Tryd.ntmps20
  go_wp2_with fail
  go_loopw [3, 8] (fun v i wr => ∃ (k : Nat) (A' : Option Addr) (c' : Nat), k ≤ n ∧ i = .int .i64 k ∧ v = .slice A' k c' ∧ wr.ownsRow w.heap.size 75 2 (.slice A' k c') k (flat .u8 (ps.take k)) ∧ Below w.heap.size w wr) (fun _ i _ => n - (intOf i).toNat)
  case atStart => exact ⟨0, none, 0, Nat.zero_le _, rfl, rfl, World.ownsRow_nil _ _ _ _, Below.refl _ _⟩
  case round =>
    obtain ⟨k, A', c', hk, rfl, rfl, hown, hbel⟩ := hrel
    by_cases hlt : k < n
    · obtain ⟨b, o, s, z, rfl, hab, hp, h1, h2⟩ := hr.at_ hlt
      obtain ⟨hzl, hzh⟩ := HZ.out _ (List.mem_of_getElem? hp)
      simp only at hzl hzh
      have h1' : wr.cell? ⟨b, o + k * 2, none⟩ = some (.string s) := by rw [hbel.cell (by exact hab)]; exact h1
      have h2' : wr.cell? ⟨b, o + k * 2 + 1, none⟩ = some (.int .i64 z) := by rw [hbel.cell (by exact hab)]; exact h2
      have HS : Hid (ps.take (k + 1) = ps.take k ++ [(s, z)]) := by
        show _ = _
        rw [List.take_add_one, hp]; rfl
      clear h1 h2 hp
      have hws := hbel.size
      have hwrap : IntKind.u8.wrap z = z := IntWalk.u8_in z (by omega)
      go_wp2_with (at_builtin; refine wpList_append_own _ rfl _ _ 72 rfl w.heap.size 75 i0 _ 2 24 Tryd.underlying72 hi0 hz0 hz1 hz2 rfl (by decide) _ _ _ rfl ((hown.alloc _).alloc _) ⟨wr.heap.size + 1, 0, none⟩ 1 1 [.string s, .int .u8 z] rfl rfl ?c1 ?c2 ?c3 ?c4 ?c5 ?_)
      case c1 => exact news2' _ _ _ _ _
      case c2 => intro u hu; simp at hu; rcases hu with rfl | rfl <;> rfl
      case c3 => unfold maxLen; omega
      case c4 => omega
      case c5 => simp; omega
      intro v' w1 hown' hgrow _
      obtain ⟨A1, c1, rfl⟩ := own_shape hown'
      go_wp2
      go_roundw
      case rel =>
        refine ⟨k + 1, A1, c1, by omega, by go_num, rfl, ?_, ?_⟩
        · rw [HS.out, flat_snoc]; exact hown'
        · exact (below_alloc (below_alloc hbel (Nat.le_refl _) _) (Nat.le_refl _) _).grown hgrow (by simp; omega) (fun g hg => (hown.lt g hg).1)
      case measure => simp [intOf]; omega
    · obtain rfl : k = n := by omega
      rw [List.take_of_length_le (by have := HL.out; omega)] at hown
      have HP := Lib.hid (Parts.of_own hown HL.out)
      clear hown
      go_wp2_with fail
      refine (template_String A' k c' ps _ HP.out hn HZ.out HT.out).mono ?_
      rintro e w2 ⟨rfl, hb2⟩
      go_wp2_with fail
      go_ret
      exact ⟨rfl, below_call hbel hb2 (Nat.le_refl _)⟩

theorem Reads.new (w : World) (xs : List Value) (t : TypeId) : Reads (w.alloc (.cells xs.toArray t)) (w.alloc (.cells xs.toArray t)).heap.size 1 (some ⟨w.heap.size, 0, none⟩) xs.length xs := by
  refine ⟨by simp, fun _ => ⟨_, rfl, by simp, fun j u hu => ?_⟩⟩
  exact World.news_of_block (cs := xs.toArray) (t := t) (fr := (0, 0)) (heap_alloc_new w _) j u (by simpa using hu)
theorem Parts.new (w : World) (q : IntKind) (s : ByteArray) (z : Int) (t : TypeId) : Parts q (w.alloc (.cells #[.string s, .int q z] t)) (w.alloc (.cells #[.string s, .int q z] t)).heap.size (some ⟨w.heap.size, 0, none⟩) 1 [(s, z)] := by
  refine ⟨rfl, fun _ => ⟨_, _, rfl, by simp, fun j p hp => ?_⟩⟩
  match j, hp with
  | 0, hp =>
    simp at hp; subst hp
    exact ⟨Lib.cell_of_heap (heap_alloc_new w _) 0, Lib.cell_of_heap (heap_alloc_new w _) 1⟩
  | j + 1, hp => simp at hp

theorem written12 : written [1, 2] ({ data := #[45, 120] } : ByteArray).data.toList = [49, 46, 50, 45, 120] := by
  have a := decDigits_small 1 (by omega)
  have b := decDigits_small 2 (by omega)
  have c : Lib.itoa 1 = Lib.decDigits 1 := rfl
  have d : Lib.itoa 2 = Lib.decDigits 2 := rfl
  simp [written, dotted, c, d, a, b]

set_option maxHeartbeats 1000000 in
set_option maxRecDepth 100000 in
/-- laws.wakes: package impl writes one simple version, and one simple template. -/
theorem wakes_any (w : World) (hT : Lib.TabIs Tryd.prog w "internal/strconv.uint64pow10" .u64 Lib.pow10Tab) :
    Calls Tryd.prog 13 #[] w fun e w' => e = .returned (.bool true) ∧ Below w.heap.size w w' := by
  go_enter Tryd.func13, Tryd.ntmps13
  go_wp2_with fail
  have hb0 : Below w.heap.size w (w.alloc (.cells #[.int .i64 1, .int .i64 2] 3)) := (Below.refl _ _).alloc (Nat.le_refl _) _
  refine (impl_Text _ 2 2 [1, 2] ⟨#[45, 120]⟩ _ (Reads.new w (ints [1, 2]) 3) (by simp) (by omega) (by decide) (tabOn hT hb0 (Nat.le_refl _))).mono ?_
  rw [written12]
  rintro e w1 ⟨rfl, hb1⟩
  have hb1' := below_call hb0 hb1 (Nat.le_refl _)
  clear hb1
  go_wp2_with fail
  have hb2 := below_alloc hb1' (Nat.le_refl _) (.cells #[.string ⟨#[97]⟩, .int .i64 1] 58)
  refine (impl_Written _ 1 1 [(⟨#[97]⟩, 1)] _ (Parts.new w1 .i64 ⟨#[97]⟩ 1 58) (by omega) (by simp) (by decide)).mono ?_
  rw [show writtenT [((⟨#[97]⟩ : ByteArray), (1 : Int))] = [97, 91, 100, 105, 114, 93] from rfl]
  rintro e w3 ⟨rfl, hb3⟩
  have hb4 := below_call hb2 hb3 (Nat.le_refl _)
  clear hb3
  go_wp2_with fail
  go_ret
  exact ⟨rfl, hb4⟩
end Go.Proofs.YtnpghnipjienoaaDoor
