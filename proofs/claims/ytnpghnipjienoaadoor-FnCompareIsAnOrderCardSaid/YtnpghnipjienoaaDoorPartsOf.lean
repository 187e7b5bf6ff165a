/-
  The contracts of the laws' parts and of package spec's IsTemplate.
-/
import Derived.Test.YtnpghnipjienoaaDoorPairs
namespace Go.Proofs.YtnpghnipjienoaaDoor
open Go Go.RowKit

theorem info71 : (Tryd.prog.info? 71).map (fun i => (i.zero, i.size, i.bytes)) = some (some (.agg #[.string ⟨#[]⟩, .int .i64 0]), 2, 24) := by kernel_rfl
theorem news2' (w : World) (v0 v1 : Value) (t : TypeId) (o : Obj) : ∀ j u, [v0, v1][j]? = some u → ((w.alloc o).alloc (.cells #[v0, v1] t)).cell? ((⟨w.heap.size + 1, 0, none⟩ : Addr).add j) = some u := by
  have h := World.news_of_block (cs := #[v0, v1]) (t := t) (fr := (0, 0)) (heap_alloc_new (w.alloc o) (.cells #[v0, v1] t))
  have e : (w.alloc o).heap.size = w.heap.size + 1 := by simp
  rw [e] at h
  exact h
theorem news2 (w : World) (v0 v1 : Value) (t : TypeId) : ∀ j u, [v0, v1][j]? = some u → (w.alloc (.cells #[v0, v1] t)).cell? ((⟨w.heap.size, 0, none⟩ : Addr).add j) = some u :=
  World.news_of_block (cs := #[v0, v1]) (t := t) (fr := (0, 0)) (heap_alloc_new w _)

theorem own_shape {w : World} {base n size : Nat} {e : TypeId} {v : Value} {xs : List Value} (h : w.ownsRow base e size v n xs) : ∃ A c, v = .slice A n c := by
  rcases h.2 with ⟨hv, h0⟩ | ⟨g, cap, cur, hv, _⟩
  · exact ⟨_, _, by rw [hv, h0]⟩
  · exact ⟨_, _, hv⟩

set_option maxHeartbeats 1000000 in
set_option maxRecDepth 100000 in
theorem parts_any (A : Option Addr) (n c : Nat) (ps : List (ByteArray × Int)) (w : World) (hr : Parts .i64 w w.heap.size A n ps) (hn : n ≤ 2147483647) :
    Calls Tryd.prog 19 #[.slice A n c] w fun e w' => ∃ A' c', e = .returned (.slice A' n c') ∧ Parts .i64 w' w'.heap.size A' n ps ∧ Below w.heap.size w w' := by
  obtain ⟨i0, hi0, hz0, hz1, hz2⟩ := info_parts info71
  have HL := Lib.hid hr.1
  go_enter Tryd.func19, Tryd.ntmps19
  go_wp2_with fail
  go_loopw [3, 8] (fun v i wr => ∃ (k : Nat) (A' : Option Addr) (c' : Nat), k ≤ n ∧ i = .int .i64 k ∧ v = .slice A' k c' ∧ wr.ownsRow w.heap.size 71 2 (.slice A' k c') k (flat .i64 (ps.take k)) ∧ Below w.heap.size w wr) (fun _ i _ => n - (intOf i).toNat)
  case atStart => exact ⟨0, none, 0, Nat.zero_le _, rfl, rfl, World.ownsRow_nil _ _ _ _, Below.refl _ _⟩
  case round =>
    obtain ⟨k, A', c', hk, rfl, rfl, hown, hbel⟩ := hrel
    by_cases hlt : k < n
    · obtain ⟨b, o, s, z, rfl, hab, hp, h1, h2⟩ := hr.at_ hlt
      have h1' : wr.cell? ⟨b, o + k * 2, none⟩ = some (.string s) := by rw [hbel.cell (by exact hab)]; exact h1
      have h2' : wr.cell? ⟨b, o + k * 2 + 1, none⟩ = some (.int .i64 z) := by rw [hbel.cell (by exact hab)]; exact h2
      have HS : Hid (ps.take (k + 1) = ps.take k ++ [(s, z)]) := by
        show _ = _
        rw [List.take_add_one, hp]; rfl
      clear h1 h2 hp
      have hws := hbel.size
      go_wp2_with (at_builtin; refine wpList_append_own _ rfl _ _ 35 rfl w.heap.size 71 i0 _ 2 24 Tryd.underlying35 hi0 hz0 hz1 hz2 rfl (by decide) _ _ _ rfl ((hown.alloc _).alloc _) ⟨wr.heap.size + 1, 0, none⟩ 1 1 [.string s, .int .i64 z] rfl rfl ?c1 ?c2 ?c3 ?c4 ?c5 ?_)
      case c1 => exact news2' _ _ _ _ _
      case c2 => intro u hu; simp at hu; rcases hu with rfl | rfl <;> rfl
      case c3 => unfold maxLen; omega
      case c4 => omega
      case c5 => simp; omega
      intro v' w1 hown' hgrow _
      obtain ⟨A1, c1, rfl⟩ := own_shape hown'
      go_wp2
      go_roundw
      case rel =>
        refine ⟨k + 1, A1, c1, by omega, by go_num, rfl, ?_, ?_⟩
        · rw [HS.out, flat_snoc]; exact hown'
        · exact (below_alloc (below_alloc hbel (Nat.le_refl _) _) (Nat.le_refl _) _).grown hgrow (by simp; omega) (fun g hg => (hown.lt g hg).1)
      case measure => simp [intOf]; omega
    · obtain rfl : k = n := by omega
      go_wp2
      go_ret
      refine ⟨A', c', rfl, ?_, hbel⟩
      have := HL.out
      rw [List.take_of_length_le (by omega)] at hown
      exact Parts.of_own hown HL.out

/-- spec.IsTemplate: all kinds are from 0 to 4, no text is longer than 1000, and there are at most 1000 parts. -/
def okTpl (ps : List (ByteArray × Int)) : Bool := ps.all (fun p => decide (0 ≤ p.2) && decide (p.2 ≤ 4) && decide (p.1.size ≤ 1000)) && decide (ps.length ≤ 1000)
theorem okTpl_iff (ps : List (ByteArray × Int)) : okTpl ps = true ↔ (∀ p ∈ ps, 0 ≤ p.2 ∧ p.2 ≤ 4 ∧ p.1.size ≤ 1000) ∧ ps.length ≤ 1000 := by
  simp [okTpl, and_assoc]
theorem okTpl_not {ps : List (ByteArray × Int)} {p : ByteArray × Int} (hm : p ∈ ps) (h : ¬ (0 ≤ p.2 ∧ p.2 ≤ 4 ∧ p.1.size ≤ 1000)) : false = okTpl ps := by
  rw [Eq.comm, Bool.eq_false_iff, ne_eq, okTpl_iff]
  exact fun x => h (x.1 p hm)

set_option maxHeartbeats 1000000 in
set_option maxRecDepth 100000 in
theorem isTemplate_any (A : Option Addr) (n c : Nat) (ps : List (ByteArray × Int)) (w : World) (hr : Parts .i64 w w.heap.size A n ps) (hn : n ≤ 2147483647) (hsz : ∀ p ∈ ps, p.1.size ≤ 2147483647) :
    Calls Tryd.prog 18 #[.slice A n c] w fun e w' => e = .returned (.bool (okTpl ps)) ∧ Below w.heap.size w w' := by
  have HL := Lib.hid hr.1
  go_enter Tryd.func18, Tryd.ntmps18
  go_wp2_with fail
  go_loopw [7] (fun i wr => ∃ k : Nat, k ≤ n ∧ i = .int .i64 k ∧ Below w.heap.size w wr ∧ ∀ p ∈ ps.take k, 0 ≤ p.2 ∧ p.2 ≤ 4 ∧ p.1.size ≤ 1000) (fun i _ => n - (intOf i).toNat)
  case atStart => exact ⟨0, Nat.zero_le _, rfl, Below.refl _ _, by simp⟩
  case round =>
    obtain ⟨k, hk, rfl, hbel, hall⟩ := hrel
    have HA := Lib.hid hall
    clear hall
    by_cases hlt : k < n
    · obtain ⟨b, o, s, z, rfl, hab, hp, h1, h2⟩ := hr.at_ hlt
      have hm : (s, z) ∈ ps := List.mem_of_getElem? hp
      have hs := hsz _ hm
      have h1' : wr.cell? ⟨b, o + k * 2, none⟩ = some (.string s) := by rw [hbel.cell (by exact hab)]; exact h1
      have h2' : wr.cell? ⟨b, o + k * 2 + 1, none⟩ = some (.int .i64 z) := by rw [hbel.cell (by exact hab)]; exact h2
      have HS : Hid (ps.take (k + 1) = ps.take k ++ [(s, z)]) := by
        show _ = _
        rw [List.take_add_one, hp]; rfl
      have HM := Lib.hid hm
      clear h1 h2 hp hm
      have hbs := hbel.size
      by_cases c1 : z < 0
      · go_wp2_with fail
        go_ret
        exact ⟨ret_bool (okTpl_not HM.out (by simp; omega)), below_alloc hbel (Nat.le_refl _) _⟩
      · by_cases c2 : 4 < z
        · go_wp2_with fail
          go_ret
          exact ⟨ret_bool (okTpl_not HM.out (by simp; omega)), below_alloc hbel (Nat.le_refl _) _⟩
        · by_cases c3 : 1000 < s.size
          · go_wp2_with fail
            go_ret
            exact ⟨ret_bool (okTpl_not HM.out (by simp; omega)), below_alloc hbel (Nat.le_refl _) _⟩
          · go_wp2_with fail
            go_roundw
            case rel =>
              refine ⟨k + 1, by omega, by go_num, below_alloc hbel (Nat.le_refl _) _, fun p hp => ?_⟩
              rw [HS.out, List.mem_append, List.mem_singleton] at hp
              rcases hp with hp | rfl
              · exact HA.out p hp
              · exact ⟨by simp; omega, by simp; omega, by simp; omega⟩
            case measure => simp [intOf]; omega
    · obtain rfl : k = n := by omega
      go_wp2_with fail
      go_ret
      refine ⟨ret_bool ?_, hbel⟩
      have := HL.out
      have h := HA.out
      rw [List.take_of_length_le (by omega)] at h
      rw [Bool.eq_iff_iff, okTpl_iff, HL.out]
      simp only [decide_eq_true_eq]
      exact ⟨fun x => ⟨h, by omega⟩, fun x => by omega⟩
end Go.Proofs.YtnpghnipjienoaaDoor
