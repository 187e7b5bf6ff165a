/-
  Slices of structs of a string and an integer: what they read as; the contracts of the laws' zzFits4, zzFits5, zzFits7, zzFits8.
-/
import Derived.Test.YtnpghnipjienoaaDoorSpec
namespace Go.Proofs.YtnpghnipjienoaaDoor
open Go Go.RowKit

theorem below_call {B : Nat} {w wr w1 : World} (h : Below B w wr) (h1 : Below wr.heap.size wr w1) (hB : B ≤ w.heap.size) : Below B w w1 := h.trans (h1.mono (Nat.le_trans hB h.size))
theorem below_alloc {B : Nat} {w wr : World} (h : Below B w wr) (hB : B ≤ w.heap.size) (o : Obj) : Below B w (wr.alloc o) := h.alloc (Nat.le_trans hB h.size) o

/-- The slice value '.slice A n c' holds n structs of a string and an integer of kind q, below block B. -/
def Parts (q : IntKind) (w : World) (B : Nat) (A : Option Addr) (n : Nat) (ps : List (ByteArray × Int)) : Prop :=
  ps.length = n ∧ (0 < n → ∃ b o, A = some ⟨b, o, none⟩ ∧ b < B ∧ ∀ j p, ps[j]? = some p → w.cell? ⟨b, o + j * 2, none⟩ = some (.string p.1) ∧ w.cell? ⟨b, o + j * 2 + 1, none⟩ = some (.int q p.2))

section
variable {q : IntKind} {w w' : World} {B B' n : Nat} {A : Option Addr} {ps : List (ByteArray × Int)}
theorem Parts.keep (h : Parts q w B A n ps) (hk : ∀ p : Addr, p.block < B → w'.cell? p = w.cell? p) : Parts q w' B A n ps :=
  ⟨h.1, fun hn => by
    obtain ⟨b, o, e, hb, hc⟩ := h.2 hn
    exact ⟨b, o, e, hb, fun j p hp => ⟨(hk ⟨b, _, none⟩ hb).trans (hc j p hp).1, (hk ⟨b, _, none⟩ hb).trans (hc j p hp).2⟩⟩⟩
theorem Parts.below (h : Parts q w B A n ps) (hb : Below B w w') : Parts q w' B A n ps := h.keep fun _ hp => hb.cell hp
theorem Parts.more (h : Parts q w B A n ps) (hB : B ≤ B') : Parts q w B' A n ps :=
  ⟨h.1, fun hn => by
    obtain ⟨b, o, e, hb, hc⟩ := h.2 hn
    exact ⟨b, o, e, by omega, hc⟩⟩
theorem Parts.at_ {k : Nat} (h : Parts q w B A n ps) (hk : k < n) :
    ∃ b o s z, A = some ⟨b, o, none⟩ ∧ b < B ∧ ps[k]? = some (s, z) ∧ w.cell? ⟨b, o + k * 2, none⟩ = some (.string s) ∧ w.cell? ⟨b, o + k * 2 + 1, none⟩ = some (.int q z) := by
  obtain ⟨b, o, e, hb, hc⟩ := h.2 (by omega)
  have hp : ps[k]? = some (ps[k]'(by have := h.1; omega)) := List.getElem?_eq_getElem (by have := h.1; omega)
  exact ⟨b, o, _, _, e, hb, hp, (hc k _ hp).1, (hc k _ hp).2⟩
end

/-- The cells of such structs, one behind the other. -/
def flat (q : IntKind) (ps : List (ByteArray × Int)) : List Value := ps.flatMap fun p => [Value.string p.1, Value.int q p.2]
theorem flat_snoc (q : IntKind) (ps : List (ByteArray × Int)) (p : ByteArray × Int) : flat q (ps ++ [p]) = flat q ps ++ [.string p.1, .int q p.2] := by simp [flat]
theorem flat_length (q : IntKind) (ps : List (ByteArray × Int)) : (flat q ps).length = ps.length * 2 := by
  induction ps with
  | nil => rfl
  | cons p r ih => simp only [flat, List.flatMap_cons, List.length_append, List.length_cons, List.length_nil] at ih ⊢; omega
theorem flat_at (q : IntKind) (ps : List (ByteArray × Int)) : ∀ (j : Nat) (p : ByteArray × Int), ps[j]? = some p → (flat q ps)[j * 2]? = some (.string p.1) ∧ (flat q ps)[j * 2 + 1]? = some (.int q p.2) := by
  induction ps with
  | nil => intro j p h; simp at h
  | cons x r ih =>
    intro j p h
    cases j with
    | zero => simp at h; subst h; exact ⟨rfl, rfl⟩
    | succ j =>
      have := ih j p (by simpa using h)
      rw [show (j + 1) * 2 = j * 2 + 1 + 1 by omega]
      exact this

theorem Parts.of_own {q : IntKind} {w : World} {base n c : Nat} {e : TypeId} {A : Option Addr} {ps : List (ByteArray × Int)} (h : w.ownsRow base e 2 (.slice A n c) n (flat q ps)) (hn : ps.length = n) : Parts q w w.heap.size A n ps := by
  refine ⟨hn, fun h0 => ?_⟩
  obtain ⟨g, cap, hv, _, hlt⟩ := h.form h0
  obtain rfl : A = some ⟨g, 0, none⟩ := by injection hv
  refine ⟨g, 0, rfl, hlt, fun j p hp => ?_⟩
  obtain ⟨h1, h2⟩ := flat_at q ps j p hp
  have hc := h.cells (g := g) rfl
  have e0 : ∀ i, (⟨g, 0, none⟩ : Addr).add i = ⟨g, 0 + i, none⟩ := fun i => by
    unfold Addr.add
    split
    · next h => subst h; rfl
    · rfl
  have a := hc _ _ h1
  have b := hc _ _ h2
  rw [e0] at a b
  exact ⟨a, by rw [Nat.add_assoc]; exact b⟩

/-- All texts are not longer than the bound, and there are not more parts. -/
def fitsP (ps : List (ByteArray × Int)) : Bool := ps.all (fun p => decide (p.1.size ≤ 2147483647)) && decide (ps.length ≤ 2147483647)
theorem fitsP_iff (ps : List (ByteArray × Int)) : fitsP ps = true ↔ (∀ p ∈ ps, p.1.size ≤ 2147483647) ∧ ps.length ≤ 2147483647 := by simp [fitsP]

theorem zzFits5_any (s : ByteArray) (z : Int) (w : World) (hs : s.size ≤ 9223372036854775807) :
    Calls Tryd.prog 35 #[.agg #[.string s, .int .i64 z]] w fun e w' => e = .returned (.bool (decide (s.size ≤ 2147483647))) ∧ Below w.heap.size w w' := by
  by_cases h1 : 2147483647 < s.size
  · go_enter Tryd.func35, Tryd.ntmps35
    go_wp2_with fail
    go_ret
    exact ⟨ret_bool (by rw [decide_eq_false (by omega)]), (Below.refl _ _).alloc (Nat.le_refl _) _⟩
  · go_enter Tryd.func35, Tryd.ntmps35
    go_wp2_with fail
    go_ret
    exact ⟨ret_bool (by rw [decide_eq_true (by omega)]), (Below.refl _ _).alloc (Nat.le_refl _) _⟩

set_option maxHeartbeats 1000000 in
set_option maxRecDepth 100000 in
theorem zzFits4_any (A : Option Addr) (n c : Nat) (ps : List (ByteArray × Int)) (w : World) (hr : Parts .i64 w w.heap.size A n ps) (hn : n ≤ 9223372036854775807) (hsz : ∀ p ∈ ps, p.1.size ≤ 9223372036854775807) :
    Calls Tryd.prog 17 #[.slice A n c] w fun e w' => e = .returned (.bool (fitsP ps)) ∧ Below w.heap.size w w' := by
  have HL := Lib.hid hr.1
  by_cases hbig : 2147483647 < n
  · go_enter Tryd.func17, Tryd.ntmps17
    go_wp2_with fail
    go_ret
    exact ⟨ret_bool (by rw [Eq.comm, Bool.eq_false_iff, ne_eq, fitsP_iff]; intro h; have := h.2; have := HL.out; omega), Below.refl _ _⟩
  · go_enter Tryd.func17, Tryd.ntmps17
    go_wp2_with fail
    go_loopw [10] (fun i wr => ∃ k : Nat, k ≤ n ∧ i = .int .i64 k ∧ Below w.heap.size w wr ∧ ∀ p ∈ ps.take k, p.1.size ≤ 2147483647) (fun i _ => n - (intOf i).toNat)
    case atStart => exact ⟨0, Nat.zero_le _, rfl, Below.refl _ _, by simp⟩
    case round =>
      obtain ⟨k, hk, rfl, hbel, hall⟩ := hrel
      have HA := Lib.hid hall
      clear hall
      by_cases hlt : k < n
      · obtain ⟨b, o, s, z, rfl, hab, hp, h1, h2⟩ := hr.at_ hlt
        have hm : (s, z) ∈ ps := List.mem_of_getElem? hp
        have hs := hsz _ hm
        have h1' : wr.cell? ⟨b, o + k * 2, none⟩ = some (.string s) := by rw [hbel.cell (by exact hab)]; exact h1
        have h2' : wr.cell? ⟨b, o + k * 2 + 1, none⟩ = some (.int .i64 z) := by rw [hbel.cell (by exact hab)]; exact h2
        have HS : Hid (ps.take (k + 1) = ps.take k ++ [(s, z)]) := by
          show _ = _
          rw [List.take_add_one, hp]; rfl
        have HM := Lib.hid hm
        clear h1 h2 hp hm
        have hbs := hbel.size
        by_cases hbs : 2147483647 < s.size
        · go_wp2_with fail
          refine (zzFits5_any s z _ hs).mono ?_
          rw [decide_eq_false (show ¬ s.size ≤ 2147483647 by omega)]
          rintro e w1 ⟨rfl, hb1⟩
          go_wp2_with fail
          go_ret
          exact ⟨ret_bool (by rw [Eq.comm, Bool.eq_false_iff, ne_eq, fitsP_iff]; intro h; have := h.1 _ HM.out; simp at this; omega), below_call (below_alloc hbel (Nat.le_refl _) _) hb1 (Nat.le_refl _)⟩
        · go_wp2_with fail
          refine (zzFits5_any s z _ hs).mono ?_
          rw [decide_eq_true (show s.size ≤ 2147483647 by omega)]
          rintro e w1 ⟨rfl, hb1⟩
          go_wp2_with fail
          go_roundw
          case rel =>
            refine ⟨k + 1, by omega, by go_num, below_call (below_alloc hbel (Nat.le_refl _) _) hb1 (Nat.le_refl _), fun p hp => ?_⟩
            rw [HS.out, List.mem_append, List.mem_singleton] at hp
            rcases hp with hp | rfl
            · exact HA.out p hp
            · show s.size ≤ _; omega
          case measure => simp [intOf]; omega
      · obtain rfl : k = n := by omega
        go_wp2_with fail
        go_ret
        refine ⟨ret_bool ?_, hbel⟩
        rw [Eq.comm, fitsP_iff]
        have := HL.out
        have h := HA.out
        rw [List.take_of_length_le (by omega)] at h
        exact ⟨h, by omega⟩
end Go.Proofs.YtnpghnipjienoaaDoor
