/-
  Plain law: the comparison of two versions is a total preorder.
-/
import Derived.Lib.AtoiAll
import Derived.Lib.Strings
import Derived.Lib.Bytealg
import GoSem.Op.String
namespace Go.Proofs.YtnpghnipjienoaaDoor
open Go

/-- Three ways: less (negative), alike (zero), more (positive). -/
structure TotPre {α : Type} (f : α → α → Int) : Prop where
  anti : ∀ a b, f b a = - f a b
  trans : ∀ a b c, f a b ≤ 0 → f b c ≤ 0 → f a c ≤ 0 ∧ (f a c = 0 ↔ f a b = 0 ∧ f b c = 0)

def byKey {α : Type} (k : α → Int) : α → α → Int := fun a b => k a - k b
theorem TotPre.key {α : Type} (k : α → Int) : TotPre (byKey k) := ⟨fun a b => by unfold byKey; omega, fun a b c h1 h2 => by unfold byKey at *; omega⟩
def lexF {α : Type} (g h : α → α → Int) : α → α → Int := fun a b => if g a b = 0 then h a b else g a b
theorem TotPre.lex {α : Type} {g h : α → α → Int} (hg : TotPre g) (hh : TotPre h) : TotPre (lexF g h) := by
  refine ⟨fun a b => ?_, fun a b c h1 h2 => ?_⟩
  · have x := hg.anti a b
    have y := hh.anti a b
    unfold lexF
    by_cases e : g a b = 0
    · rw [if_pos e, if_pos (by omega), y]
    · rw [if_neg e, if_neg (by omega), x]
  · unfold lexF at *
    have x := hg.trans a b c
    have y := hh.trans a b c
    by_cases e1 : g a b = 0
    · rw [if_pos e1] at h1 ⊢
      by_cases e2 : g b c = 0
      · rw [if_pos e2] at h2 ⊢
        have z := (x (by omega) (by omega)).2.2 ⟨e1, e2⟩
        rw [if_pos z]
        exact y h1 h2
      · rw [if_neg e2] at h2 ⊢
        have z := x (by omega) h2
        have z' : g a c ≠ 0 := fun e => e2 (z.2.1 e).2
        rw [if_neg z']
        omega
    · rw [if_neg e1] at h1 ⊢
      have h2' : g b c ≤ 0 := by
        by_cases e2 : g b c = 0
        · omega
        · rw [if_neg e2] at h2; exact h2
      have z := x h1 h2'
      have z' : g a c ≠ 0 := fun e => e1 (z.2.1 e).1
      rw [if_neg z']
      omega
theorem TotPre.comap {α β : Type} {f : β → β → Int} (h : TotPre f) (k : α → β) : TotPre (fun a b => f (k a) (k b)) := ⟨fun _ _ => h.anti _ _, fun _ _ _ => h.trans _ _ _⟩

/-- Two lists, element by element; the shorter is less. -/
def listC {α : Type} (c : α → α → Int) : List α → List α → Int
  | [], [] => 0
  | [], _ :: _ => -1
  | _ :: _, [] => 1
  | a :: x, b :: y => if c a b = 0 then listC c x y else c a b
theorem TotPre.list {α : Type} {c : α → α → Int} (h : TotPre c) : TotPre (listC c) := by
  refine ⟨fun a => ?_, fun a => ?_⟩
  · induction a with
    | nil => intro b; cases b <;> simp [listC]
    | cons x r ih =>
      intro b
      cases b with
      | nil => simp [listC]
      | cons y s =>
        have e := h.anti x y
        have i := ih s
        unfold listC
        by_cases z : c x y = 0
        · rw [if_pos z, if_pos (by omega), i]
        · rw [if_neg z, if_neg (by omega), e]
  · induction a with
    | nil => intro b d; cases b <;> cases d <;> simp [listC]
    | cons x r ih =>
      intro b d
      cases b with
      | nil => simp [listC]
      | cons y s =>
        cases d with
        | nil => simp [listC]
        | cons z t =>
          intro h1 h2
          unfold listC at h1 h2 ⊢
          have hx := h.trans x y z
          have i := ih s t
          by_cases e1 : c x y = 0
          · rw [if_pos e1] at h1 ⊢
            by_cases e2 : c y z = 0
            · rw [if_pos e2] at h2 ⊢
              rw [if_pos ((hx (by omega) (by omega)).2.2 ⟨e1, e2⟩)]
              exact i h1 h2
            · rw [if_neg e2] at h2 ⊢
              have q := hx (by omega) h2
              have q' : c x z ≠ 0 := fun e => e2 (q.2.1 e).2
              rw [if_neg q']
              omega
          · rw [if_neg e1] at h1 ⊢
            have h2' : c y z ≤ 0 := by
              by_cases e2 : c y z = 0
              · omega
              · rw [if_neg e2] at h2; exact h2
            have q := hx h1 h2'
            have q' : c x z ≠ 0 := fun e => e1 (q.2.1 e).1
            rw [if_neg q']
            omega

/-! Words: bytes by number. -/
def byteC : UInt8 → UInt8 → Int := byKey fun c => (c.toNat : Int)
def wordC : List UInt8 → List UInt8 → Int := listC byteC
theorem byteC_zero {a b : UInt8} : byteC a b = 0 ↔ a = b := by
  rw [← UInt8.toNat_inj]
  show ((a.toNat : Int) - b.toNat = 0) ↔ _
  omega
theorem wordC_zero : ∀ {x y : List UInt8}, wordC x y = 0 → x = y
  | [], [], _ => rfl
  | [], _ :: _, h => by simp [wordC, listC] at h
  | _ :: _, [], h => by simp [wordC, listC] at h
  | a :: x, b :: y, h => by
    unfold wordC listC at h
    by_cases e : byteC a b = 0
    · rw [if_pos e] at h
      rw [byteC_zero.1 e, wordC_zero h]
    · rw [if_neg e] at h
      exact absurd h e
theorem wordC_self : ∀ (x : List UInt8), wordC x x = 0
  | [] => rfl
  | a :: x => by
    unfold wordC listC
    rw [if_pos (byteC_zero.2 rfl)]
    exact wordC_self x
theorem less_wordC : ∀ (x y : List UInt8), Op.bytesLess x y = true ↔ wordC x y < 0
  | [], [] => by simp [Op.bytesLess, wordC, listC]
  | [], _ :: _ => by simp [Op.bytesLess, wordC, listC]
  | _ :: _, [] => by simp [Op.bytesLess, wordC, listC]
  | a :: x, b :: y => by
    have ih := less_wordC x y
    unfold Op.bytesLess wordC listC
    unfold wordC at ih
    by_cases e : a = b
    · subst e
      rw [if_pos (byteC_zero.2 rfl), ← ih]
      have : ¬ a < a := UInt8.lt_irrefl a
      simp [this]
    · have e' : byteC a b ≠ 0 := fun h => e (byteC_zero.1 h)
      rw [if_neg e']
      simp [e, UInt8.lt_iff_toNat_lt, byteC, byKey]
      omega

/-! Numbers. -/
def isDigit (c : UInt8) : Bool := decide (48 ≤ c.toNat) && decide (c.toNat ≤ 57)
/-- What a head says as a number, if all its bytes are digits and an int holds it. -/
def numOf (l : List UInt8) : Option Int := if l.all isDigit then (match Lib.atoiAll l with | .ok v => some v | _ => none) else none

theorem parse_inj : ∀ (l1 l2 : List UInt8) (a1 a2 u : Nat), Lib.parseUint10 a1 l1 = .ok u → Lib.parseUint10 a2 l2 = .ok u → l1.length = l2.length → a1 = a2 ∧ l1 = l2
  | [], [], a1, a2, u, h1, h2, _ => by
    unfold Lib.parseUint10 at h1 h2
    injection h1 with h1
    injection h2 with h2
    exact ⟨h1.trans h2.symm, rfl⟩
  | [], _ :: _, _, _, _, _, _, h => by simp at h
  | _ :: _, [], _, _, _, _, _, h => by simp at h
  | c :: r, d :: s, a1, a2, u, h1, h2, hl => by
    unfold Lib.parseUint10 at h1 h2
    by_cases c1 : 48 ≤ c.toNat ∧ c.toNat ≤ 57
    · rw [if_pos c1] at h1
      by_cases d1 : 48 ≤ d.toNat ∧ d.toNat ≤ 57
      · rw [if_pos d1] at h2
        by_cases c2 : 1844674407370955162 ≤ a1
        · rw [if_pos c2] at h1; cases h1
        rw [if_neg c2] at h1
        by_cases d2 : 1844674407370955162 ≤ a2
        · rw [if_pos d2] at h2; cases h2
        rw [if_neg d2] at h2
        by_cases c3 : 18446744073709551616 ≤ a1 * 10 + (c.toNat - 48)
        · rw [if_pos c3] at h1; cases h1
        rw [if_neg c3] at h1
        by_cases d3 : 18446744073709551616 ≤ a2 * 10 + (d.toNat - 48)
        · rw [if_pos d3] at h2; cases h2
        rw [if_neg d3] at h2
        obtain ⟨e, er⟩ := parse_inj r s _ _ u h1 h2 (by simpa using hl)
        have : c.toNat = d.toNat := by omega
        exact ⟨by omega, by rw [er, UInt8.toNat_inj.1 this]⟩
      · rw [if_neg d1] at h2; cases h2
    · rw [if_neg c1] at h1; cases h1

theorem numOf_some {l : List UInt8} {v : Int} (h : numOf l = some v) : ∃ u : Nat, v = u ∧ u < 9223372036854775808 ∧ Lib.parseUint10 0 l = .ok u ∧ l.all isDigit = true ∧ Lib.atoiAll l = .ok v := by
  unfold numOf at h
  by_cases hd : l.all isDigit = true
  · rw [if_pos hd] at h
    cases l with
    | nil =>
      have h : (none : Option Int) = some v := h
      cases h
    | cons c r =>
      have hc : isDigit c = true := by simp at hd; exact hd.1
      unfold isDigit at hc
      simp at hc
      have n1 : ¬ (c.toNat = 43 ∨ c.toNat = 45) := by omega
      have n2 : ¬ c.toNat = 45 := by omega
      have hm : Lib.parseMag (c :: r) = Lib.parseUint10 0 (c :: r) := by unfold Lib.parseMag; rw [if_neg (by simp)]
      have ha : Lib.atoiAll (c :: r) = .ok v := by
        revert h
        cases Lib.atoiAll (c :: r) with
        | ok x => intro h; rw [Option.some.inj h]
        | _ => intro h; cases h
      have ha' := ha
      unfold Lib.atoiAll at ha'
      simp only [n1, if_false, hm] at ha'
      cases hp : Lib.parseUint10 0 (c :: r) with
      | ok u =>
        rw [hp] at ha'
        simp only [n2] at ha'
        by_cases hu : 9223372036854775808 ≤ u
        · rw [if_pos (by exact ⟨fun h => h, hu⟩)] at ha'; cases ha'
        · rw [if_neg (by exact fun h => hu h.2), if_neg (by exact fun h => h.1), if_neg (fun h => h)] at ha'
          injection ha' with ha'
          exact ⟨u, ha'.symm, by omega, rfl, hd, ha⟩
      | _ => rw [hp] at ha'; cases ha'
  · rw [if_neg hd] at h; cases h
theorem numOf_inj {l l' : List UInt8} {v : Int} (h : numOf l = some v) (h' : numOf l' = some v) (hl : l.length = l'.length) : l = l' := by
  obtain ⟨u, h1, _, h2, _⟩ := numOf_some h
  obtain ⟨u', h1', _, h2', _⟩ := numOf_some h'
  have e : u' = u := by omega
  rw [e] at h2'
  exact (parse_inj l l' 0 0 u h2 h2' hl).2

/-! Heads: numbers by value, then by length; other words above them, by bytes. -/
def headKind (l : List UInt8) : Int := if (numOf l).isSome then 0 else 1
def headVal (l : List UInt8) : Int := (numOf l).getD 0
def headLen (l : List UInt8) : Int := if (numOf l).isSome then l.length else 0
def headWord (l : List UInt8) : List UInt8 := if (numOf l).isSome then [] else l
def headC : List UInt8 → List UInt8 → Int := lexF (byKey headKind) (lexF (byKey headVal) (lexF (byKey headLen) (fun a b => wordC (headWord a) (headWord b))))
theorem headC_pre : TotPre headC := (TotPre.key _).lex ((TotPre.key _).lex ((TotPre.key _).lex ((TotPre.key _).list.comap _)))
theorem headC_self (x : List UInt8) : headC x x = 0 := by have := headC_pre.anti x x; omega

theorem head_nn {x y : List UInt8} (hx : numOf x = none) (hy : numOf y = none) : headC x y = wordC x y := by
  unfold headC lexF byKey headKind headVal headLen headWord
  simp [hx, hy]
theorem head_ss {x y : List UInt8} {a b : Int} (hx : numOf x = some a) (hy : numOf y = some b) : headC x y = if a - b = 0 then (x.length : Int) - y.length else a - b := by
  unfold headC lexF byKey headKind headVal headLen headWord
  simp only [hx, hy, Option.isSome_some, if_true, Option.getD_some, Int.sub_self]
  by_cases e : a - b = 0
  · rw [if_pos e, if_pos e]
    by_cases e2 : (x.length : Int) - y.length = 0
    · rw [if_pos e2, e2]; rfl
    · rw [if_neg e2]
  · rw [if_neg e, if_neg e]
theorem head_sn {x y : List UInt8} {a : Int} (hx : numOf x = some a) (hy : numOf y = none) : headC x y = -1 := by
  unfold headC lexF byKey headKind
  rw [hx, hy]
  simp
theorem head_ns {x y : List UInt8} {b : Int} (hx : numOf x = none) (hy : numOf y = some b) : headC x y = 1 := by
  unfold headC lexF byKey headKind
  rw [hx, hy]
  simp
theorem headC_zero {x y : List UInt8} (h : headC x y = 0) : x = y := by
  cases hx : numOf x with
  | none =>
    cases hy : numOf y with
    | none => rw [head_nn hx hy] at h; exact wordC_zero h
    | some b => rw [head_ns hx hy] at h; omega
  | some a =>
    cases hy : numOf y with
    | none => rw [head_sn hx hy] at h; omega
    | some b =>
      rw [head_ss hx hy] at h
      by_cases e : a - b = 0
      · rw [if_pos e] at h
        obtain rfl : a = b := by omega
        exact numOf_inj hx hy (by omega)
      · rw [if_neg e] at h; exact absurd h e

/-! Tails: their heads, one after another. -/
def headOf (l : List UInt8) : List UInt8 := l.takeWhile fun c => c != 46
def restOf (l : List UInt8) : List UInt8 := (l.dropWhile fun c => c != 46).drop 1
def headsF : Nat → List UInt8 → List (List UInt8)
  | 0, _ => []
  | _ + 1, [] => []
  | n + 1, c :: r => headOf (c :: r) :: headsF n (restOf (c :: r))
def heads (l : List UInt8) : List (List UInt8) := headsF l.length l
theorem drop_len (l : List UInt8) : (l.dropWhile fun c => c != 46).length ≤ l.length := by
  have h := congrArg List.length (List.takeWhile_append_dropWhile (p := fun c : UInt8 => c != 46) (l := l))
  rw [List.length_append] at h
  omega
theorem restOf_lt (c : UInt8) (r : List UInt8) : (restOf (c :: r)).length ≤ r.length := by
  unfold restOf
  have := drop_len (c :: r)
  rw [List.length_cons] at this
  rw [List.length_drop]
  omega
theorem headsF_eq : ∀ (n m : Nat) (l : List UInt8), l.length ≤ n → l.length ≤ m → headsF n l = headsF m l
  | 0, 0, _, _, _ => rfl
  | 0, m + 1, [], _, _ => rfl
  | 0, m + 1, c :: r, h, _ => by simp at h
  | n + 1, 0, [], _, _ => rfl
  | n + 1, 0, c :: r, _, h => by simp at h
  | n + 1, m + 1, [], _, _ => rfl
  | n + 1, m + 1, c :: r, h1, h2 => by
    have e := restOf_lt c r
    rw [List.length_cons] at h1 h2
    unfold headsF
    rw [headsF_eq n m _ (by omega) (by omega)]
theorem heads_nil : heads [] = [] := rfl
theorem heads_cons {l : List UInt8} (h : l ≠ []) : heads l = headOf l :: heads (restOf l) := by
  cases l with
  | nil => exact absurd rfl h
  | cons c r =>
    show headOf (c :: r) :: headsF r.length (restOf (c :: r)) = _
    rw [headsF_eq r.length (restOf (c :: r)).length _ (restOf_lt c r) (Nat.le_refl _)]
    rfl
def tailC : List UInt8 → List UInt8 → Int := fun s t => listC headC (heads s) (heads t)
theorem tailC_pre : TotPre tailC := headC_pre.list.comap heads
theorem tailC_step {s t : List UInt8} (hs : s ≠ []) (ht : t ≠ []) : tailC s t = if headC (headOf s) (headOf t) = 0 then tailC (restOf s) (restOf t) else headC (headOf s) (headOf t) := by
  unfold tailC
  rw [heads_cons hs, heads_cons ht]
  rfl
theorem tailC_nil_left {t : List UInt8} (ht : t ≠ []) : tailC [] t = -1 := by
  unfold tailC
  rw [heads_cons ht]
  rfl
theorem tailC_nil_right {s : List UInt8} (hs : s ≠ []) : tailC s [] = 1 := by
  unfold tailC
  rw [heads_cons hs]
  rfl
theorem tailC_nil : tailC [] [] = 0 := rfl

theorem index_no : ∀ {l : List UInt8}, Lib.indexByte l 46 = -1 → headOf l = l ∧ restOf l = []
  | [], _ => ⟨rfl, rfl⟩
  | c :: r, h => by
    unfold Lib.indexByte at h
    by_cases e : c = 46
    · subst e; simp at h
    · have e' : (c == 46) = false := by simp [e]
      rw [e'] at h
      by_cases e2 : Lib.indexByte r 46 = -1
      · obtain ⟨h1, h2⟩ := index_no e2
        unfold headOf at h1
        unfold restOf at h2
        unfold headOf restOf
        constructor
        · rw [List.takeWhile_cons_of_pos (by simp [e]), h1]
        · rw [List.dropWhile_cons_of_pos (by simp [e]), h2]
      · have := Lib.indexByte_ge r 46
        simp [e2] at h
        omega
theorem index_at : ∀ {l : List UInt8} {i : Nat}, Lib.indexByte l 46 = i → i < l.length ∧ headOf l = l.take i ∧ restOf l = l.drop (i + 1)
  | [], i, h => by unfold Lib.indexByte at h; omega
  | c :: r, i, h => by
    unfold Lib.indexByte at h
    by_cases e : c = 46
    · subst e
      simp at h
      obtain rfl : i = 0 := by omega
      refine ⟨by simp, by simp [headOf], by simp [restOf]⟩
    · have e' : (c == 46) = false := by simp [e]
      rw [e'] at h
      by_cases e2 : Lib.indexByte r 46 = -1
      · simp [e2] at h
      · have := Lib.indexByte_ge r 46
        simp [e2] at h
        obtain ⟨j, rfl⟩ : ∃ j, i = j + 1 := ⟨i - 1, by omega⟩
        obtain ⟨h1, h2, h3⟩ := index_at (l := r) (i := j) (by omega)
        unfold headOf at h2
        unfold restOf at h3
        unfold headOf restOf
        refine ⟨by simp; omega, ?_, ?_⟩
        · rw [List.takeWhile_cons_of_pos (by simp [e]), h2]; rfl
        · rw [List.dropWhile_cons_of_pos (by simp [e]), h3]; rfl

/-! Parts: the missing ones are zeros. -/
def intC : Int → Int → Int := byKey fun z => z
theorem intC_eq (a b : Int) : intC a b = a - b := rfl
theorem getD_out (l : List Int) (j : Nat) (h : l.length ≤ j) : l.getD j 0 = 0 := by rw [List.getD_eq_getElem?_getD, List.getElem?_eq_none h]; rfl
def pad (zs : List Int) : List Int := (List.range' 0 100).map fun i => zs.getD i 0
def partsC : List Int → List Int → Int := fun x y => listC intC (pad x) (pad y)
theorem partsC_pre : TotPre partsC := (TotPre.key _).list.comap pad
theorem range_same (f g : Nat → Int) : ∀ (n s : Nat), (∀ j, s ≤ j → j < s + n → f j = g j) → listC intC ((List.range' s n).map f) ((List.range' s n).map g) = 0
  | 0, _, _ => rfl
  | n + 1, s, h => by
    rw [List.range'_succ, List.map_cons, List.map_cons]
    unfold listC
    have e : intC (f s) (g s) = 0 := by have := h s (Nat.le_refl _) (by omega); rw [intC_eq]; omega
    rw [if_pos e]
    exact range_same f g n (s + 1) fun j h1 h2 => h j (by omega) (by omega)
theorem range_diff (f g : Nat → Int) (i : Nat) (hi : f i ≠ g i) : ∀ (n s : Nat), s ≤ i → i < s + n → (∀ j, s ≤ j → j < i → f j = g j) → listC intC ((List.range' s n).map f) ((List.range' s n).map g) = f i - g i
  | 0, _, h1, h2, _ => by omega
  | n + 1, s, h1, h2, h => by
    rw [List.range'_succ, List.map_cons, List.map_cons]
    unfold listC
    by_cases e : s = i
    · subst e
      have : intC (f s) (g s) ≠ 0 := by rw [intC_eq]; omega
      rw [if_neg this]
      rfl
    · have e2 : intC (f s) (g s) = 0 := by have := h s (Nat.le_refl _) (by omega); rw [intC_eq]; omega
      rw [if_pos e2]
      exact range_diff f g i hi n (s + 1) (by omega) (by omega) fun j h1 h2 => h j (by omega) h2
theorem partsC_same {x y : List Int} {n : Nat} (h1 : x.length ≤ n) (h2 : y.length ≤ n) (h : ∀ j, j < n → x.getD j 0 = y.getD j 0) : partsC x y = 0 := by
  refine range_same _ _ _ _ fun j _ _ => ?_
  by_cases hj : j < n
  · exact h j hj
  · rw [getD_out _ _ (by omega), getD_out _ _ (by omega)]
theorem partsC_diff {x y : List Int} {i : Nat} (hi : i < 100) (hne : x.getD i 0 ≠ y.getD i 0) (h : ∀ j, j < i → x.getD j 0 = y.getD j 0) : partsC x y = x.getD i 0 - y.getD i 0 :=
  range_diff _ _ i hne 100 0 (Nat.zero_le _) (by omega) fun j _ hj => h j hj

/-! Versions. -/
def presence (l : List UInt8) : Int := if l = [] then 1 else 0
def preC : List UInt8 → List UInt8 → Int := lexF (byKey presence) fun s t => tailC (Lib.trimPrefix s [45]) (Lib.trimPrefix t [45])
theorem preC_pre : TotPre preC := (TotPre.key _).lex (tailC_pre.comap _)
def verC : List Int × List UInt8 → List Int × List UInt8 → Int := lexF (fun a b => partsC a.1 b.1) (fun a b => preC a.2 b.2)
theorem verC_pre : TotPre verC := (partsC_pre.comap _).lex (preC_pre.comap _)
end Go.Proofs.YtnpghnipjienoaaDoor
