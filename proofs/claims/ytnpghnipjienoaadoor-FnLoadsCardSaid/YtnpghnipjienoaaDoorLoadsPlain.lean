/-
  Plain: the loader of a file by the endings of its name; a map filled from a list of endings. No program in sight.
-/
import Derived.Maps.Views
import Derived.Lib.Bytealg
import Derived.Lib.IndexLaws
import Derived.Test.YtnpghnipjienoaaDoorNum
namespace Go.Proofs.YtnpghnipjienoaaDoor
open Go Go.Maps

/-- The last loader of an ending. -/
def lastOf (ps : List (ByteArray × Int)) (e : List UInt8) : Option Int := ps.foldl (fun r p => if p.1.data.toList = e then some p.2 else r) none
theorem lastOf_snoc (ps : List (ByteArray × Int)) (p : ByteArray × Int) (e : List UInt8) : lastOf (ps ++ [p]) e = if p.1.data.toList = e then some p.2 else lastOf ps e := by simp [lastOf, List.foldl_append]

/-- The map that a list of endings fills. -/
def mapOf (ps : List (ByteArray × Int)) : DataW Unit := ps.foldl (fun m p => m.put (.string p.1.data.toList) (.lit (.int .u8 p.2))) (.map [])
theorem mapOf_snoc (ps : List (ByteArray × Int)) (p : ByteArray × Int) : mapOf (ps ++ [p]) = (mapOf ps).put (.string p.1.data.toList) (.lit (.int .u8 p.2)) := by simp [mapOf, List.foldl_append]

theorem mapOf_is (ps : List (ByteArray × Int)) : IsMap (mapOf ps) := by
  unfold mapOf
  have h : ∀ (l : List (ByteArray × Int)) (m : DataW Unit), IsMap m → IsMap (l.foldl (fun m p => m.put (.string p.1.data.toList) (.lit (.int .u8 p.2))) m) := by
    intro l
    induction l with
    | nil => exact fun _ h => h
    | cons x r ih => exact fun m h => ih _ (h.put _ _)
  exact h ps _ isMap_empty
theorem snoc_ind {α : Type} {P : List α → Prop} (h0 : P []) (h1 : ∀ l x, P l → P (l ++ [x])) (l : List α) : P l := by
  rw [← List.reverse_reverse l]
  induction l.reverse with
  | nil => exact h0
  | cons x r ih => rw [List.reverse_cons]; exact h1 _ _ ih
theorem mapOf_both (e : List UInt8) (ps : List (ByteArray × Int)) : Maps.has (mapOf ps) (.string e) = (lastOf ps e).isSome ∧ (mapOf ps).atKey (.string e) (.lit (.int .u8 0)) = .lit (.int .u8 ((lastOf ps e).getD 0)) := by
  refine snoc_ind (P := fun ps => Maps.has (mapOf ps) (.string e) = (lastOf ps e).isSome ∧ (mapOf ps).atKey (.string e) (.lit (.int .u8 0)) = .lit (.int .u8 ((lastOf ps e).getD 0))) ⟨rfl, rfl⟩ ?_ ps
  intro l x ⟨h1, h2⟩
  rw [mapOf_snoc, lastOf_snoc]
  by_cases he : x.1.data.toList = e
  · rw [if_pos he, he]
    exact ⟨has_put_same (mapOf_is l) (by trivial) _, atKey_put_same (mapOf_is l) (by trivial) _ _⟩
  · rw [if_neg he]
    have hne : (Lit.string e) ≠ .string x.1.data.toList := fun h => he (by injection h with h; exact h.symm)
    exact ⟨(has_put_other hne _).trans h1, (atKey_put_other hne _ _).trans h2⟩

/-- The first ending, from a point on, that has a loader. -/
def scan (F : List UInt8 → Option Int) : List UInt8 → Option Int
  | [] => none
  | c :: r => if c = 46 then (match F (c :: r) with | some n => some n | none => scan F r) else scan F r
/-- How a file is loaded. -/
def loads (F : List UInt8 → Option Int) (bs : List UInt8) : Int := if 46 ∈ bs then (scan F bs).getD 0 else (F []).getD 0

theorem scan_none (F : List UInt8 → Option Int) : ∀ bs : List UInt8, 46 ∉ bs → scan F bs = none
  | [], _ => rfl
  | c :: r, h => by
    have hc : c ≠ 46 := fun e => h (by rw [e]; exact List.mem_cons_self ..)
    rw [scan, if_neg hc]
    exact scan_none F r fun h' => h (List.mem_cons_of_mem _ h')
/-- Behind a part without a point. -/
theorem scan_drop (F : List UInt8 → Option Int) : ∀ (o : Nat) (bs : List UInt8), (∀ j, j < o → bs[j]? ≠ some 46) → scan F bs = scan F (bs.drop o)
  | 0, _, _ => by rw [List.drop_zero]
  | o + 1, [], _ => by simp
  | o + 1, c :: r, h => by
    have hc : c ≠ 46 := fun e => h 0 (by omega) (by rw [e]; rfl)
    rw [scan, if_neg hc, List.drop_succ_cons]
    exact scan_drop F o r fun j hj => by have := h (j + 1) (by omega); simpa using this
theorem scan_at (F : List UInt8 → Option Int) (bs : List UInt8) (o : Nat) (h : bs[o]? = some 46) : scan F (bs.drop o) = (F (bs.drop o)).or (scan F (bs.drop (o + 1))) := by
  have hl : o < bs.length := (List.getElem?_eq_some_iff.1 h).1
  have e : bs.drop o = 46 :: bs.drop (o + 1) := by
    rw [List.drop_eq_getElem_cons hl, (List.getElem?_eq_some_iff.1 h).2]
  rw [e, scan, if_pos rfl]
  cases F (46 :: bs.drop (o + 1)) <;> rfl
theorem indexByte_mem (bs : List UInt8) (o : Nat) (h : Lib.indexByte bs 46 = (o : Int)) : bs[o]? = some 46 ∧ o < bs.length ∧ 46 ∈ bs ∧ ∀ j, j < o → bs[j]? ≠ some 46 := by
  obtain ⟨h1, h2⟩ := Lib.indexByte_some h
  exact ⟨h1, (List.getElem?_eq_some_iff.1 h1).1, List.mem_of_getElem? h1, h2⟩
theorem indexByte_not (bs : List UInt8) (h : Lib.indexByte bs 46 = -1) : 46 ∉ bs := by
  intro hm
  obtain ⟨j, hj⟩ := List.getElem?_of_mem hm
  exact Lib.indexByte_none h j hj
end Go.Proofs.YtnpghnipjienoaaDoor
