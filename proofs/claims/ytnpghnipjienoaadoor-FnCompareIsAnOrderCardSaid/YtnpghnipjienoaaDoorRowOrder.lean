/-
  Proved here: the tied card of the law FnCompareIsAnOrder: whatever its arguments, a call of FnCompareIsAnOrder returns true and leaves each argument reading as it read, where the listed tables of Go's library hold what the program's text lays in them.
-/
import Derived.Test.YtnpghnipjienoaaDoorLaid
import Derived.Test.YtnpghnipjienoaaDoorLawOrder
import Derived.Test.YtnpghnipjienoaaDoorLaid5
import Derived.Test.YtnpghnipjienoaaDoorOpen
namespace Go.Proofs.YtnpghnipjienoaaDoor.fnCompareIsAnOrder
open Go Go.ChangeShapes Go.WideShapes Go.ChangeAt Go.RowKit Go.Joins Go.Deep


set_option maxHeartbeats 1000000 in
set_option maxRecDepth 100000 in
theorem contract (H : Type) (enc : TypeId × Value → H) (W : World) (base : Nat) (args : Array Value) (ds gs : List (DataW H)) (before : List MemPlace)
    (hval : ∀ (j : Nat) t v, Tryd.f10.params[j]? = some t → args[j]? = some v → Value.okWide Tryd.prog W .any base t v)
    (hW : DataW.Whole enc Tryd.prog Tryd.f10.params.toList Rows.fnCompareIsAnOrderSpec.vars false W args.toList ds gs before) (hL : laidMetH Tryd.prog Rows.fnCompareIsAnOrderRow.laid W) :
    Calls Tryd.prog 10 args W fun e W' => ∃ v, e = .returned v ∧ Rows.fnCompareIsAnOrderSpec.post enc Tryd.prog Tryd.f10 false true false false W args v W' := by
  have hW' := hW
  have hlt := fun p hp => hW'.lt p hp
  obtain ⟨p, q, hA0, hV, rfl, hfz, hnd⟩ := hW
  have hA : DataW.TrodAll enc Tryd.prog W 0 (fun _ => true) true Tryd.f10.params.toList args.toList ds p := hA0
  rw [Tryd.params10] at hA hval
  obtain ⟨v0, vs0, d0, ds0, p0, q0, hargs, rfl, rfl, h0, r0⟩ := trodAll_cons hA
  obtain ⟨v1, vs1, d1, ds1, p1, q1, rfl, rfl, rfl, h1, r1⟩ := trodAll_cons r0
  obtain ⟨v2, vs2, d2, ds2, p2, q2, rfl, rfl, rfl, h2, r2⟩ := trodAll_cons r1
  obtain ⟨rfl, rfl, rfl⟩ := trodAll_nil r2
  obtain rfl : args = #[v0, v1, v2] := by cases args; simp_all
  obtain ⟨rfl, rfl⟩ := trodVars_none hV
  clear hA0
  simp only [List.append_nil] at hW' hlt
  obtain ⟨A1, n1, c1, zs1, t1, rfl, hr1, hn1, ht1⟩ := open_version (hval 0 24 v0 rfl rfl) h0
  obtain ⟨A2, n2, c2, zs2, t2, rfl, hr2, hn2, ht2⟩ := open_version (hval 1 24 v1 rfl rfl) h1
  obtain ⟨A3, n3, c3, zs3, t3, rfl, hr3, hn3, ht3⟩ := open_version (hval 2 24 v2 rfl rfl) h2
  have hT := pow_of_laid5 hL
  have hS := sent_of_laid hL
  refine (orderLaw ⟨A1, n1, c1, zs1, t1⟩ ⟨A2, n2, c2, zs2, t2⟩ ⟨A3, n3, c3, zs3, t3⟩ W hr1 hr2 hr3 hn1 hn2 hn3 ht1 ht2 ht3 hS hT).mono fun e W' ⟨he, hg⟩ => ?_
  subst he
  have l0 : ∀ x ∈ p0, x.block < W.heap.size := fun x hx => hlt x (by simp [hx])
  have l1 : ∀ x ∈ p1, x.block < W.heap.size := fun x hx => hlt x (by simp [hx])
  have l2 : ∀ x ∈ p2, x.block < W.heap.size := fun x hx => hlt x (by simp [hx])
  exact ⟨_, rfl, post_of_below (pa := p0 ++ (p1 ++ p2)) (pv := []) hW' (fun _ _ _ => trodAll_cons_mk (shut_bool Tryd.underlying4 _) trodAll_mk0)
    (fun sp hsp => by
      have := trodAll_cons_mk (stays (by kernel_rfl) (of_decide_eq_true (by kernel_rfl)) h0 hg l0 sp (fun x hx => hsp x (by simp [hx]))) (trodAll_cons_mk (stays (by kernel_rfl) (of_decide_eq_true (by kernel_rfl)) h1 hg l1 sp (fun x hx => hsp x (by simp [hx])))
        (trodAll_cons_mk (stays (by kernel_rfl) (of_decide_eq_true (by kernel_rfl)) h2 hg l2 sp (fun x hx => hsp x (by simp [hx]))) trodAll_mk0))
      simp only [List.append_nil] at this
      exact this) (fun _ _ => rfl) (by simp)
    hg (ok_one (by kernel_rfl) rfl (okWide_bool_mk Tryd.underlying4 _))⟩

theorem reads (os : Os) {H : Type} (enc : TypeId × Value → H) : ∃ places, DataW.whole enc Tryd.prog ((World.doorLaid Tryd.prog 400 os).forCall (fun _ _ => 0) ⟨#[], #[.agg #[.slice none 0 0, .string ⟨#[]⟩], .agg #[.slice none 0 0, .string ⟨#[]⟩], .agg #[.slice none 0 0, .string ⟨#[]⟩]], []⟩).memory Tryd.f10.params.toList Rows.fnCompareIsAnOrderSpec.vars false (#[.agg #[.slice none 0 0, .string ⟨#[]⟩], .agg #[.slice none 0 0, .string ⟨#[]⟩], .agg #[.slice none 0 0, .string ⟨#[]⟩]] : Array Value).toList 8 = some ([.agg [.nil, .lit (.string [])], .agg [.nil, .lit (.string [])], .agg [.nil, .lit (.string [])]], [], places) :=
  ⟨[], by kernel_rfl⟩

set_option maxRecDepth 100000 in
theorem lifted (os : Os) (started : os.Started) (H : Type) (enc : TypeId × Value → H) (F : Stop.Interp) :
    ReturnsInHanded {} Tryd.checked os 10 .any ((OpenSpec.ofChange Rows.fnCompareIsAnOrderSpec).preRow enc Tryd.prog Tryd.f10 Rows.fnCompareIsAnOrderRow.domain false Rows.fnCompareIsAnOrderRow.laid) (((OpenSpec.ofChange Rows.fnCompareIsAnOrderSpec).at F).post enc Tryd.prog Tryd.f10 false true false false) := by
  obtain ⟨places, hx⟩ := reads os enc
  refine returnsInHanded_of_row (C := Tryd.checked) (s := OpenSpec.ofChange Rows.fnCompareIsAnOrderSpec) own started (by kernel_rfl) Tryd.func10
    (witness_row_atRef (enc := enc) (C := Tryd.checked) false (World.doorLaid Tryd.prog 400 os) #[.agg #[.slice none 0 0, .string ⟨#[]⟩], .agg #[.slice none 0 0, .string ⟨#[]⟩], .agg #[.slice none 0 0, .string ⟨#[]⟩]] rfl (by kernel_rfl) (by kernel_rfl) (by kernel_rfl)
      (OpenSpec.preRow_of_cond 8 hx (by kernel_rfl) (fun k hk => by cases hk) (by kernel_rfl) (door_met5 os _))) ?_
  intro W base args ds gs before hval hW _ _ _ hL _ _
  exact contract H enc W base args ds gs before hval hW hL

theorem said : Rows.FnCompareIsAnOrderSaid :=
  OpenClaim.holds_of_cond 10 Tryd.f10 rfl rfl rfl rfl rfl rfl rfl ⟨rfl, rfl, rfl, rfl, rfl⟩ rfl rfl rfl rfl rfl (by kernel_rfl) Tryd.func10 (by kernel_rfl)
    (of_decide_eq_true (by kernel_rfl)) (by unfold Func.isWrapper; first | (rw [if_pos (by decide +kernel)]; kernel_rfl) | (rw [if_neg (by decide +kernel)]; exact ⟨rfl, rfl⟩))
    (fun os started H enc _ F => by rw [OpenClaim.pre_eq_preRow]; exact lifted os started H enc F)

theorem plain (f : FuncId) (fn : Func) (hf : Tryd.pinned.checked.prog.funcNamed "enginesandpaths/laws.FnCompareIsAnOrder" = some f) (hfn : Tryd.pinned.checked.prog.funcs[f]? = some fn) :
    true = Tryd.pinned.checked.prog.looks [] ∧ ∀ (j : Nat) t, fn.params[j]? = some t → Tryd.pinned.checked.prog.wantsStandIn t = false := by
  obtain rfl : f = 10 := Option.some.inj ((show Tryd.prog.funcNamed "enginesandpaths/laws.FnCompareIsAnOrder" = some 10 by kernel_rfl).symm.trans hf) |>.symm
  obtain rfl : fn = Tryd.f10 := (Option.some.inj (Tryd.func10.symm.trans hfn)).symm
  refine ⟨by kernel_rfl, fun j t ht => ?_⟩
  rw [Tryd.params10] at ht
  have hm : t ∈ [24, 24, 24] := by simpa using Array.mem_of_getElem? ht
  have hall : ([24, 24, 24].all fun u => !Tryd.prog.wantsStandIn u) = true := by kernel_rfl
  exact (show Tryd.prog.wantsStandIn t = false by simpa using List.all_eq_true.1 hall t hm)

/-- THE CARD. -/
theorem card : Rows.FnCompareIsAnOrderCardSaid :=
  Claim7.holds_tied_plain_at .later [] _ _ _ _ said (fun _ h => by cases h) (by kernel_rfl) (fun _ h => by cases h) fnCompareIsAnOrder_row_tie rfl ⟨rfl, rfl⟩ (by kernel_rfl) rfl plain (by kernel_rfl)
end Go.Proofs.YtnpghnipjienoaaDoor.fnCompareIsAnOrder

