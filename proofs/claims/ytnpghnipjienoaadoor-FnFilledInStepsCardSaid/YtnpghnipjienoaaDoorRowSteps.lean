/-
  Proved here: the tied card of the law FnFilledInSteps: whatever its arguments, a call of FnFilledInSteps returns true and leaves each argument reading as it read, where the listed tables of Go's library hold what the program's text lays in them.
-/
import Derived.Test.YtnpghnipjienoaaDoorLaid
import Derived.Test.YtnpghnipjienoaaDoorOpenArr
import Derived.Test.YtnpghnipjienoaaDoorLawSteps
namespace Go.Proofs.YtnpghnipjienoaaDoor.fnFilledInSteps
open Go Go.ChangeShapes Go.WideShapes Go.ChangeAt Go.RowKit Go.Joins Go.Deep


set_option maxHeartbeats 1000000 in
set_option maxRecDepth 100000 in
theorem contract (H : Type) (enc : TypeId × Value → H) (W : World) (base : Nat) (args : Array Value) (ds gs : List (DataW H)) (before : List MemPlace)
    (hval : ∀ (j : Nat) t v, Tryd.f9.params[j]? = some t → args[j]? = some v → Value.okWide Tryd.prog W .any base t v)
    (hW : DataW.Whole enc Tryd.prog Tryd.f9.params.toList Rows.fnFilledInStepsSpec.vars false W args.toList ds gs before) (hL : laidMetH Tryd.prog Rows.fnFilledInStepsRow.laid W) :
    Calls Tryd.prog 9 args W fun e W' => ∃ v, e = .returned v ∧ Rows.fnFilledInStepsSpec.post enc Tryd.prog Tryd.f9 false true false false W args v W' := by
  have hW' := hW
  have hlt := fun p hp => hW'.lt p hp
  obtain ⟨p, q, hA0, hV, rfl, hfz, hnd⟩ := hW
  have hA : DataW.TrodAll enc Tryd.prog W 0 (fun _ => true) true Tryd.f9.params.toList args.toList ds p := hA0
  rw [Tryd.params9] at hA hval
  obtain ⟨v0, vs0, d0, ds0, p0, q0, hargs, rfl, rfl, h0, r0⟩ := trodAll_cons hA
  obtain ⟨v1, vs1, d1, ds1, p1, q1, rfl, rfl, rfl, h1, r1⟩ := trodAll_cons r0
  obtain ⟨v2, vs2, d2, ds2, p2, q2, rfl, rfl, rfl, h2, r2⟩ := trodAll_cons r1
  obtain ⟨rfl, rfl, rfl⟩ := trodAll_nil r2
  obtain rfl : args = #[v0, v1, v2] := by cases args; simp_all
  obtain ⟨rfl, rfl⟩ := trodVars_none hV
  clear hA0
  simp only [List.append_nil] at hW' hlt
  obtain ⟨A, n, c, ps, rfl, hr, hn, hs⟩ := open_parts (hval 0 32 v0 rfl rfl) h0
  obtain ⟨ta, tb, tc, td, rfl⟩ := open_bools4 (hval 1 53 v1 rfl rfl) h1
  obtain ⟨sa, sb, sc, sd, rfl, la, lb, lc, ld⟩ := open_texts4 (hval 2 54 v2 rfl rfl) h2
  have hT := pow_of_laid hL
  refine (stepsLaw A n c ps ta tb tc td sa sb sc sd W hr hn hs la lb lc ld hT).mono fun e W' ⟨he, hg⟩ => ?_
  subst he
  have l0 : ∀ x ∈ p0, x.block < W.heap.size := fun x hx => hlt x (by simp [hx])
  have l1 : ∀ x ∈ p1, x.block < W.heap.size := fun x hx => hlt x (by simp [hx])
  have l2 : ∀ x ∈ p2, x.block < W.heap.size := fun x hx => hlt x (by simp [hx])
  exact ⟨_, rfl, post_of_below (pa := p0 ++ (p1 ++ p2)) (pv := []) hW' (fun _ _ _ => trodAll_cons_mk (shut_bool Tryd.underlying4 _) trodAll_mk0)
    (fun sp hsp => by
      have := trodAll_cons_mk (stays (by kernel_rfl) (of_decide_eq_true (by kernel_rfl)) h0 hg l0 sp (fun x hx => hsp x (by simp [hx]))) (trodAll_cons_mk (stays (by kernel_rfl) (of_decide_eq_true (by kernel_rfl)) h1 hg l1 sp (fun x hx => hsp x (by simp [hx])))
        (trodAll_cons_mk (stays (by kernel_rfl) (of_decide_eq_true (by kernel_rfl)) h2 hg l2 sp (fun x hx => hsp x (by simp [hx]))) trodAll_mk0))
      simp only [List.append_nil] at this
      exact this) (fun _ _ => rfl) (by simp)
    hg (ok_one (by kernel_rfl) rfl (okWide_bool_mk Tryd.underlying4 _))⟩

theorem reads (os : Os) {H : Type} (enc : TypeId × Value → H) : ∃ places, DataW.whole enc Tryd.prog ((World.doorLaid Tryd.prog 400 os).forCall (fun _ _ => 0) ⟨#[], #[.slice none 0 0, .agg #[.bool false, .bool false, .bool false, .bool false], .agg #[.string ⟨#[]⟩, .string ⟨#[]⟩, .string ⟨#[]⟩, .string ⟨#[]⟩]], []⟩).memory Tryd.f9.params.toList Rows.fnFilledInStepsSpec.vars false (#[.slice none 0 0, .agg #[.bool false, .bool false, .bool false, .bool false], .agg #[.string ⟨#[]⟩, .string ⟨#[]⟩, .string ⟨#[]⟩, .string ⟨#[]⟩]] : Array Value).toList 8 = some ([.nil, .agg [.lit (.bool false), .lit (.bool false), .lit (.bool false), .lit (.bool false)], .agg [.lit (.string []), .lit (.string []), .lit (.string []), .lit (.string [])]], [], places) :=
  ⟨[], by kernel_rfl⟩

set_option maxRecDepth 100000 in
theorem lifted (os : Os) (started : os.Started) (H : Type) (enc : TypeId × Value → H) (F : Stop.Interp) :
    ReturnsInHanded {} Tryd.checked os 9 .any ((OpenSpec.ofChange Rows.fnFilledInStepsSpec).preRow enc Tryd.prog Tryd.f9 Rows.fnFilledInStepsRow.domain false Rows.fnFilledInStepsRow.laid) (((OpenSpec.ofChange Rows.fnFilledInStepsSpec).at F).post enc Tryd.prog Tryd.f9 false true false false) := by
  obtain ⟨places, hx⟩ := reads os enc
  refine returnsInHanded_of_row (C := Tryd.checked) (s := OpenSpec.ofChange Rows.fnFilledInStepsSpec) own started (by kernel_rfl) Tryd.func9
    (witness_row_atRef (enc := enc) (C := Tryd.checked) false (World.doorLaid Tryd.prog 400 os) #[.slice none 0 0, .agg #[.bool false, .bool false, .bool false, .bool false], .agg #[.string ⟨#[]⟩, .string ⟨#[]⟩, .string ⟨#[]⟩, .string ⟨#[]⟩]] rfl (by kernel_rfl) (by kernel_rfl) (by kernel_rfl)
      (OpenSpec.preRow_of_cond 8 hx (by kernel_rfl) (fun k hk => by cases hk) (by kernel_rfl) (door_met os _))) ?_
  intro W base args ds gs before hval hW _ _ _ hL _ _
  exact contract H enc W base args ds gs before hval hW hL

theorem said : Rows.FnFilledInStepsSaid :=
  OpenClaim.holds_of_cond 9 Tryd.f9 rfl rfl rfl rfl rfl rfl rfl ⟨rfl, rfl, rfl, rfl, rfl⟩ rfl rfl rfl rfl rfl (by kernel_rfl) Tryd.func9 (by kernel_rfl)
    (of_decide_eq_true (by kernel_rfl)) (by unfold Func.isWrapper; first | (rw [if_pos (by decide +kernel)]; kernel_rfl) | (rw [if_neg (by decide +kernel)]; exact ⟨rfl, rfl⟩))
    (fun os started H enc _ F => by rw [OpenClaim.pre_eq_preRow]; exact lifted os started H enc F)

theorem plain (f : FuncId) (fn : Func) (hf : Tryd.pinned.checked.prog.funcNamed "enginesandpaths/laws.FnFilledInSteps" = some f) (hfn : Tryd.pinned.checked.prog.funcs[f]? = some fn) :
    true = Tryd.pinned.checked.prog.looks [] ∧ ∀ (j : Nat) t, fn.params[j]? = some t → Tryd.pinned.checked.prog.wantsStandIn t = false := by
  obtain rfl : f = 9 := Option.some.inj ((show Tryd.prog.funcNamed "enginesandpaths/laws.FnFilledInSteps" = some 9 by kernel_rfl).symm.trans hf) |>.symm
  obtain rfl : fn = Tryd.f9 := (Option.some.inj (Tryd.func9.symm.trans hfn)).symm
  refine ⟨by kernel_rfl, fun j t ht => ?_⟩
  rw [Tryd.params9] at ht
  have hm : t ∈ [32, 53, 54] := by simpa using Array.mem_of_getElem? ht
  have hall : ([32, 53, 54].all fun u => !Tryd.prog.wantsStandIn u) = true := by kernel_rfl
  exact (show Tryd.prog.wantsStandIn t = false by simpa using List.all_eq_true.1 hall t hm)

/-- THE CARD. -/
theorem card : Rows.FnFilledInStepsCardSaid :=
  Claim7.holds_tied_plain_at .later [] _ _ _ _ said (fun _ h => by cases h) (by kernel_rfl) (fun _ h => by cases h) fnFilledInSteps_row_tie rfl ⟨rfl, rfl⟩ (by kernel_rfl) rfl plain (by kernel_rfl)
end Go.Proofs.YtnpghnipjienoaaDoor.fnFilledInSteps

