/-
  DERIVED. GIVEN WITH THE SEED: THE CARDS: each row of YtnpghnipjienoaaDoorRows.lean that lists a variable, with what it lists TIED to the program's text (the seventh form; the later family's looks); each row that meets fmt, with fmt's text TOLD by the authors' own Lean function (tested against real Go, not proved from fmt's source: count such statements apart). THE CARD IS WHAT COUNTS. Prove the row's statement (the work); the ties are given (YtnpghnipjienoaaDoorTie.lean); close each card by the builder's one call (the guide's Derived/Test/ToyasCard.lean, 'card_holds'). Laid BY PROGRAM, IN A SANDBOX (cutbox-door.mjs). By AI agents, Wed Nov 11 2026. No macro, syntax, notation, axiom, sorry.
-/
import Derived.Test.YtnpghnipjienoaaDoorRows
import GoSem.ClaimSeven
namespace Go.Proofs.YtnpghnipjienoaaDoor
namespace Rows

/-- THE TIED CARD OF 'laws.FnText'. -/
def fnTextCard : Claim7 := { stood := { row := fnTextRow, standIns := [], harness := (true, "206f91efda82087e9f5eb29ec35c344c35c85622bb0106262dbb5f75fe6f10b9"), looks := true }, kinds := [], alts := [], laidByText := true, laidKinds := [.data, .data, .data], laidTests := true, laidLooks := .later }
def FnTextCardSaid : Prop := Claim7.holds Tryd.pinned (.plain (OpenSpec.ofChange fnTextSpec)) fnTextCard

/-- THE TIED CARD OF 'laws.FnWritten'. -/
def fnWrittenCard : Claim7 := { stood := { row := fnWrittenRow, standIns := [], harness := (true, "206f91efda82087e9f5eb29ec35c344c35c85622bb0106262dbb5f75fe6f10b9"), looks := true }, kinds := [], alts := [], laidByText := true, laidKinds := [.data, .data, .data], laidTests := true, laidLooks := .later }
def FnWrittenCardSaid : Prop := Claim7.holds Tryd.pinned (.plain (OpenSpec.ofChange fnWrittenSpec)) fnWrittenCard

/-- THE TIED CARD OF 'laws.FnHas'. -/
def fnHasCard : Claim7 := { stood := { row := fnHasRow, standIns := [], harness := (true, "206f91efda82087e9f5eb29ec35c344c35c85622bb0106262dbb5f75fe6f10b9"), looks := true }, kinds := [], alts := [], laidByText := true, laidKinds := [.data, .data, .data], laidTests := true, laidLooks := .later }
def FnHasCardSaid : Prop := Claim7.holds Tryd.pinned (.plain (OpenSpec.ofChange fnHasSpec)) fnHasCard

/-- THE TIED CARD OF 'laws.FnOverridden'. -/
def fnOverriddenCard : Claim7 := { stood := { row := fnOverriddenRow, standIns := [], harness := (true, "206f91efda82087e9f5eb29ec35c344c35c85622bb0106262dbb5f75fe6f10b9"), looks := true }, kinds := [], alts := [], laidByText := true, laidKinds := [.data, .data, .data], laidTests := true, laidLooks := .later }
def FnOverriddenCardSaid : Prop := Claim7.holds Tryd.pinned (.plain (OpenSpec.ofChange fnOverriddenSpec)) fnOverriddenCard

/-- THE TIED CARD OF 'laws.FnLoads'. -/
def fnLoadsCard : Claim7 := { stood := { row := fnLoadsRow, standIns := [], harness := (true, "206f91efda82087e9f5eb29ec35c344c35c85622bb0106262dbb5f75fe6f10b9"), looks := true }, kinds := [], alts := [], laidByText := true, laidKinds := [.data, .data, .data], laidTests := true, laidLooks := .later }
def FnLoadsCardSaid : Prop := Claim7.holds Tryd.pinned (.plain (OpenSpec.ofChange fnLoadsSpec)) fnLoadsCard

/-- THE TIED CARD OF 'laws.FnFilled'. -/
def fnFilledCard : Claim7 := { stood := { row := fnFilledRow, standIns := [], harness := (true, "206f91efda82087e9f5eb29ec35c344c35c85622bb0106262dbb5f75fe6f10b9"), looks := true }, kinds := [], alts := [], laidByText := true, laidKinds := [.data, .data, .data], laidTests := true, laidLooks := .later }
def FnFilledCardSaid : Prop := Claim7.holds Tryd.pinned (.plain (OpenSpec.ofChange fnFilledSpec)) fnFilledCard

/-- THE TIED CARD OF 'laws.FnFilledInSteps'. -/
def fnFilledInStepsCard : Claim7 := { stood := { row := fnFilledInStepsRow, standIns := [], harness := (true, "206f91efda82087e9f5eb29ec35c344c35c85622bb0106262dbb5f75fe6f10b9"), looks := true }, kinds := [], alts := [], laidByText := true, laidKinds := [.data, .data, .data], laidTests := true, laidLooks := .later }
def FnFilledInStepsCardSaid : Prop := Claim7.holds Tryd.pinned (.plain (OpenSpec.ofChange fnFilledInStepsSpec)) fnFilledInStepsCard

/-- THE TIED CARD OF 'laws.FnCompareIsAnOrder'. -/
def fnCompareIsAnOrderCard : Claim7 := { stood := { row := fnCompareIsAnOrderRow, standIns := [], harness := (true, "206f91efda82087e9f5eb29ec35c344c35c85622bb0106262dbb5f75fe6f10b9"), looks := true }, kinds := [], alts := [], laidByText := true, laidKinds := [.data, .data, .data, .sentinel, .sentinel], laidTests := true, laidLooks := .later }
def FnCompareIsAnOrderCardSaid : Prop := Claim7.holds Tryd.pinned (.plain (OpenSpec.ofChange fnCompareIsAnOrderSpec)) fnCompareIsAnOrderCard

/-- THE SECOND FORM's CARD OF 'laws.FnText'. -/
def fnTextUptoCard : Claim7 := { stood := { row := fnTextUptoRow, standIns := [], harness := (true, "206f91efda82087e9f5eb29ec35c344c35c85622bb0106262dbb5f75fe6f10b9"), looks := true }, kinds := [], alts := [], laidByText := true, laidKinds := [.data, .data, .data], laidTests := true, laidLooks := .later }
def FnTextUptoCardSaid : Prop := Claim7.holds Tryd.pinned (.plain (OpenSpec.upto fnTextSpec)) fnTextUptoCard

/-- THE SECOND FORM's CARD OF 'laws.FnWritten'. -/
def fnWrittenUptoCard : Claim7 := { stood := { row := fnWrittenUptoRow, standIns := [], harness := (true, "206f91efda82087e9f5eb29ec35c344c35c85622bb0106262dbb5f75fe6f10b9"), looks := true }, kinds := [], alts := [], laidByText := true, laidKinds := [.data, .data, .data], laidTests := true, laidLooks := .later }
def FnWrittenUptoCardSaid : Prop := Claim7.holds Tryd.pinned (.plain (OpenSpec.upto fnWrittenSpec)) fnWrittenUptoCard

/-- THE SECOND FORM's CARD OF 'laws.FnHas'. -/
def fnHasUptoCard : Claim7 := { stood := { row := fnHasUptoRow, standIns := [], harness := (true, "206f91efda82087e9f5eb29ec35c344c35c85622bb0106262dbb5f75fe6f10b9"), looks := true }, kinds := [], alts := [], laidByText := true, laidKinds := [.data, .data, .data], laidTests := true, laidLooks := .later }
def FnHasUptoCardSaid : Prop := Claim7.holds Tryd.pinned (.plain (OpenSpec.upto fnHasSpec)) fnHasUptoCard

/-- THE SECOND FORM's CARD OF 'laws.FnOverridden'. -/
def fnOverriddenUptoCard : Claim7 := { stood := { row := fnOverriddenUptoRow, standIns := [], harness := (true, "206f91efda82087e9f5eb29ec35c344c35c85622bb0106262dbb5f75fe6f10b9"), looks := true }, kinds := [], alts := [], laidByText := true, laidKinds := [.data, .data, .data], laidTests := true, laidLooks := .later }
def FnOverriddenUptoCardSaid : Prop := Claim7.holds Tryd.pinned (.plain (OpenSpec.upto fnOverriddenSpec)) fnOverriddenUptoCard

/-- THE SECOND FORM's CARD OF 'laws.FnLoads'. -/
def fnLoadsUptoCard : Claim7 := { stood := { row := fnLoadsUptoRow, standIns := [], harness := (true, "206f91efda82087e9f5eb29ec35c344c35c85622bb0106262dbb5f75fe6f10b9"), looks := true }, kinds := [], alts := [], laidByText := true, laidKinds := [.data, .data, .data], laidTests := true, laidLooks := .later }
def FnLoadsUptoCardSaid : Prop := Claim7.holds Tryd.pinned (.plain (OpenSpec.upto fnLoadsSpec)) fnLoadsUptoCard

/-- THE SECOND FORM's CARD OF 'laws.FnFilled'. -/
def fnFilledUptoCard : Claim7 := { stood := { row := fnFilledUptoRow, standIns := [], harness := (true, "206f91efda82087e9f5eb29ec35c344c35c85622bb0106262dbb5f75fe6f10b9"), looks := true }, kinds := [], alts := [], laidByText := true, laidKinds := [.data, .data, .data], laidTests := true, laidLooks := .later }
def FnFilledUptoCardSaid : Prop := Claim7.holds Tryd.pinned (.plain (OpenSpec.upto fnFilledSpec)) fnFilledUptoCard

/-- THE SECOND FORM's CARD OF 'laws.FnFilledInSteps'. -/
def fnFilledInStepsUptoCard : Claim7 := { stood := { row := fnFilledInStepsUptoRow, standIns := [], harness := (true, "206f91efda82087e9f5eb29ec35c344c35c85622bb0106262dbb5f75fe6f10b9"), looks := true }, kinds := [], alts := [], laidByText := true, laidKinds := [.data, .data, .data], laidTests := true, laidLooks := .later }
def FnFilledInStepsUptoCardSaid : Prop := Claim7.holds Tryd.pinned (.plain (OpenSpec.upto fnFilledInStepsSpec)) fnFilledInStepsUptoCard

/-- THE SECOND FORM's CARD OF 'laws.FnCompareIsAnOrder'. -/
def fnCompareIsAnOrderUptoCard : Claim7 := { stood := { row := fnCompareIsAnOrderUptoRow, standIns := [], harness := (true, "206f91efda82087e9f5eb29ec35c344c35c85622bb0106262dbb5f75fe6f10b9"), looks := true }, kinds := [], alts := [], laidByText := true, laidKinds := [.data, .data, .data, .sentinel, .sentinel], laidTests := true, laidLooks := .later }
def FnCompareIsAnOrderUptoCardSaid : Prop := Claim7.holds Tryd.pinned (.plain (OpenSpec.upto fnCompareIsAnOrderSpec)) fnCompareIsAnOrderUptoCard
end Rows
end Go.Proofs.YtnpghnipjienoaaDoor
