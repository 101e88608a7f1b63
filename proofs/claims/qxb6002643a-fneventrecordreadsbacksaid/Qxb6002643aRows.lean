/-
  No cell of these rows narrows 'for every input' (looked for: loops, veiled, ifaces, maps, wideKeys, modest, calm, conditions, laid).
  DERIVED. THE GIVEN ROWS OF THIS SEAT. 7 by the template 'for every input the law returns true; each argument reads behind the call as it read before'; 0 by the template 'total and deterministic' (their statements: Qxb6002643aTotals.lean).
  GIVEN WITH THE SEED: the statements are not yours to turn. If you find one false, say at which input.
  Laid BY PROGRAM, IN A SANDBOX (cutbox-rows.mjs): the forced cells as the released guide's own fill.sh prints them over the translation 7ac4050ccc3910f3… (all of the seat's roots in one cut). By AI agents, Wed Nov 11 2026. No macro, syntax, notation, axiom, sorry.
-/
import Derived.Test.Qxb6002643aChecked
import GoSem.Claim
import GoSem.ClaimJoined
import GoSem.ClaimMapViews
import Derived.JoinedTies
import Derived.KernelRfl
namespace Go.Proofs.Qxb6002643a
/- THE CELL 'sum', in the pinned program and in every row, IS THE sha256 OF THE DUMP (.gsa) THAT Qxb6002643aProg.lean LOADS. Nothing in Lean hashes anything: it is a label: what it is worth is what the hold of that sum in a sandbox is worth. -/
noncomputable def Try.pinned : Pinned := { name := "qxb6002643a", sum := "7ac4050ccc3910f3b0f5a6dd7099886291c2d73bc3571e344ae4de221dd04c7e", checked := Try.checked }
namespace Rows
def none {H : Type} : Left H := { results := [], args := [] }

/-- 'zzlaws_internal_api_g1.FnWholeNumberMatchesUnboundedDecimal': WHATEVER THE INPUT: true; the input reads as it did. -/
def fnWholeNumberMatchesUnboundedDecimalSpec : ChangeSpec := { name := "fnWholeNumberMatchesUnboundedDecimal", fn := fun _ => fun
  | [d] => { results := [.lit (.bool true)], args := [d] }
  | _ => none }
def fnWholeNumberMatchesUnboundedDecimalRow : OpenClaim := { program := "qxb6002643a", sum := "7ac4050ccc3910f3b0f5a6dd7099886291c2d73bc3571e344ae4de221dd04c7e", func := "example.com/tenure/tenure/zzlaws_internal_api_g1.FnWholeNumberMatchesUnboundedDecimal", spec := "fnWholeNumberMatchesUnboundedDecimal", apart := false }
def FnWholeNumberMatchesUnboundedDecimalSaid : Prop := fnWholeNumberMatchesUnboundedDecimalRow.holds Try.pinned (OpenSpec.ofChange fnWholeNumberMatchesUnboundedDecimalSpec)

/-- ITS FALSE NEIGHBOUR: 'it returns false'. Refute it at one input. -/
def fnWholeNumberMatchesUnboundedDecimalWrong : ChangeSpec := { name := "fnWholeNumberMatchesUnboundedDecimal", fn := fun _ => fun
  | [d] => { results := [.lit (.bool false)], args := [d] }
  | _ => none }
def FnWholeNumberMatchesUnboundedDecimalWrongFalsely : Prop := fnWholeNumberMatchesUnboundedDecimalRow.holds Try.pinned (OpenSpec.ofChange fnWholeNumberMatchesUnboundedDecimalWrong)

/-- 'zzlaws_internal_api_g1.FnWholeNumberReadsBackDecimal': WHATEVER THE INPUT: true; the input reads as it did. -/
def fnWholeNumberReadsBackDecimalSpec : ChangeSpec := { name := "fnWholeNumberReadsBackDecimal", fn := fun _ => fun
  | [d1, d2] => { results := [.lit (.bool true)], args := [d1, d2] }
  | _ => none }
def fnWholeNumberReadsBackDecimalRow : OpenClaim := { program := "qxb6002643a", sum := "7ac4050ccc3910f3b0f5a6dd7099886291c2d73bc3571e344ae4de221dd04c7e", func := "example.com/tenure/tenure/zzlaws_internal_api_g1.FnWholeNumberReadsBackDecimal", spec := "fnWholeNumberReadsBackDecimal", apart := false }
def FnWholeNumberReadsBackDecimalSaid : Prop := fnWholeNumberReadsBackDecimalRow.holds Try.pinned (OpenSpec.ofChange fnWholeNumberReadsBackDecimalSpec)

/-- ITS FALSE NEIGHBOUR: 'it returns false'. Refute it at one input. -/
def fnWholeNumberReadsBackDecimalWrong : ChangeSpec := { name := "fnWholeNumberReadsBackDecimal", fn := fun _ => fun
  | [d1, d2] => { results := [.lit (.bool false)], args := [d1, d2] }
  | _ => none }
def FnWholeNumberReadsBackDecimalWrongFalsely : Prop := fnWholeNumberReadsBackDecimalRow.holds Try.pinned (OpenSpec.ofChange fnWholeNumberReadsBackDecimalWrong)

/-- 'zzlaws_internal_api_g1.FnSkipSpaceLandsOnFirstNonSpace': WHATEVER THE INPUT: true; the input reads as it did. -/
def fnSkipSpaceLandsOnFirstNonSpaceSpec : ChangeSpec := { name := "fnSkipSpaceLandsOnFirstNonSpace", fn := fun _ => fun
  | [d1, d2] => { results := [.lit (.bool true)], args := [d1, d2] }
  | _ => none }
def fnSkipSpaceLandsOnFirstNonSpaceRow : OpenClaim := { program := "qxb6002643a", sum := "7ac4050ccc3910f3b0f5a6dd7099886291c2d73bc3571e344ae4de221dd04c7e", func := "example.com/tenure/tenure/zzlaws_internal_api_g1.FnSkipSpaceLandsOnFirstNonSpace", spec := "fnSkipSpaceLandsOnFirstNonSpace", apart := false }
def FnSkipSpaceLandsOnFirstNonSpaceSaid : Prop := fnSkipSpaceLandsOnFirstNonSpaceRow.holds Try.pinned (OpenSpec.ofChange fnSkipSpaceLandsOnFirstNonSpaceSpec)

/-- ITS FALSE NEIGHBOUR: 'it returns false'. Refute it at one input. -/
def fnSkipSpaceLandsOnFirstNonSpaceWrong : ChangeSpec := { name := "fnSkipSpaceLandsOnFirstNonSpace", fn := fun _ => fun
  | [d1, d2] => { results := [.lit (.bool false)], args := [d1, d2] }
  | _ => none }
def FnSkipSpaceLandsOnFirstNonSpaceWrongFalsely : Prop := fnSkipSpaceLandsOnFirstNonSpaceRow.holds Try.pinned (OpenSpec.ofChange fnSkipSpaceLandsOnFirstNonSpaceWrong)

/-- 'zzlaws_internal_engine_g1.FnDeliveryRecordReadsBack': WHATEVER THE INPUT: true; the input reads as it did. -/
def fnDeliveryRecordReadsBackSpec : ChangeSpec := { name := "fnDeliveryRecordReadsBack", fn := fun _ => fun
  | [d1, d2, d3, d4, d5, d6, d7, d8] => { results := [.lit (.bool true)], args := [d1, d2, d3, d4, d5, d6, d7, d8] }
  | _ => none }
def fnDeliveryRecordReadsBackRow : OpenClaim := { program := "qxb6002643a", sum := "7ac4050ccc3910f3b0f5a6dd7099886291c2d73bc3571e344ae4de221dd04c7e", func := "example.com/tenure/tenure/zzlaws_internal_engine_g1.FnDeliveryRecordReadsBack", spec := "fnDeliveryRecordReadsBack", apart := false }
def FnDeliveryRecordReadsBackSaid : Prop := fnDeliveryRecordReadsBackRow.holds Try.pinned (OpenSpec.ofChange fnDeliveryRecordReadsBackSpec)

/-- ITS FALSE NEIGHBOUR: 'it returns false'. Refute it at one input. -/
def fnDeliveryRecordReadsBackWrong : ChangeSpec := { name := "fnDeliveryRecordReadsBack", fn := fun _ => fun
  | [d1, d2, d3, d4, d5, d6, d7, d8] => { results := [.lit (.bool false)], args := [d1, d2, d3, d4, d5, d6, d7, d8] }
  | _ => none }
def FnDeliveryRecordReadsBackWrongFalsely : Prop := fnDeliveryRecordReadsBackRow.holds Try.pinned (OpenSpec.ofChange fnDeliveryRecordReadsBackWrong)

/-- 'zzlaws_internal_engine_g1.FnClockRecordReadsBack': WHATEVER THE INPUT: true; the input reads as it did. -/
def fnClockRecordReadsBackSpec : ChangeSpec := { name := "fnClockRecordReadsBack", fn := fun _ => fun
  | [d1, d2, d3, d4, d5] => { results := [.lit (.bool true)], args := [d1, d2, d3, d4, d5] }
  | _ => none }
def fnClockRecordReadsBackRow : OpenClaim := { program := "qxb6002643a", sum := "7ac4050ccc3910f3b0f5a6dd7099886291c2d73bc3571e344ae4de221dd04c7e", func := "example.com/tenure/tenure/zzlaws_internal_engine_g1.FnClockRecordReadsBack", spec := "fnClockRecordReadsBack", apart := false }
def FnClockRecordReadsBackSaid : Prop := fnClockRecordReadsBackRow.holds Try.pinned (OpenSpec.ofChange fnClockRecordReadsBackSpec)

/-- ITS FALSE NEIGHBOUR: 'it returns false'. Refute it at one input. -/
def fnClockRecordReadsBackWrong : ChangeSpec := { name := "fnClockRecordReadsBack", fn := fun _ => fun
  | [d1, d2, d3, d4, d5] => { results := [.lit (.bool false)], args := [d1, d2, d3, d4, d5] }
  | _ => none }
def FnClockRecordReadsBackWrongFalsely : Prop := fnClockRecordReadsBackRow.holds Try.pinned (OpenSpec.ofChange fnClockRecordReadsBackWrong)

/-- 'zzlaws_internal_engine_g1.FnArenaInternsNamesAndStatuses': WHATEVER THE INPUT: true; the input reads as it did. -/
def fnArenaInternsNamesAndStatusesSpec : ChangeSpec := { name := "fnArenaInternsNamesAndStatuses", fn := fun _ => fun
  | [d1, d2] => { results := [.lit (.bool true)], args := [d1, d2] }
  | _ => none }
def fnArenaInternsNamesAndStatusesRow : OpenClaim := { program := "qxb6002643a", sum := "7ac4050ccc3910f3b0f5a6dd7099886291c2d73bc3571e344ae4de221dd04c7e", func := "example.com/tenure/tenure/zzlaws_internal_engine_g1.FnArenaInternsNamesAndStatuses", spec := "fnArenaInternsNamesAndStatuses", apart := false }
def FnArenaInternsNamesAndStatusesSaid : Prop := fnArenaInternsNamesAndStatusesRow.holds Try.pinned (OpenSpec.ofChange fnArenaInternsNamesAndStatusesSpec)

/-- ITS FALSE NEIGHBOUR: 'it returns false'. Refute it at one input. -/
def fnArenaInternsNamesAndStatusesWrong : ChangeSpec := { name := "fnArenaInternsNamesAndStatuses", fn := fun _ => fun
  | [d1, d2] => { results := [.lit (.bool false)], args := [d1, d2] }
  | _ => none }
def FnArenaInternsNamesAndStatusesWrongFalsely : Prop := fnArenaInternsNamesAndStatusesRow.holds Try.pinned (OpenSpec.ofChange fnArenaInternsNamesAndStatusesWrong)

/-- 'zzlaws_internal_engine_g1.FnEventRecordReadsBack': WHATEVER THE INPUT: true; the input reads as it did. -/
def fnEventRecordReadsBackSpec : ChangeSpec := { name := "fnEventRecordReadsBack", fn := fun _ => fun
  | [d1, d2, d3, d4, d5, d6] => { results := [.lit (.bool true)], args := [d1, d2, d3, d4, d5, d6] }
  | _ => none }
def fnEventRecordReadsBackRow : OpenClaim := { program := "qxb6002643a", sum := "7ac4050ccc3910f3b0f5a6dd7099886291c2d73bc3571e344ae4de221dd04c7e", func := "example.com/tenure/tenure/zzlaws_internal_engine_g1.FnEventRecordReadsBack", spec := "fnEventRecordReadsBack", apart := false }
def FnEventRecordReadsBackSaid : Prop := fnEventRecordReadsBackRow.holds Try.pinned (OpenSpec.ofChange fnEventRecordReadsBackSpec)

/-- ITS FALSE NEIGHBOUR: 'it returns false'. Refute it at one input. -/
def fnEventRecordReadsBackWrong : ChangeSpec := { name := "fnEventRecordReadsBack", fn := fun _ => fun
  | [d1, d2, d3, d4, d5, d6] => { results := [.lit (.bool false)], args := [d1, d2, d3, d4, d5, d6] }
  | _ => none }
def FnEventRecordReadsBackWrongFalsely : Prop := fnEventRecordReadsBackRow.holds Try.pinned (OpenSpec.ofChange fnEventRecordReadsBackWrong)

end Rows
end Go.Proofs.Qxb6002643a
