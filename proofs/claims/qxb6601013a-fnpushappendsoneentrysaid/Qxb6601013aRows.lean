/-
  No cell of these rows narrows 'for every input' (looked for: loops, veiled, ifaces, maps, wideKeys, modest, calm, conditions, laid).
  DERIVED. THE GIVEN ROWS OF THIS SEAT. 6 by the template 'for every input the law returns true; each argument reads behind the call as it read before'; 0 by the template 'total and deterministic' (their statements: Qxb6601013aTotals.lean).
  GIVEN WITH THE SEED: the statements are not yours to turn. If you find one false, say at which input.
  Laid BY PROGRAM, IN A SANDBOX (cutbox-rows.mjs): the forced cells as the released guide's own fill.sh prints them over the translation b6977fb1b1edaee0… (all of the seat's roots in one cut). By AI agents, Wed Nov 11 2026. No macro, syntax, notation, axiom, sorry.
-/
import Derived.Test.Qxb6601013aChecked
import GoSem.Claim
import GoSem.ClaimJoined
import GoSem.ClaimMapViews
import Derived.JoinedTies
import Derived.KernelRfl
namespace Go.Proofs.Qxb6601013a
/- THE CELL 'sum', in the pinned program and in every row, IS THE sha256 OF THE DUMP (.gsa) THAT Qxb6601013aProg.lean LOADS. Nothing in Lean hashes anything: it is a label: what it is worth is what the hold of that sum in a sandbox is worth. -/
noncomputable def Try.pinned : Pinned := { name := "qxb6601013a", sum := "b6977fb1b1edaee05f355b552a58374bc903ca82d1a079cc6d2fa2db8531eefa", checked := Try.checked }
namespace Rows
def none {H : Type} : Left H := { results := [], args := [] }

/-- 'zzlaws_root_b1.FnWindowOfIsFloorDivision': WHATEVER THE INPUT: true; the input reads as it did. -/
def fnWindowOfIsFloorDivisionSpec : ChangeSpec := { name := "fnWindowOfIsFloorDivision", fn := fun _ => fun
  | [d1, d2] => { results := [.lit (.bool true)], args := [d1, d2] }
  | _ => none }
def fnWindowOfIsFloorDivisionRow : OpenClaim := { program := "qxb6601013a", sum := "b6977fb1b1edaee05f355b552a58374bc903ca82d1a079cc6d2fa2db8531eefa", func := "example.com/lean-limiter/lean-limiter/zzlaws_root_b1.FnWindowOfIsFloorDivision", spec := "fnWindowOfIsFloorDivision", apart := false }
def FnWindowOfIsFloorDivisionSaid : Prop := fnWindowOfIsFloorDivisionRow.holds Try.pinned (OpenSpec.ofChange fnWindowOfIsFloorDivisionSpec)

/-- ITS FALSE NEIGHBOUR: 'it returns false'. Refute it at one input. -/
def fnWindowOfIsFloorDivisionWrong : ChangeSpec := { name := "fnWindowOfIsFloorDivision", fn := fun _ => fun
  | [d1, d2] => { results := [.lit (.bool false)], args := [d1, d2] }
  | _ => none }
def FnWindowOfIsFloorDivisionWrongFalsely : Prop := fnWindowOfIsFloorDivisionRow.holds Try.pinned (OpenSpec.ofChange fnWindowOfIsFloorDivisionWrong)

/-- 'zzlaws_root_b1.FnWindowOfIsMonotone': WHATEVER THE INPUT: true; the input reads as it did. -/
def fnWindowOfIsMonotoneSpec : ChangeSpec := { name := "fnWindowOfIsMonotone", fn := fun _ => fun
  | [d1, d2, d3] => { results := [.lit (.bool true)], args := [d1, d2, d3] }
  | _ => none }
def fnWindowOfIsMonotoneRow : OpenClaim := { program := "qxb6601013a", sum := "b6977fb1b1edaee05f355b552a58374bc903ca82d1a079cc6d2fa2db8531eefa", func := "example.com/lean-limiter/lean-limiter/zzlaws_root_b1.FnWindowOfIsMonotone", spec := "fnWindowOfIsMonotone", apart := false }
def FnWindowOfIsMonotoneSaid : Prop := fnWindowOfIsMonotoneRow.holds Try.pinned (OpenSpec.ofChange fnWindowOfIsMonotoneSpec)

/-- ITS FALSE NEIGHBOUR: 'it returns false'. Refute it at one input. -/
def fnWindowOfIsMonotoneWrong : ChangeSpec := { name := "fnWindowOfIsMonotone", fn := fun _ => fun
  | [d1, d2, d3] => { results := [.lit (.bool false)], args := [d1, d2, d3] }
  | _ => none }
def FnWindowOfIsMonotoneWrongFalsely : Prop := fnWindowOfIsMonotoneRow.holds Try.pinned (OpenSpec.ofChange fnWindowOfIsMonotoneWrong)

/-- 'zzlaws_root_b1.FnWindowOfAdvancesByOnePerWindow': WHATEVER THE INPUT: true; the input reads as it did. -/
def fnWindowOfAdvancesByOnePerWindowSpec : ChangeSpec := { name := "fnWindowOfAdvancesByOnePerWindow", fn := fun _ => fun
  | [d1, d2] => { results := [.lit (.bool true)], args := [d1, d2] }
  | _ => none }
def fnWindowOfAdvancesByOnePerWindowRow : OpenClaim := { program := "qxb6601013a", sum := "b6977fb1b1edaee05f355b552a58374bc903ca82d1a079cc6d2fa2db8531eefa", func := "example.com/lean-limiter/lean-limiter/zzlaws_root_b1.FnWindowOfAdvancesByOnePerWindow", spec := "fnWindowOfAdvancesByOnePerWindow", apart := false }
def FnWindowOfAdvancesByOnePerWindowSaid : Prop := fnWindowOfAdvancesByOnePerWindowRow.holds Try.pinned (OpenSpec.ofChange fnWindowOfAdvancesByOnePerWindowSpec)

/-- ITS FALSE NEIGHBOUR: 'it returns false'. Refute it at one input. -/
def fnWindowOfAdvancesByOnePerWindowWrong : ChangeSpec := { name := "fnWindowOfAdvancesByOnePerWindow", fn := fun _ => fun
  | [d1, d2] => { results := [.lit (.bool false)], args := [d1, d2] }
  | _ => none }
def FnWindowOfAdvancesByOnePerWindowWrongFalsely : Prop := fnWindowOfAdvancesByOnePerWindowRow.holds Try.pinned (OpenSpec.ofChange fnWindowOfAdvancesByOnePerWindowWrong)

/-- 'zzlaws_root_b1.FnPushAppendsOneEntry': WHATEVER THE INPUT: true; the input reads as it did. -/
def fnPushAppendsOneEntrySpec : ChangeSpec := { name := "fnPushAppendsOneEntry", fn := fun _ => fun
  | [d1, d2, d3, d4, d5, d6, d7] => { results := [.lit (.bool true)], args := [d1, d2, d3, d4, d5, d6, d7] }
  | _ => none }
def fnPushAppendsOneEntryRow : OpenClaim := { program := "qxb6601013a", sum := "b6977fb1b1edaee05f355b552a58374bc903ca82d1a079cc6d2fa2db8531eefa", func := "example.com/lean-limiter/lean-limiter/zzlaws_root_b1.FnPushAppendsOneEntry", spec := "fnPushAppendsOneEntry", apart := false }
def FnPushAppendsOneEntrySaid : Prop := fnPushAppendsOneEntryRow.holds Try.pinned (OpenSpec.ofChange fnPushAppendsOneEntrySpec)

/-- ITS FALSE NEIGHBOUR: 'it returns false'. Refute it at one input. -/
def fnPushAppendsOneEntryWrong : ChangeSpec := { name := "fnPushAppendsOneEntry", fn := fun _ => fun
  | [d1, d2, d3, d4, d5, d6, d7] => { results := [.lit (.bool false)], args := [d1, d2, d3, d4, d5, d6, d7] }
  | _ => none }
def FnPushAppendsOneEntryWrongFalsely : Prop := fnPushAppendsOneEntryRow.holds Try.pinned (OpenSpec.ofChange fnPushAppendsOneEntryWrong)

/-- 'zzlaws_root_b1.FnPushFromEmptyRecordsEveryRequest': WHATEVER THE INPUT: true; the input reads as it did. -/
def fnPushFromEmptyRecordsEveryRequestSpec : ChangeSpec := { name := "fnPushFromEmptyRecordsEveryRequest", fn := fun _ => fun
  | [d1, d2] => { results := [.lit (.bool true)], args := [d1, d2] }
  | _ => none }
def fnPushFromEmptyRecordsEveryRequestRow : OpenClaim := { program := "qxb6601013a", sum := "b6977fb1b1edaee05f355b552a58374bc903ca82d1a079cc6d2fa2db8531eefa", func := "example.com/lean-limiter/lean-limiter/zzlaws_root_b1.FnPushFromEmptyRecordsEveryRequest", spec := "fnPushFromEmptyRecordsEveryRequest", apart := false }
def FnPushFromEmptyRecordsEveryRequestSaid : Prop := fnPushFromEmptyRecordsEveryRequestRow.holds Try.pinned (OpenSpec.ofChange fnPushFromEmptyRecordsEveryRequestSpec)

/-- ITS FALSE NEIGHBOUR: 'it returns false'. Refute it at one input. -/
def fnPushFromEmptyRecordsEveryRequestWrong : ChangeSpec := { name := "fnPushFromEmptyRecordsEveryRequest", fn := fun _ => fun
  | [d1, d2] => { results := [.lit (.bool false)], args := [d1, d2] }
  | _ => none }
def FnPushFromEmptyRecordsEveryRequestWrongFalsely : Prop := fnPushFromEmptyRecordsEveryRequestRow.holds Try.pinned (OpenSpec.ofChange fnPushFromEmptyRecordsEveryRequestWrong)

/-- 'zzlaws_root_b1.FnCostsIsIdempotentAndShared': WHATEVER THE INPUT: true; the input reads as it did. -/
def fnCostsIsIdempotentAndSharedSpec : ChangeSpec := { name := "fnCostsIsIdempotentAndShared", fn := fun _ => fun
  | [d1, d2, d3, d4, d5] => { results := [.lit (.bool true)], args := [d1, d2, d3, d4, d5] }
  | _ => none }
def fnCostsIsIdempotentAndSharedRow : OpenClaim := { program := "qxb6601013a", sum := "b6977fb1b1edaee05f355b552a58374bc903ca82d1a079cc6d2fa2db8531eefa", func := "example.com/lean-limiter/lean-limiter/zzlaws_root_b1.FnCostsIsIdempotentAndShared", spec := "fnCostsIsIdempotentAndShared", apart := false }
def FnCostsIsIdempotentAndSharedSaid : Prop := fnCostsIsIdempotentAndSharedRow.holds Try.pinned (OpenSpec.ofChange fnCostsIsIdempotentAndSharedSpec)

/-- ITS FALSE NEIGHBOUR: 'it returns false'. Refute it at one input. -/
def fnCostsIsIdempotentAndSharedWrong : ChangeSpec := { name := "fnCostsIsIdempotentAndShared", fn := fun _ => fun
  | [d1, d2, d3, d4, d5] => { results := [.lit (.bool false)], args := [d1, d2, d3, d4, d5] }
  | _ => none }
def FnCostsIsIdempotentAndSharedWrongFalsely : Prop := fnCostsIsIdempotentAndSharedRow.holds Try.pinned (OpenSpec.ofChange fnCostsIsIdempotentAndSharedWrong)

end Rows
end Go.Proofs.Qxb6601013a
