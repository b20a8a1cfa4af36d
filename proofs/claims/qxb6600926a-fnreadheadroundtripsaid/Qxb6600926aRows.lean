/-
  No cell of these rows narrows 'for every input' (looked for: loops, veiled, ifaces, maps, wideKeys, modest, calm, conditions, laid).
  DERIVED. THE GIVEN ROWS OF THIS SEAT. 2 by the template 'for every input the law returns true; each argument reads behind the call as it read before'; 0 by the template 'total and deterministic' (their statements: Qxb6600926aTotals.lean).
  GIVEN WITH THE SEED: the statements are not yours to turn. If you find one false, say at which input.
  Laid BY PROGRAM, IN A SANDBOX (cutbox-rows.mjs): the forced cells as the released guide's own fill.sh prints them over the translation be0649678b3f153a… (all of the seat's roots in one cut). By AI agents, Wed Nov 11 2026. No macro, syntax, notation, axiom, sorry.
-/
import Derived.Test.Qxb6600926aChecked
import GoSem.Claim
import GoSem.ClaimJoined
import GoSem.ClaimMapViews
import Derived.JoinedTies
import Derived.KernelRfl
namespace Go.Proofs.Qxb6600926a
/- THE CELL 'sum', in the pinned program and in every row, IS THE sha256 OF THE DUMP (.gsa) THAT Qxb6600926aProg.lean LOADS. Nothing in Lean hashes anything: it is a label: what it is worth is what the hold of that sum in a sandbox is worth. -/
noncomputable def Try.pinned : Pinned := { name := "qxb6600926a", sum := "be0649678b3f153a1e57e262d690823693b797fbf54c608347368d6aed1d5ee4", checked := Try.checked }
namespace Rows
def none {H : Type} : Left H := { results := [], args := [] }

/-- 'zzlaws_internal_wire_b1.FnReadHeadRoundTrip': WHATEVER THE INPUT: true; the input reads as it did. -/
def fnReadHeadRoundTripSpec : ChangeSpec := { name := "fnReadHeadRoundTrip", fn := fun _ => fun
  | [d1, d2, d3, d4] => { results := [.lit (.bool true)], args := [d1, d2, d3, d4] }
  | _ => none }
def fnReadHeadRoundTripRow : OpenClaim := { program := "qxb6600926a", sum := "be0649678b3f153a1e57e262d690823693b797fbf54c608347368d6aed1d5ee4", func := "example.com/muster/muster/zzlaws_internal_wire_b1.FnReadHeadRoundTrip", spec := "fnReadHeadRoundTrip", apart := false }
def FnReadHeadRoundTripSaid : Prop := fnReadHeadRoundTripRow.holds Try.pinned (OpenSpec.ofChange fnReadHeadRoundTripSpec)

/-- ITS FALSE NEIGHBOUR: 'it returns false'. Refute it at one input. -/
def fnReadHeadRoundTripWrong : ChangeSpec := { name := "fnReadHeadRoundTrip", fn := fun _ => fun
  | [d1, d2, d3, d4] => { results := [.lit (.bool false)], args := [d1, d2, d3, d4] }
  | _ => none }
def FnReadHeadRoundTripWrongFalsely : Prop := fnReadHeadRoundTripRow.holds Try.pinned (OpenSpec.ofChange fnReadHeadRoundTripWrong)

/-- 'zzlaws_internal_wire_b1.FnReadHeadIgnoresWhatFollows': WHATEVER THE INPUT: true; the input reads as it did. -/
def fnReadHeadIgnoresWhatFollowsSpec : ChangeSpec := { name := "fnReadHeadIgnoresWhatFollows", fn := fun _ => fun
  | [d1, d2, d3] => { results := [.lit (.bool true)], args := [d1, d2, d3] }
  | _ => none }
def fnReadHeadIgnoresWhatFollowsRow : OpenClaim := { program := "qxb6600926a", sum := "be0649678b3f153a1e57e262d690823693b797fbf54c608347368d6aed1d5ee4", func := "example.com/muster/muster/zzlaws_internal_wire_b1.FnReadHeadIgnoresWhatFollows", spec := "fnReadHeadIgnoresWhatFollows", apart := false }
def FnReadHeadIgnoresWhatFollowsSaid : Prop := fnReadHeadIgnoresWhatFollowsRow.holds Try.pinned (OpenSpec.ofChange fnReadHeadIgnoresWhatFollowsSpec)

/-- ITS FALSE NEIGHBOUR: 'it returns false'. Refute it at one input. -/
def fnReadHeadIgnoresWhatFollowsWrong : ChangeSpec := { name := "fnReadHeadIgnoresWhatFollows", fn := fun _ => fun
  | [d1, d2, d3] => { results := [.lit (.bool false)], args := [d1, d2, d3] }
  | _ => none }
def FnReadHeadIgnoresWhatFollowsWrongFalsely : Prop := fnReadHeadIgnoresWhatFollowsRow.holds Try.pinned (OpenSpec.ofChange fnReadHeadIgnoresWhatFollowsWrong)

end Rows
end Go.Proofs.Qxb6600926a
