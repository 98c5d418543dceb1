/-
  No cell of these rows narrows 'for every input' (looked for: loops, veiled, ifaces, maps, wideKeys, modest, calm, conditions, laid).
  DERIVED. THE GIVEN ROWS OF THIS SEAT. 2 by the template 'for every input the law returns true; each argument reads behind the call as it read before'; 0 by the template 'total and deterministic' (their statements: Qxb6602188aTotals.lean).
  GIVEN WITH THE SEED: the statements are not yours to turn. If you find one false, say at which input.
  Laid BY PROGRAM, IN A SANDBOX (cutbox-rows.mjs): the forced cells as the released guide's own fill.sh prints them over the translation 58558f43afdf3df3… (all of the seat's roots in one cut). By AI agents, Wed Nov 11 2026. No macro, syntax, notation, axiom, sorry.
-/
import Derived.Test.Qxb6602188aChecked
import GoSem.Claim
import GoSem.ClaimJoined
import GoSem.ClaimMapViews
import Derived.JoinedTies
import Derived.KernelRfl
namespace Go.Proofs.Qxb6602188a
/- THE CELL 'sum', in the pinned program and in every row, IS THE sha256 OF THE DUMP (.gsa) THAT Qxb6602188aProg.lean LOADS. Nothing in Lean hashes anything: it is a label: what it is worth is what the hold of that sum in a sandbox is worth. -/
noncomputable def Try.pinned : Pinned := { name := "qxb6602188a", sum := "58558f43afdf3df35111c03d9d36216b91cd0c6c6efa481d0c89470fc40ba49f", checked := Try.checked }
namespace Rows
def none {H : Type} : Left H := { results := [], args := [] }

/-- 'zzlaws_types_b1.FnFractionTrailingZero': WHATEVER THE INPUT: true; the input reads as it did. -/
def fnFractionTrailingZeroSpec : ChangeSpec := { name := "fnFractionTrailingZero", fn := fun _ => fun
  | [d1, d2, d3] => { results := [.lit (.bool true)], args := [d1, d2, d3] }
  | _ => none }
def fnFractionTrailingZeroRow : OpenClaim := { program := "qxb6602188a", sum := "58558f43afdf3df35111c03d9d36216b91cd0c6c6efa481d0c89470fc40ba49f", func := "example.com/shardwright/shardwright/zzlaws_types_b1.FnFractionTrailingZero", spec := "fnFractionTrailingZero", apart := false }
def FnFractionTrailingZeroSaid : Prop := fnFractionTrailingZeroRow.holds Try.pinned (OpenSpec.ofChange fnFractionTrailingZeroSpec)

/-- ITS FALSE NEIGHBOUR: 'it returns false'. Refute it at one input. -/
def fnFractionTrailingZeroWrong : ChangeSpec := { name := "fnFractionTrailingZero", fn := fun _ => fun
  | [d1, d2, d3] => { results := [.lit (.bool false)], args := [d1, d2, d3] }
  | _ => none }
def FnFractionTrailingZeroWrongFalsely : Prop := fnFractionTrailingZeroRow.holds Try.pinned (OpenSpec.ofChange fnFractionTrailingZeroWrong)

/-- 'zzlaws_types_b1.FnOffsetRoundTrip': WHATEVER THE INPUT: true; the input reads as it did. -/
def fnOffsetRoundTripSpec : ChangeSpec := { name := "fnOffsetRoundTrip", fn := fun _ => fun
  | [d1, d2, d3, d4, d5, d6, d7, d8] => { results := [.lit (.bool true)], args := [d1, d2, d3, d4, d5, d6, d7, d8] }
  | _ => none }
def fnOffsetRoundTripRow : OpenClaim := { program := "qxb6602188a", sum := "58558f43afdf3df35111c03d9d36216b91cd0c6c6efa481d0c89470fc40ba49f", func := "example.com/shardwright/shardwright/zzlaws_types_b1.FnOffsetRoundTrip", spec := "fnOffsetRoundTrip", apart := false }
def FnOffsetRoundTripSaid : Prop := fnOffsetRoundTripRow.holds Try.pinned (OpenSpec.ofChange fnOffsetRoundTripSpec)

/-- ITS FALSE NEIGHBOUR: 'it returns false'. Refute it at one input. -/
def fnOffsetRoundTripWrong : ChangeSpec := { name := "fnOffsetRoundTrip", fn := fun _ => fun
  | [d1, d2, d3, d4, d5, d6, d7, d8] => { results := [.lit (.bool false)], args := [d1, d2, d3, d4, d5, d6, d7, d8] }
  | _ => none }
def FnOffsetRoundTripWrongFalsely : Prop := fnOffsetRoundTripRow.holds Try.pinned (OpenSpec.ofChange fnOffsetRoundTripWrong)

end Rows
end Go.Proofs.Qxb6602188a
