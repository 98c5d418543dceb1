/-
  No cell of these rows narrows 'for every input' (looked for: loops, veiled, ifaces, maps, wideKeys, modest, calm, conditions, laid).
  DERIVED. THE GIVEN ROWS OF THIS SEAT. 2 by the template 'for every input the law returns true; each argument reads behind the call as it read before'; 0 by the template 'total and deterministic' (their statements: Qxb6602187aTotals.lean).
  GIVEN WITH THE SEED: the statements are not yours to turn. If you find one false, say at which input.
  Laid BY PROGRAM, IN A SANDBOX (cutbox-rows.mjs): the forced cells as the released guide's own fill.sh prints them over the translation cadb1632cb41889c… (all of the seat's roots in one cut). By AI agents, Wed Nov 11 2026. No macro, syntax, notation, axiom, sorry.
-/
import Derived.Test.Qxb6602187aChecked
import GoSem.Claim
import GoSem.ClaimJoined
import GoSem.ClaimMapViews
import Derived.JoinedTies
import Derived.KernelRfl
namespace Go.Proofs.Qxb6602187a
/- THE CELL 'sum', in the pinned program and in every row, IS THE sha256 OF THE DUMP (.gsa) THAT Qxb6602187aProg.lean LOADS. Nothing in Lean hashes anything: it is a label: what it is worth is what the hold of that sum in a sandbox is worth. -/
noncomputable def Try.pinned : Pinned := { name := "qxb6602187a", sum := "cadb1632cb41889caabd7108c8a39833d429558bfa7799fb087cfc490437e368", checked := Try.checked }
namespace Rows
def none {H : Type} : Left H := { results := [], args := [] }

/-- 'zzlaws_ddl_b1.FnColumnAroundMatchesBalancedScan': WHATEVER THE INPUT: true; the input reads as it did. -/
def fnColumnAroundMatchesBalancedScanSpec : ChangeSpec := { name := "fnColumnAroundMatchesBalancedScan", fn := fun _ => fun
  | [d1, d2, d3, d4, d5] => { results := [.lit (.bool true)], args := [d1, d2, d3, d4, d5] }
  | _ => none }
def fnColumnAroundMatchesBalancedScanRow : OpenClaim := { program := "qxb6602187a", sum := "cadb1632cb41889caabd7108c8a39833d429558bfa7799fb087cfc490437e368", func := "example.com/tributary/tributary/zzlaws_ddl_b1.FnColumnAroundMatchesBalancedScan", spec := "fnColumnAroundMatchesBalancedScan", apart := false }
def FnColumnAroundMatchesBalancedScanSaid : Prop := fnColumnAroundMatchesBalancedScanRow.holds Try.pinned (OpenSpec.ofChange fnColumnAroundMatchesBalancedScanSpec)

/-- ITS FALSE NEIGHBOUR: 'it returns false'. Refute it at one input. -/
def fnColumnAroundMatchesBalancedScanWrong : ChangeSpec := { name := "fnColumnAroundMatchesBalancedScan", fn := fun _ => fun
  | [d1, d2, d3, d4, d5] => { results := [.lit (.bool false)], args := [d1, d2, d3, d4, d5] }
  | _ => none }
def FnColumnAroundMatchesBalancedScanWrongFalsely : Prop := fnColumnAroundMatchesBalancedScanRow.holds Try.pinned (OpenSpec.ofChange fnColumnAroundMatchesBalancedScanWrong)

/-- 'zzlaws_ddl_b1.FnColumnAroundContainsIAndIsFixed': WHATEVER THE INPUT: true; the input reads as it did. -/
def fnColumnAroundContainsIAndIsFixedSpec : ChangeSpec := { name := "fnColumnAroundContainsIAndIsFixed", fn := fun _ => fun
  | [d1, d2, d3, d4, d5, d6] => { results := [.lit (.bool true)], args := [d1, d2, d3, d4, d5, d6] }
  | _ => none }
def fnColumnAroundContainsIAndIsFixedRow : OpenClaim := { program := "qxb6602187a", sum := "cadb1632cb41889caabd7108c8a39833d429558bfa7799fb087cfc490437e368", func := "example.com/tributary/tributary/zzlaws_ddl_b1.FnColumnAroundContainsIAndIsFixed", spec := "fnColumnAroundContainsIAndIsFixed", apart := false }
def FnColumnAroundContainsIAndIsFixedSaid : Prop := fnColumnAroundContainsIAndIsFixedRow.holds Try.pinned (OpenSpec.ofChange fnColumnAroundContainsIAndIsFixedSpec)

/-- ITS FALSE NEIGHBOUR: 'it returns false'. Refute it at one input. -/
def fnColumnAroundContainsIAndIsFixedWrong : ChangeSpec := { name := "fnColumnAroundContainsIAndIsFixed", fn := fun _ => fun
  | [d1, d2, d3, d4, d5, d6] => { results := [.lit (.bool false)], args := [d1, d2, d3, d4, d5, d6] }
  | _ => none }
def FnColumnAroundContainsIAndIsFixedWrongFalsely : Prop := fnColumnAroundContainsIAndIsFixedRow.holds Try.pinned (OpenSpec.ofChange fnColumnAroundContainsIAndIsFixedWrong)

end Rows
end Go.Proofs.Qxb6602187a
