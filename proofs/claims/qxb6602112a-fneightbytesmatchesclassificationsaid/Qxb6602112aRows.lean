/-
  No cell of these rows narrows 'for every input' (looked for: loops, veiled, ifaces, maps, wideKeys, modest, calm, conditions, laid).
  DERIVED. THE GIVEN ROWS OF THIS SEAT. 5 by the template 'for every input the law returns true; each argument reads behind the call as it read before'; 0 by the template 'total and deterministic' (their statements: Qxb6602112aTotals.lean).
  GIVEN WITH THE SEED: the statements are not yours to turn. If you find one false, say at which input.
  Laid BY PROGRAM, IN A SANDBOX (cutbox-rows.mjs): the forced cells as the released guide's own fill.sh prints them over the translation b0b0ef8a2c676645… (all of the seat's roots in one cut). By AI agents, Wed Nov 11 2026. No macro, syntax, notation, axiom, sorry.
-/
import Derived.Test.Qxb6602112aChecked
import GoSem.Claim
import GoSem.ClaimJoined
import GoSem.ClaimMapViews
import Derived.JoinedTies
import Derived.KernelRfl
namespace Go.Proofs.Qxb6602112a
/- THE CELL 'sum', in the pinned program and in every row, IS THE sha256 OF THE DUMP (.gsa) THAT Qxb6602112aProg.lean LOADS. Nothing in Lean hashes anything: it is a label: what it is worth is what the hold of that sum in a sandbox is worth. -/
noncomputable def Try.pinned : Pinned := { name := "qxb6602112a", sum := "b0b0ef8a2c676645c765c72c43a8eb1bd5b1f605d5d864bd3b48e3fcff0529f7", checked := Try.checked }
namespace Rows
def none {H : Type} : Left H := { results := [], args := [] }

/-- 'zzlaws_internal_amd64_b1.FnLowMatchesRegisterTable': WHATEVER THE INPUT: true; the input reads as it did. -/
def fnLowMatchesRegisterTableSpec : ChangeSpec := { name := "fnLowMatchesRegisterTable", fn := fun _ => fun
  | [d1, d2] => { results := [.lit (.bool true)], args := [d1, d2] }
  | _ => none }
def fnLowMatchesRegisterTableRow : OpenClaim := { program := "qxb6602112a", sum := "b0b0ef8a2c676645c765c72c43a8eb1bd5b1f605d5d864bd3b48e3fcff0529f7", func := "example.com/nearcall/nearcall/zzlaws_internal_amd64_b1.FnLowMatchesRegisterTable", spec := "fnLowMatchesRegisterTable", apart := false }
def FnLowMatchesRegisterTableSaid : Prop := fnLowMatchesRegisterTableRow.holds Try.pinned (OpenSpec.ofChange fnLowMatchesRegisterTableSpec)

/-- ITS FALSE NEIGHBOUR: 'it returns false'. Refute it at one input. -/
def fnLowMatchesRegisterTableWrong : ChangeSpec := { name := "fnLowMatchesRegisterTable", fn := fun _ => fun
  | [d1, d2] => { results := [.lit (.bool false)], args := [d1, d2] }
  | _ => none }
def FnLowMatchesRegisterTableWrongFalsely : Prop := fnLowMatchesRegisterTableRow.holds Try.pinned (OpenSpec.ofChange fnLowMatchesRegisterTableWrong)

/-- 'zzlaws_internal_amd64_b1.FnLowInjective': WHATEVER THE INPUT: true; the input reads as it did. -/
def fnLowInjectiveSpec : ChangeSpec := { name := "fnLowInjective", fn := fun _ => fun
  | [d1, d2, d3, d4] => { results := [.lit (.bool true)], args := [d1, d2, d3, d4] }
  | _ => none }
def fnLowInjectiveRow : OpenClaim := { program := "qxb6602112a", sum := "b0b0ef8a2c676645c765c72c43a8eb1bd5b1f605d5d864bd3b48e3fcff0529f7", func := "example.com/nearcall/nearcall/zzlaws_internal_amd64_b1.FnLowInjective", spec := "fnLowInjective", apart := false }
def FnLowInjectiveSaid : Prop := fnLowInjectiveRow.holds Try.pinned (OpenSpec.ofChange fnLowInjectiveSpec)

/-- ITS FALSE NEIGHBOUR: 'it returns false'. Refute it at one input. -/
def fnLowInjectiveWrong : ChangeSpec := { name := "fnLowInjective", fn := fun _ => fun
  | [d1, d2, d3, d4] => { results := [.lit (.bool false)], args := [d1, d2, d3, d4] }
  | _ => none }
def FnLowInjectiveWrongFalsely : Prop := fnLowInjectiveRow.holds Try.pinned (OpenSpec.ofChange fnLowInjectiveWrong)

/-- 'zzlaws_internal_amd64_b1.FnEightbytesMatchesClassification': WHATEVER THE INPUT: true; the input reads as it did. -/
def fnEightbytesMatchesClassificationSpec : ChangeSpec := { name := "fnEightbytesMatchesClassification", fn := fun _ => fun
  | [d1, d2] => { results := [.lit (.bool true)], args := [d1, d2] }
  | _ => none }
def fnEightbytesMatchesClassificationRow : OpenClaim := { program := "qxb6602112a", sum := "b0b0ef8a2c676645c765c72c43a8eb1bd5b1f605d5d864bd3b48e3fcff0529f7", func := "example.com/nearcall/nearcall/zzlaws_internal_amd64_b1.FnEightbytesMatchesClassification", spec := "fnEightbytesMatchesClassification", unfollowed := true, recurses := true, apart := false }
def FnEightbytesMatchesClassificationSaid : Prop := fnEightbytesMatchesClassificationRow.holds Try.pinned (OpenSpec.ofChange fnEightbytesMatchesClassificationSpec)

/-- ITS FALSE NEIGHBOUR: 'it returns false'. Refute it at one input. -/
def fnEightbytesMatchesClassificationWrong : ChangeSpec := { name := "fnEightbytesMatchesClassification", fn := fun _ => fun
  | [d1, d2] => { results := [.lit (.bool false)], args := [d1, d2] }
  | _ => none }
def FnEightbytesMatchesClassificationWrongFalsely : Prop := fnEightbytesMatchesClassificationRow.holds Try.pinned (OpenSpec.ofChange fnEightbytesMatchesClassificationWrong)

/-- 'zzlaws_internal_amd64_b1.FnEightbytesIgnoresOrderAndPadding': WHATEVER THE INPUT: true; the input reads as it did. -/
def fnEightbytesIgnoresOrderAndPaddingSpec : ChangeSpec := { name := "fnEightbytesIgnoresOrderAndPadding", fn := fun _ => fun
  | [d1, d2] => { results := [.lit (.bool true)], args := [d1, d2] }
  | _ => none }
def fnEightbytesIgnoresOrderAndPaddingRow : OpenClaim := { program := "qxb6602112a", sum := "b0b0ef8a2c676645c765c72c43a8eb1bd5b1f605d5d864bd3b48e3fcff0529f7", func := "example.com/nearcall/nearcall/zzlaws_internal_amd64_b1.FnEightbytesIgnoresOrderAndPadding", spec := "fnEightbytesIgnoresOrderAndPadding", unfollowed := true, recurses := true, apart := false }
def FnEightbytesIgnoresOrderAndPaddingSaid : Prop := fnEightbytesIgnoresOrderAndPaddingRow.holds Try.pinned (OpenSpec.ofChange fnEightbytesIgnoresOrderAndPaddingSpec)

/-- ITS FALSE NEIGHBOUR: 'it returns false'. Refute it at one input. -/
def fnEightbytesIgnoresOrderAndPaddingWrong : ChangeSpec := { name := "fnEightbytesIgnoresOrderAndPadding", fn := fun _ => fun
  | [d1, d2] => { results := [.lit (.bool false)], args := [d1, d2] }
  | _ => none }
def FnEightbytesIgnoresOrderAndPaddingWrongFalsely : Prop := fnEightbytesIgnoresOrderAndPaddingRow.holds Try.pinned (OpenSpec.ofChange fnEightbytesIgnoresOrderAndPaddingWrong)

/-- 'zzlaws_internal_amd64_b1.FnEightbytesIntegerFieldOnlyRaisesItsEightbyte': WHATEVER THE INPUT: true; the input reads as it did. -/
def fnEightbytesIntegerFieldOnlyRaisesItsEightbyteSpec : ChangeSpec := { name := "fnEightbytesIntegerFieldOnlyRaisesItsEightbyte", fn := fun _ => fun
  | [d1, d2, d3] => { results := [.lit (.bool true)], args := [d1, d2, d3] }
  | _ => none }
def fnEightbytesIntegerFieldOnlyRaisesItsEightbyteRow : OpenClaim := { program := "qxb6602112a", sum := "b0b0ef8a2c676645c765c72c43a8eb1bd5b1f605d5d864bd3b48e3fcff0529f7", func := "example.com/nearcall/nearcall/zzlaws_internal_amd64_b1.FnEightbytesIntegerFieldOnlyRaisesItsEightbyte", spec := "fnEightbytesIntegerFieldOnlyRaisesItsEightbyte", unfollowed := true, recurses := true, apart := false }
def FnEightbytesIntegerFieldOnlyRaisesItsEightbyteSaid : Prop := fnEightbytesIntegerFieldOnlyRaisesItsEightbyteRow.holds Try.pinned (OpenSpec.ofChange fnEightbytesIntegerFieldOnlyRaisesItsEightbyteSpec)

/-- ITS FALSE NEIGHBOUR: 'it returns false'. Refute it at one input. -/
def fnEightbytesIntegerFieldOnlyRaisesItsEightbyteWrong : ChangeSpec := { name := "fnEightbytesIntegerFieldOnlyRaisesItsEightbyte", fn := fun _ => fun
  | [d1, d2, d3] => { results := [.lit (.bool false)], args := [d1, d2, d3] }
  | _ => none }
def FnEightbytesIntegerFieldOnlyRaisesItsEightbyteWrongFalsely : Prop := fnEightbytesIntegerFieldOnlyRaisesItsEightbyteRow.holds Try.pinned (OpenSpec.ofChange fnEightbytesIntegerFieldOnlyRaisesItsEightbyteWrong)

end Rows
end Go.Proofs.Qxb6602112a
