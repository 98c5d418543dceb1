/-
  No cell of these rows narrows 'for every input' (looked for: loops, veiled, ifaces, maps, wideKeys, modest, calm, conditions, laid).
  DERIVED. THE GIVEN ROWS OF THIS SEAT. 3 by the template 'for every input the law returns true; each argument reads behind the call as it read before'; 0 by the template 'total and deterministic' (their statements: Qxb6602134aTotals.lean).
  GIVEN WITH THE SEED: the statements are not yours to turn. If you find one false, say at which input.
  Laid BY PROGRAM, IN A SANDBOX (cutbox-rows.mjs): the forced cells as the released guide's own fill.sh prints them over the translation a78781197b870a9f… (all of the seat's roots in one cut). By AI agents, Wed Nov 11 2026. No macro, syntax, notation, axiom, sorry.
-/
import Derived.Test.Qxb6602134aChecked
import GoSem.Claim
import GoSem.ClaimJoined
import GoSem.ClaimMapViews
import Derived.JoinedTies
import Derived.KernelRfl
namespace Go.Proofs.Qxb6602134a
/- THE CELL 'sum', in the pinned program and in every row, IS THE sha256 OF THE DUMP (.gsa) THAT Qxb6602134aProg.lean LOADS. Nothing in Lean hashes anything: it is a label: what it is worth is what the hold of that sum in a sandbox is worth. -/
noncomputable def Try.pinned : Pinned := { name := "qxb6602134a", sum := "a78781197b870a9fa632fa9fb2d5b6d1d0fae14373791f19e45edc48ed0b21e8", checked := Try.checked }
namespace Rows
def none {H : Type} : Left H := { results := [], args := [] }

/-- 'zzlaws_input_b1.FnIsNameRuneMatchesGapTable': WHATEVER THE INPUT: true; the input reads as it did. -/
def fnIsNameRuneMatchesGapTableSpec : ChangeSpec := { name := "fnIsNameRuneMatchesGapTable", fn := fun _ => fun
  | [d1, d2] => { results := [.lit (.bool true)], args := [d1, d2] }
  | _ => none }
def fnIsNameRuneMatchesGapTableRow : OpenClaim := { program := "qxb6602134a", sum := "a78781197b870a9fa632fa9fb2d5b6d1d0fae14373791f19e45edc48ed0b21e8", func := "example.com/vestline/vestline/zzlaws_input_b1.FnIsNameRuneMatchesGapTable", spec := "fnIsNameRuneMatchesGapTable", apart := false }
def FnIsNameRuneMatchesGapTableSaid : Prop := fnIsNameRuneMatchesGapTableRow.holds Try.pinned (OpenSpec.ofChange fnIsNameRuneMatchesGapTableSpec)

/-- ITS FALSE NEIGHBOUR: 'it returns false'. Refute it at one input. -/
def fnIsNameRuneMatchesGapTableWrong : ChangeSpec := { name := "fnIsNameRuneMatchesGapTable", fn := fun _ => fun
  | [d1, d2] => { results := [.lit (.bool false)], args := [d1, d2] }
  | _ => none }
def FnIsNameRuneMatchesGapTableWrongFalsely : Prop := fnIsNameRuneMatchesGapTableRow.holds Try.pinned (OpenSpec.ofChange fnIsNameRuneMatchesGapTableWrong)

/-- 'zzlaws_input_b1.FnIsNameRuneStartNarrowsByThreeBlocks': WHATEVER THE INPUT: true; the input reads as it did. -/
def fnIsNameRuneStartNarrowsByThreeBlocksSpec : ChangeSpec := { name := "fnIsNameRuneStartNarrowsByThreeBlocks", fn := fun _ => fun
  | [d] => { results := [.lit (.bool true)], args := [d] }
  | _ => none }
def fnIsNameRuneStartNarrowsByThreeBlocksRow : OpenClaim := { program := "qxb6602134a", sum := "a78781197b870a9fa632fa9fb2d5b6d1d0fae14373791f19e45edc48ed0b21e8", func := "example.com/vestline/vestline/zzlaws_input_b1.FnIsNameRuneStartNarrowsByThreeBlocks", spec := "fnIsNameRuneStartNarrowsByThreeBlocks", apart := false }
def FnIsNameRuneStartNarrowsByThreeBlocksSaid : Prop := fnIsNameRuneStartNarrowsByThreeBlocksRow.holds Try.pinned (OpenSpec.ofChange fnIsNameRuneStartNarrowsByThreeBlocksSpec)

/-- ITS FALSE NEIGHBOUR: 'it returns false'. Refute it at one input. -/
def fnIsNameRuneStartNarrowsByThreeBlocksWrong : ChangeSpec := { name := "fnIsNameRuneStartNarrowsByThreeBlocks", fn := fun _ => fun
  | [d] => { results := [.lit (.bool false)], args := [d] }
  | _ => none }
def FnIsNameRuneStartNarrowsByThreeBlocksWrongFalsely : Prop := fnIsNameRuneStartNarrowsByThreeBlocksRow.holds Try.pinned (OpenSpec.ofChange fnIsNameRuneStartNarrowsByThreeBlocksWrong)

/-- 'zzlaws_input_b1.FnDeclaredReadsBackQuotedValue': WHATEVER THE INPUT: true; the input reads as it did. -/
def fnDeclaredReadsBackQuotedValueSpec : ChangeSpec := { name := "fnDeclaredReadsBackQuotedValue", fn := fun _ => fun
  | [d1, d2, d3] => { results := [.lit (.bool true)], args := [d1, d2, d3] }
  | _ => none }
def fnDeclaredReadsBackQuotedValueRow : OpenClaim := { program := "qxb6602134a", sum := "a78781197b870a9fa632fa9fb2d5b6d1d0fae14373791f19e45edc48ed0b21e8", func := "example.com/vestline/vestline/zzlaws_input_b1.FnDeclaredReadsBackQuotedValue", spec := "fnDeclaredReadsBackQuotedValue", inPlace := ["internal/bytealg.IndexByteString", "internal/bytealg.IndexString"], named := ["internal/bytealg.MaxLen"], apart := false }
def FnDeclaredReadsBackQuotedValueSaid : Prop := fnDeclaredReadsBackQuotedValueRow.holds Try.pinned (OpenSpec.ofChange fnDeclaredReadsBackQuotedValueSpec)

/-- ITS FALSE NEIGHBOUR: 'it returns false'. Refute it at one input. -/
def fnDeclaredReadsBackQuotedValueWrong : ChangeSpec := { name := "fnDeclaredReadsBackQuotedValue", fn := fun _ => fun
  | [d1, d2, d3] => { results := [.lit (.bool false)], args := [d1, d2, d3] }
  | _ => none }
def FnDeclaredReadsBackQuotedValueWrongFalsely : Prop := fnDeclaredReadsBackQuotedValueRow.holds Try.pinned (OpenSpec.ofChange fnDeclaredReadsBackQuotedValueWrong)

end Rows
end Go.Proofs.Qxb6602134a
