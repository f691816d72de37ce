/-
  No cell of these rows narrows 'for every input' (looked for: loops, veiled, ifaces, maps, wideKeys, modest, calm, conditions, laid).
  DERIVED. THE GIVEN ROWS OF THIS SEAT. 4 by the template 'for every input the law returns true; each argument reads behind the call as it read before'; 0 by the template 'total and deterministic' (their statements: Qxb6001680aTotals.lean).
  GIVEN WITH THE SEED: the statements are not yours to turn. If you find one false, say at which input.
  Laid BY PROGRAM, IN A SANDBOX (cutbox-rows.mjs): the forced cells as the released guide's own fill.sh prints them over the translation 666b0c8bcbd2df47… (all of the seat's roots in one cut). By AI agents, Wed Nov 11 2026. No macro, syntax, notation, axiom, sorry.
-/
import Derived.Test.Qxb6001680aChecked
import GoSem.Claim
import GoSem.ClaimJoined
import GoSem.ClaimMapViews
import Derived.JoinedTies
import Derived.KernelRfl
namespace Go.Proofs.Qxb6001680a
/- THE CELL 'sum', in the pinned program and in every row, IS THE sha256 OF THE DUMP (.gsa) THAT Qxb6001680aProg.lean LOADS. Nothing in Lean hashes anything: it is a label: what it is worth is what the hold of that sum in a sandbox is worth. -/
noncomputable def Try.pinned : Pinned := { name := "qxb6001680a", sum := "666b0c8bcbd2df47dddf17440d838fddc157a60da1dbc2fb9c71ada8e3ca8ddb", checked := Try.checked }
namespace Rows
def none {H : Type} : Left H := { results := [], args := [] }

/-- 'zzlaws_internal_growing_g1.FnSegmentInsertOccupancyIsOrderFree': WHATEVER THE INPUT: true; the input reads as it did. -/
def fnSegmentInsertOccupancyIsOrderFreeSpec : ChangeSpec := { name := "fnSegmentInsertOccupancyIsOrderFree", fn := fun _ => fun
  | [d1, d2] => { results := [.lit (.bool true)], args := [d1, d2] }
  | _ => none }
def fnSegmentInsertOccupancyIsOrderFreeRow : OpenClaim := { program := "qxb6001680a", sum := "666b0c8bcbd2df47dddf17440d838fddc157a60da1dbc2fb9c71ada8e3ca8ddb", func := "example.com/gnotation/gnotation/zzlaws_internal_growing_g1.FnSegmentInsertOccupancyIsOrderFree", spec := "fnSegmentInsertOccupancyIsOrderFree", apart := false }
def FnSegmentInsertOccupancyIsOrderFreeSaid : Prop := fnSegmentInsertOccupancyIsOrderFreeRow.holds Try.pinned (OpenSpec.ofChange fnSegmentInsertOccupancyIsOrderFreeSpec)

/-- ITS FALSE NEIGHBOUR: 'it returns false'. Refute it at one input. -/
def fnSegmentInsertOccupancyIsOrderFreeWrong : ChangeSpec := { name := "fnSegmentInsertOccupancyIsOrderFree", fn := fun _ => fun
  | [d1, d2] => { results := [.lit (.bool false)], args := [d1, d2] }
  | _ => none }
def FnSegmentInsertOccupancyIsOrderFreeWrongFalsely : Prop := fnSegmentInsertOccupancyIsOrderFreeRow.holds Try.pinned (OpenSpec.ofChange fnSegmentInsertOccupancyIsOrderFreeWrong)

/-- 'zzlaws_internal_syntax_g1.FnHexDigitAgreesWithDigitTable': WHATEVER THE INPUT: true; the input reads as it did. -/
def fnHexDigitAgreesWithDigitTableSpec : ChangeSpec := { name := "fnHexDigitAgreesWithDigitTable", fn := fun _ => fun
  | [d] => { results := [.lit (.bool true)], args := [d] }
  | _ => none }
def fnHexDigitAgreesWithDigitTableRow : OpenClaim := { program := "qxb6001680a", sum := "666b0c8bcbd2df47dddf17440d838fddc157a60da1dbc2fb9c71ada8e3ca8ddb", func := "example.com/gnotation/gnotation/zzlaws_internal_syntax_g1.FnHexDigitAgreesWithDigitTable", spec := "fnHexDigitAgreesWithDigitTable", apart := false }
def FnHexDigitAgreesWithDigitTableSaid : Prop := fnHexDigitAgreesWithDigitTableRow.holds Try.pinned (OpenSpec.ofChange fnHexDigitAgreesWithDigitTableSpec)

/-- ITS FALSE NEIGHBOUR: 'it returns false'. Refute it at one input. -/
def fnHexDigitAgreesWithDigitTableWrong : ChangeSpec := { name := "fnHexDigitAgreesWithDigitTable", fn := fun _ => fun
  | [d] => { results := [.lit (.bool false)], args := [d] }
  | _ => none }
def FnHexDigitAgreesWithDigitTableWrongFalsely : Prop := fnHexDigitAgreesWithDigitTableRow.holds Try.pinned (OpenSpec.ofChange fnHexDigitAgreesWithDigitTableWrong)

/-- 'zzlaws_internal_syntax_g1.FnCommonPrefixIsLongestSharedStart': WHATEVER THE INPUT: true; the input reads as it did. -/
def fnCommonPrefixIsLongestSharedStartSpec : ChangeSpec := { name := "fnCommonPrefixIsLongestSharedStart", fn := fun _ => fun
  | [d1, d2] => { results := [.lit (.bool true)], args := [d1, d2] }
  | _ => none }
def fnCommonPrefixIsLongestSharedStartRow : OpenClaim := { program := "qxb6001680a", sum := "666b0c8bcbd2df47dddf17440d838fddc157a60da1dbc2fb9c71ada8e3ca8ddb", func := "example.com/gnotation/gnotation/zzlaws_internal_syntax_g1.FnCommonPrefixIsLongestSharedStart", spec := "fnCommonPrefixIsLongestSharedStart", apart := false }
def FnCommonPrefixIsLongestSharedStartSaid : Prop := fnCommonPrefixIsLongestSharedStartRow.holds Try.pinned (OpenSpec.ofChange fnCommonPrefixIsLongestSharedStartSpec)

/-- ITS FALSE NEIGHBOUR: 'it returns false'. Refute it at one input. -/
def fnCommonPrefixIsLongestSharedStartWrong : ChangeSpec := { name := "fnCommonPrefixIsLongestSharedStart", fn := fun _ => fun
  | [d1, d2] => { results := [.lit (.bool false)], args := [d1, d2] }
  | _ => none }
def FnCommonPrefixIsLongestSharedStartWrongFalsely : Prop := fnCommonPrefixIsLongestSharedStartRow.holds Try.pinned (OpenSpec.ofChange fnCommonPrefixIsLongestSharedStartWrong)

/-- 'zzlaws_internal_syntax_g1.FnWordRolesDisjointAndLowercase': WHATEVER THE INPUT: true; the input reads as it did. -/
def fnWordRolesDisjointAndLowercaseSpec : ChangeSpec := { name := "fnWordRolesDisjointAndLowercase", fn := fun _ => fun
  | [d] => { results := [.lit (.bool true)], args := [d] }
  | _ => none }
def fnWordRolesDisjointAndLowercaseRow : OpenClaim := { program := "qxb6001680a", sum := "666b0c8bcbd2df47dddf17440d838fddc157a60da1dbc2fb9c71ada8e3ca8ddb", func := "example.com/gnotation/gnotation/zzlaws_internal_syntax_g1.FnWordRolesDisjointAndLowercase", spec := "fnWordRolesDisjointAndLowercase", apart := false }
def FnWordRolesDisjointAndLowercaseSaid : Prop := fnWordRolesDisjointAndLowercaseRow.holds Try.pinned (OpenSpec.ofChange fnWordRolesDisjointAndLowercaseSpec)

/-- ITS FALSE NEIGHBOUR: 'it returns false'. Refute it at one input. -/
def fnWordRolesDisjointAndLowercaseWrong : ChangeSpec := { name := "fnWordRolesDisjointAndLowercase", fn := fun _ => fun
  | [d] => { results := [.lit (.bool false)], args := [d] }
  | _ => none }
def FnWordRolesDisjointAndLowercaseWrongFalsely : Prop := fnWordRolesDisjointAndLowercaseRow.holds Try.pinned (OpenSpec.ofChange fnWordRolesDisjointAndLowercaseWrong)

end Rows
end Go.Proofs.Qxb6001680a
