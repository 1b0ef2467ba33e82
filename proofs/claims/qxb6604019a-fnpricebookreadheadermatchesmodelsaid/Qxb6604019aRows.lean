/-
  No cell of these rows narrows 'for every input' (looked for: loops, veiled, ifaces, maps, wideKeys, modest, calm, conditions, laid).
  DERIVED. THE GIVEN ROWS OF THIS SEAT. 5 by the template 'for every input the law returns true; each argument reads behind the call as it read before'; 0 by the template 'total and deterministic' (their statements: Qxb6604019aTotals.lean).
  GIVEN WITH THE SEED: the statements are not yours to turn. If you find one false, say at which input.
  Laid BY PROGRAM, IN A SANDBOX (cutbox-rows.mjs): the forced cells as the released guide's own fill.sh prints them over the translation 91f20e1880192f1a… (all of the seat's roots in one cut). By AI agents, Wed Nov 11 2026. No macro, syntax, notation, axiom, sorry.
-/
import Derived.Test.Qxb6604019aChecked
import GoSem.Claim
import GoSem.ClaimJoined
import GoSem.ClaimMapViews
import Derived.JoinedTies
import Derived.KernelRfl
namespace Go.Proofs.Qxb6604019a
/- THE CELL 'sum', in the pinned program and in every row, IS THE sha256 OF THE DUMP (.gsa) THAT Qxb6604019aProg.lean LOADS. Nothing in Lean hashes anything: it is a label: what it is worth is what the hold of that sum in a sandbox is worth. -/
noncomputable def Try.pinned : Pinned := { name := "qxb6604019a", sum := "91f20e1880192f1af78efa5ecbd022d02c03029b94e98e1e157021aaa9ff6ed1", checked := Try.checked }
namespace Rows
def none {H : Type} : Left H := { results := [], args := [] }

/-- 'zzlaws_pricebook_b1.FnPricebookReadHeaderMatchesModel': WHATEVER THE INPUT: true; the input reads as it did. -/
def fnPricebookReadHeaderMatchesModelSpec : ChangeSpec := { name := "fnPricebookReadHeaderMatchesModel", fn := fun _ => fun
  | [d1, d2, d3, d4] => { results := [.lit (.bool true)], args := [d1, d2, d3, d4] }
  | _ => none }
def fnPricebookReadHeaderMatchesModelRow : OpenClaim := { program := "qxb6604019a", sum := "91f20e1880192f1af78efa5ecbd022d02c03029b94e98e1e157021aaa9ff6ed1", func := "example.com/staffelwerk/staffelwerk/zzlaws_pricebook_b1.FnPricebookReadHeaderMatchesModel", spec := "fnPricebookReadHeaderMatchesModel", apart := false }
def FnPricebookReadHeaderMatchesModelSaid : Prop := fnPricebookReadHeaderMatchesModelRow.holds Try.pinned (OpenSpec.ofChange fnPricebookReadHeaderMatchesModelSpec)

/-- ITS FALSE NEIGHBOUR: 'it returns false'. Refute it at one input. -/
def fnPricebookReadHeaderMatchesModelWrong : ChangeSpec := { name := "fnPricebookReadHeaderMatchesModel", fn := fun _ => fun
  | [d1, d2, d3, d4] => { results := [.lit (.bool false)], args := [d1, d2, d3, d4] }
  | _ => none }
def FnPricebookReadHeaderMatchesModelWrongFalsely : Prop := fnPricebookReadHeaderMatchesModelRow.holds Try.pinned (OpenSpec.ofChange fnPricebookReadHeaderMatchesModelWrong)

/-- 'zzlaws_pricebook_b1.FnPricebookReadHeaderPositionsReadTheirColumn': WHATEVER THE INPUT: true; the input reads as it did. -/
def fnPricebookReadHeaderPositionsReadTheirColumnSpec : ChangeSpec := { name := "fnPricebookReadHeaderPositionsReadTheirColumn", fn := fun _ => fun
  | [d1, d2, d3, d4] => { results := [.lit (.bool true)], args := [d1, d2, d3, d4] }
  | _ => none }
def fnPricebookReadHeaderPositionsReadTheirColumnRow : OpenClaim := { program := "qxb6604019a", sum := "91f20e1880192f1af78efa5ecbd022d02c03029b94e98e1e157021aaa9ff6ed1", func := "example.com/staffelwerk/staffelwerk/zzlaws_pricebook_b1.FnPricebookReadHeaderPositionsReadTheirColumn", spec := "fnPricebookReadHeaderPositionsReadTheirColumn", apart := false }
def FnPricebookReadHeaderPositionsReadTheirColumnSaid : Prop := fnPricebookReadHeaderPositionsReadTheirColumnRow.holds Try.pinned (OpenSpec.ofChange fnPricebookReadHeaderPositionsReadTheirColumnSpec)

/-- ITS FALSE NEIGHBOUR: 'it returns false'. Refute it at one input. -/
def fnPricebookReadHeaderPositionsReadTheirColumnWrong : ChangeSpec := { name := "fnPricebookReadHeaderPositionsReadTheirColumn", fn := fun _ => fun
  | [d1, d2, d3, d4] => { results := [.lit (.bool false)], args := [d1, d2, d3, d4] }
  | _ => none }
def FnPricebookReadHeaderPositionsReadTheirColumnWrongFalsely : Prop := fnPricebookReadHeaderPositionsReadTheirColumnRow.holds Try.pinned (OpenSpec.ofChange fnPricebookReadHeaderPositionsReadTheirColumnWrong)

/-- 'zzlaws_pricebook_b1.FnPricebookReadHeaderAcceptsExactlyCompleteHeaders': WHATEVER THE INPUT: true; the input reads as it did. -/
def fnPricebookReadHeaderAcceptsExactlyCompleteHeadersSpec : ChangeSpec := { name := "fnPricebookReadHeaderAcceptsExactlyCompleteHeaders", fn := fun _ => fun
  | [d1, d2, d3, d4] => { results := [.lit (.bool true)], args := [d1, d2, d3, d4] }
  | _ => none }
def fnPricebookReadHeaderAcceptsExactlyCompleteHeadersRow : OpenClaim := { program := "qxb6604019a", sum := "91f20e1880192f1af78efa5ecbd022d02c03029b94e98e1e157021aaa9ff6ed1", func := "example.com/staffelwerk/staffelwerk/zzlaws_pricebook_b1.FnPricebookReadHeaderAcceptsExactlyCompleteHeaders", spec := "fnPricebookReadHeaderAcceptsExactlyCompleteHeaders", apart := false }
def FnPricebookReadHeaderAcceptsExactlyCompleteHeadersSaid : Prop := fnPricebookReadHeaderAcceptsExactlyCompleteHeadersRow.holds Try.pinned (OpenSpec.ofChange fnPricebookReadHeaderAcceptsExactlyCompleteHeadersSpec)

/-- ITS FALSE NEIGHBOUR: 'it returns false'. Refute it at one input. -/
def fnPricebookReadHeaderAcceptsExactlyCompleteHeadersWrong : ChangeSpec := { name := "fnPricebookReadHeaderAcceptsExactlyCompleteHeaders", fn := fun _ => fun
  | [d1, d2, d3, d4] => { results := [.lit (.bool false)], args := [d1, d2, d3, d4] }
  | _ => none }
def FnPricebookReadHeaderAcceptsExactlyCompleteHeadersWrongFalsely : Prop := fnPricebookReadHeaderAcceptsExactlyCompleteHeadersRow.holds Try.pinned (OpenSpec.ofChange fnPricebookReadHeaderAcceptsExactlyCompleteHeadersWrong)

/-- 'zzlaws_pricebook_b1.FnPricebookInternScriptKeepsEachDistinctStringOnce': WHATEVER THE INPUT: true; the input reads as it did. -/
def fnPricebookInternScriptKeepsEachDistinctStringOnceSpec : ChangeSpec := { name := "fnPricebookInternScriptKeepsEachDistinctStringOnce", fn := fun _ => fun
  | [d] => { results := [.lit (.bool true)], args := [d] }
  | _ => none }
def fnPricebookInternScriptKeepsEachDistinctStringOnceRow : OpenClaim := { program := "qxb6604019a", sum := "91f20e1880192f1af78efa5ecbd022d02c03029b94e98e1e157021aaa9ff6ed1", func := "example.com/staffelwerk/staffelwerk/zzlaws_pricebook_b1.FnPricebookInternScriptKeepsEachDistinctStringOnce", spec := "fnPricebookInternScriptKeepsEachDistinctStringOnce", inPlace := ["internal/abi.NoEscape", "internal/bytealg.MakeNoZero"], apart := false }
def FnPricebookInternScriptKeepsEachDistinctStringOnceSaid : Prop := fnPricebookInternScriptKeepsEachDistinctStringOnceRow.holds Try.pinned (OpenSpec.ofChange fnPricebookInternScriptKeepsEachDistinctStringOnceSpec)

/-- ITS FALSE NEIGHBOUR: 'it returns false'. Refute it at one input. -/
def fnPricebookInternScriptKeepsEachDistinctStringOnceWrong : ChangeSpec := { name := "fnPricebookInternScriptKeepsEachDistinctStringOnce", fn := fun _ => fun
  | [d] => { results := [.lit (.bool false)], args := [d] }
  | _ => none }
def FnPricebookInternScriptKeepsEachDistinctStringOnceWrongFalsely : Prop := fnPricebookInternScriptKeepsEachDistinctStringOnceRow.holds Try.pinned (OpenSpec.ofChange fnPricebookInternScriptKeepsEachDistinctStringOnceWrong)

/-- 'zzlaws_pricebook_b1.FnPricebookInternOneCallAddsOnlyANewString': WHATEVER THE INPUT: true; the input reads as it did. -/
def fnPricebookInternOneCallAddsOnlyANewStringSpec : ChangeSpec := { name := "fnPricebookInternOneCallAddsOnlyANewString", fn := fun _ => fun
  | [d1, d2] => { results := [.lit (.bool true)], args := [d1, d2] }
  | _ => none }
def fnPricebookInternOneCallAddsOnlyANewStringRow : OpenClaim := { program := "qxb6604019a", sum := "91f20e1880192f1af78efa5ecbd022d02c03029b94e98e1e157021aaa9ff6ed1", func := "example.com/staffelwerk/staffelwerk/zzlaws_pricebook_b1.FnPricebookInternOneCallAddsOnlyANewString", spec := "fnPricebookInternOneCallAddsOnlyANewString", inPlace := ["internal/abi.NoEscape", "internal/bytealg.MakeNoZero"], apart := false }
def FnPricebookInternOneCallAddsOnlyANewStringSaid : Prop := fnPricebookInternOneCallAddsOnlyANewStringRow.holds Try.pinned (OpenSpec.ofChange fnPricebookInternOneCallAddsOnlyANewStringSpec)

/-- ITS FALSE NEIGHBOUR: 'it returns false'. Refute it at one input. -/
def fnPricebookInternOneCallAddsOnlyANewStringWrong : ChangeSpec := { name := "fnPricebookInternOneCallAddsOnlyANewString", fn := fun _ => fun
  | [d1, d2] => { results := [.lit (.bool false)], args := [d1, d2] }
  | _ => none }
def FnPricebookInternOneCallAddsOnlyANewStringWrongFalsely : Prop := fnPricebookInternOneCallAddsOnlyANewStringRow.holds Try.pinned (OpenSpec.ofChange fnPricebookInternOneCallAddsOnlyANewStringWrong)

end Rows
end Go.Proofs.Qxb6604019a
