/-
  No cell of these rows narrows 'for every input' (looked for: loops, veiled, ifaces, maps, wideKeys, modest, calm, conditions, laid).
  DERIVED. THE GIVEN ROWS OF THIS SEAT. 2 by the template 'for every input the law returns true; each argument reads behind the call as it read before'; 0 by the template 'total and deterministic' (their statements: Qxb6603977aTotals.lean).
  GIVEN WITH THE SEED: the statements are not yours to turn. If you find one false, say at which input.
  Laid BY PROGRAM, IN A SANDBOX (cutbox-rows.mjs): the forced cells as the released guide's own fill.sh prints them over the translation e04d2828ce708bf7… (all of the seat's roots in one cut). By AI agents, Wed Nov 11 2026. No macro, syntax, notation, axiom, sorry.
-/
import Derived.Test.Qxb6603977aChecked
import GoSem.Claim
import GoSem.ClaimJoined
import GoSem.ClaimMapViews
import Derived.JoinedTies
import Derived.KernelRfl
namespace Go.Proofs.Qxb6603977a
/- THE CELL 'sum', in the pinned program and in every row, IS THE sha256 OF THE DUMP (.gsa) THAT Qxb6603977aProg.lean LOADS. Nothing in Lean hashes anything: it is a label: what it is worth is what the hold of that sum in a sandbox is worth. -/
noncomputable def Try.pinned : Pinned := { name := "qxb6603977a", sum := "e04d2828ce708bf7c1c5e526a94be2e66d4baab7af4aee7506a303bc2c2a3b36", checked := Try.checked }
namespace Rows
def none {H : Type} : Left H := { results := [], args := [] }

/-- 'zzlaws_plmn_b1.FnEncodeDecodesBackToID': WHATEVER THE INPUT: true; the input reads as it did. -/
def fnEncodeDecodesBackToIDSpec : ChangeSpec := { name := "fnEncodeDecodesBackToID", fn := fun _ => fun
  | [d1, d2] => { results := [.lit (.bool true)], args := [d1, d2] }
  | _ => none }
def fnEncodeDecodesBackToIDRow : OpenClaim := { program := "qxb6603977a", sum := "e04d2828ce708bf7c1c5e526a94be2e66d4baab7af4aee7506a303bc2c2a3b36", func := "example.com/kasmere/kasmere/zzlaws_plmn_b1.FnEncodeDecodesBackToID", spec := "fnEncodeDecodesBackToID", apart := false }
def FnEncodeDecodesBackToIDSaid : Prop := fnEncodeDecodesBackToIDRow.holds Try.pinned (OpenSpec.ofChange fnEncodeDecodesBackToIDSpec)

/-- ITS FALSE NEIGHBOUR: 'it returns false'. Refute it at one input. -/
def fnEncodeDecodesBackToIDWrong : ChangeSpec := { name := "fnEncodeDecodesBackToID", fn := fun _ => fun
  | [d1, d2] => { results := [.lit (.bool false)], args := [d1, d2] }
  | _ => none }
def FnEncodeDecodesBackToIDWrongFalsely : Prop := fnEncodeDecodesBackToIDRow.holds Try.pinned (OpenSpec.ofChange fnEncodeDecodesBackToIDWrong)

/-- 'zzlaws_plmn_b1.FnEncodeIsInjective': WHATEVER THE INPUT: true; the input reads as it did. -/
def fnEncodeIsInjectiveSpec : ChangeSpec := { name := "fnEncodeIsInjective", fn := fun _ => fun
  | [d1, d2, d3, d4] => { results := [.lit (.bool true)], args := [d1, d2, d3, d4] }
  | _ => none }
def fnEncodeIsInjectiveRow : OpenClaim := { program := "qxb6603977a", sum := "e04d2828ce708bf7c1c5e526a94be2e66d4baab7af4aee7506a303bc2c2a3b36", func := "example.com/kasmere/kasmere/zzlaws_plmn_b1.FnEncodeIsInjective", spec := "fnEncodeIsInjective", apart := false }
def FnEncodeIsInjectiveSaid : Prop := fnEncodeIsInjectiveRow.holds Try.pinned (OpenSpec.ofChange fnEncodeIsInjectiveSpec)

/-- ITS FALSE NEIGHBOUR: 'it returns false'. Refute it at one input. -/
def fnEncodeIsInjectiveWrong : ChangeSpec := { name := "fnEncodeIsInjective", fn := fun _ => fun
  | [d1, d2, d3, d4] => { results := [.lit (.bool false)], args := [d1, d2, d3, d4] }
  | _ => none }
def FnEncodeIsInjectiveWrongFalsely : Prop := fnEncodeIsInjectiveRow.holds Try.pinned (OpenSpec.ofChange fnEncodeIsInjectiveWrong)

end Rows
end Go.Proofs.Qxb6603977a
