/-
  No cell of these rows narrows 'for every input' (looked for: loops, veiled, ifaces, maps, wideKeys, modest, calm, conditions, laid).
  DERIVED. THE GIVEN ROWS OF THIS SEAT. 3 by the template 'for every input the law returns true; each argument reads behind the call as it read before'; 0 by the template 'total and deterministic' (their statements: Qxb6604014aTotals.lean).
  GIVEN WITH THE SEED: the statements are not yours to turn. If you find one false, say at which input.
  Laid BY PROGRAM, IN A SANDBOX (cutbox-rows.mjs): the forced cells as the released guide's own fill.sh prints them over the translation f97d2f09418dfa60… (all of the seat's roots in one cut). By AI agents, Wed Nov 11 2026. No macro, syntax, notation, axiom, sorry.
-/
import Derived.Test.Qxb6604014aChecked
import GoSem.Claim
import GoSem.ClaimJoined
import GoSem.ClaimMapViews
import Derived.JoinedTies
import Derived.KernelRfl
namespace Go.Proofs.Qxb6604014a
/- THE CELL 'sum', in the pinned program and in every row, IS THE sha256 OF THE DUMP (.gsa) THAT Qxb6604014aProg.lean LOADS. Nothing in Lean hashes anything: it is a label: what it is worth is what the hold of that sum in a sandbox is worth. -/
noncomputable def Try.pinned : Pinned := { name := "qxb6604014a", sum := "f97d2f09418dfa60cc7f304f8b1396bd86ea7e56b13a3859203cb1a4318393b5", checked := Try.checked }
namespace Rows
def none {H : Type} : Left H := { results := [], args := [] }

/-- 'zzlaws_pkg_analysis_b1.FnPreferredMatchesBlockByBlockModel': WHATEVER THE INPUT: true; the input reads as it did. -/
def fnPreferredMatchesBlockByBlockModelSpec : ChangeSpec := { name := "fnPreferredMatchesBlockByBlockModel", fn := fun _ => fun
  | [d1, d2, d3] => { results := [.lit (.bool true)], args := [d1, d2, d3] }
  | _ => none }
def fnPreferredMatchesBlockByBlockModelRow : OpenClaim := { program := "qxb6604014a", sum := "f97d2f09418dfa60cc7f304f8b1396bd86ea7e56b13a3859203cb1a4318393b5", func := "example.com/endstate/endstate/zzlaws_pkg_analysis_b1.FnPreferredMatchesBlockByBlockModel", spec := "fnPreferredMatchesBlockByBlockModel", unfollowed := true, recurses := true, apart := false }
def FnPreferredMatchesBlockByBlockModelSaid : Prop := fnPreferredMatchesBlockByBlockModelRow.holds Try.pinned (OpenSpec.ofChange fnPreferredMatchesBlockByBlockModelSpec)

/-- ITS FALSE NEIGHBOUR: 'it returns false'. Refute it at one input. -/
def fnPreferredMatchesBlockByBlockModelWrong : ChangeSpec := { name := "fnPreferredMatchesBlockByBlockModel", fn := fun _ => fun
  | [d1, d2, d3] => { results := [.lit (.bool false)], args := [d1, d2, d3] }
  | _ => none }
def FnPreferredMatchesBlockByBlockModelWrongFalsely : Prop := fnPreferredMatchesBlockByBlockModelRow.holds Try.pinned (OpenSpec.ofChange fnPreferredMatchesBlockByBlockModelWrong)

/-- 'zzlaws_pkg_analysis_b1.FnChooseMatchesFlagModel': WHATEVER THE INPUT: true; the input reads as it did. -/
def fnChooseMatchesFlagModelSpec : ChangeSpec := { name := "fnChooseMatchesFlagModel", fn := fun _ => fun
  | [d1, d2] => { results := [.lit (.bool true)], args := [d1, d2] }
  | _ => none }
def fnChooseMatchesFlagModelRow : OpenClaim := { program := "qxb6604014a", sum := "f97d2f09418dfa60cc7f304f8b1396bd86ea7e56b13a3859203cb1a4318393b5", func := "example.com/endstate/endstate/zzlaws_pkg_analysis_b1.FnChooseMatchesFlagModel", spec := "fnChooseMatchesFlagModel", unfollowed := true, recurses := true, apart := false }
def FnChooseMatchesFlagModelSaid : Prop := fnChooseMatchesFlagModelRow.holds Try.pinned (OpenSpec.ofChange fnChooseMatchesFlagModelSpec)

/-- ITS FALSE NEIGHBOUR: 'it returns false'. Refute it at one input. -/
def fnChooseMatchesFlagModelWrong : ChangeSpec := { name := "fnChooseMatchesFlagModel", fn := fun _ => fun
  | [d1, d2] => { results := [.lit (.bool false)], args := [d1, d2] }
  | _ => none }
def FnChooseMatchesFlagModelWrongFalsely : Prop := fnChooseMatchesFlagModelRow.holds Try.pinned (OpenSpec.ofChange fnChooseMatchesFlagModelWrong)

/-- 'zzlaws_pkg_analysis_b1.FnChooseNeverLosesAFlagByAnotherAlternative': WHATEVER THE INPUT: true; the input reads as it did. -/
def fnChooseNeverLosesAFlagByAnotherAlternativeSpec : ChangeSpec := { name := "fnChooseNeverLosesAFlagByAnotherAlternative", fn := fun _ => fun
  | [d1, d2, d3] => { results := [.lit (.bool true)], args := [d1, d2, d3] }
  | _ => none }
def fnChooseNeverLosesAFlagByAnotherAlternativeRow : OpenClaim := { program := "qxb6604014a", sum := "f97d2f09418dfa60cc7f304f8b1396bd86ea7e56b13a3859203cb1a4318393b5", func := "example.com/endstate/endstate/zzlaws_pkg_analysis_b1.FnChooseNeverLosesAFlagByAnotherAlternative", spec := "fnChooseNeverLosesAFlagByAnotherAlternative", unfollowed := true, recurses := true, apart := false }
def FnChooseNeverLosesAFlagByAnotherAlternativeSaid : Prop := fnChooseNeverLosesAFlagByAnotherAlternativeRow.holds Try.pinned (OpenSpec.ofChange fnChooseNeverLosesAFlagByAnotherAlternativeSpec)

/-- ITS FALSE NEIGHBOUR: 'it returns false'. Refute it at one input. -/
def fnChooseNeverLosesAFlagByAnotherAlternativeWrong : ChangeSpec := { name := "fnChooseNeverLosesAFlagByAnotherAlternative", fn := fun _ => fun
  | [d1, d2, d3] => { results := [.lit (.bool false)], args := [d1, d2, d3] }
  | _ => none }
def FnChooseNeverLosesAFlagByAnotherAlternativeWrongFalsely : Prop := fnChooseNeverLosesAFlagByAnotherAlternativeRow.holds Try.pinned (OpenSpec.ofChange fnChooseNeverLosesAFlagByAnotherAlternativeWrong)

end Rows
end Go.Proofs.Qxb6604014a
