/-
  No cell of these rows narrows 'for every input' (looked for: loops, veiled, ifaces, maps, wideKeys, modest, calm, conditions, laid).
  DERIVED. THE GIVEN ROWS OF THIS SEAT. 3 by the template 'for every input the law returns true; each argument reads behind the call as it read before'; 0 by the template 'total and deterministic' (their statements: Qxb6001683aTotals.lean).
  GIVEN WITH THE SEED: the statements are not yours to turn. If you find one false, say at which input.
  Laid BY PROGRAM, IN A SANDBOX (cutbox-rows.mjs): the forced cells as the released guide's own fill.sh prints them over the translation acc036ecfd43e86b… (all of the seat's roots in one cut). By AI agents, Wed Nov 11 2026. No macro, syntax, notation, axiom, sorry.
-/
import Derived.Test.Qxb6001683aChecked
import GoSem.Claim
import GoSem.ClaimJoined
import GoSem.ClaimMapViews
import Derived.JoinedTies
import Derived.KernelRfl
namespace Go.Proofs.Qxb6001683a
/- THE CELL 'sum', in the pinned program and in every row, IS THE sha256 OF THE DUMP (.gsa) THAT Qxb6001683aProg.lean LOADS. Nothing in Lean hashes anything: it is a label: what it is worth is what the hold of that sum in a sandbox is worth. -/
noncomputable def Try.pinned : Pinned := { name := "qxb6001683a", sum := "acc036ecfd43e86b0e7caaa393af5939bfbaa465ed341a9c996840e4700f42bb", checked := Try.checked }
namespace Rows
def none {H : Type} : Left H := { results := [], args := [] }

/-- 'zzlaws_internal_check_g1.FnMaxTimeIsTheSumOfTimeoutAndGraceOverAnyOrder': WHATEVER THE INPUT: true; the input reads as it did. -/
def fnMaxTimeIsTheSumOfTimeoutAndGraceOverAnyOrderSpec : ChangeSpec := { name := "fnMaxTimeIsTheSumOfTimeoutAndGraceOverAnyOrder", fn := fun _ => fun
  | [d1, d2, d3, d4] => { results := [.lit (.bool true)], args := [d1, d2, d3, d4] }
  | _ => none }
def fnMaxTimeIsTheSumOfTimeoutAndGraceOverAnyOrderRow : OpenClaim := { program := "qxb6001683a", sum := "acc036ecfd43e86b0e7caaa393af5939bfbaa465ed341a9c996840e4700f42bb", func := "example.com/tsktsk/tsktsk/zzlaws_internal_check_g1.FnMaxTimeIsTheSumOfTimeoutAndGraceOverAnyOrder", spec := "fnMaxTimeIsTheSumOfTimeoutAndGraceOverAnyOrder", apart := false }
def FnMaxTimeIsTheSumOfTimeoutAndGraceOverAnyOrderSaid : Prop := fnMaxTimeIsTheSumOfTimeoutAndGraceOverAnyOrderRow.holds Try.pinned (OpenSpec.ofChange fnMaxTimeIsTheSumOfTimeoutAndGraceOverAnyOrderSpec)

/-- ITS FALSE NEIGHBOUR: 'it returns false'. Refute it at one input. -/
def fnMaxTimeIsTheSumOfTimeoutAndGraceOverAnyOrderWrong : ChangeSpec := { name := "fnMaxTimeIsTheSumOfTimeoutAndGraceOverAnyOrder", fn := fun _ => fun
  | [d1, d2, d3, d4] => { results := [.lit (.bool false)], args := [d1, d2, d3, d4] }
  | _ => none }
def FnMaxTimeIsTheSumOfTimeoutAndGraceOverAnyOrderWrongFalsely : Prop := fnMaxTimeIsTheSumOfTimeoutAndGraceOverAnyOrderRow.holds Try.pinned (OpenSpec.ofChange fnMaxTimeIsTheSumOfTimeoutAndGraceOverAnyOrderWrong)

/-- 'zzlaws_internal_protect_g1.FnChangedAgreesWithModel': WHATEVER THE INPUT: true; the input reads as it did. -/
def fnChangedAgreesWithModelSpec : ChangeSpec := { name := "fnChangedAgreesWithModel", fn := fun _ => fun
  | [d1, d2, d3, d4, d5, d6] => { results := [.lit (.bool true)], args := [d1, d2, d3, d4, d5, d6] }
  | _ => none }
def fnChangedAgreesWithModelRow : OpenClaim := { program := "qxb6001683a", sum := "acc036ecfd43e86b0e7caaa393af5939bfbaa465ed341a9c996840e4700f42bb", func := "example.com/tsktsk/tsktsk/zzlaws_internal_protect_g1.FnChangedAgreesWithModel", spec := "fnChangedAgreesWithModel", apart := false }
def FnChangedAgreesWithModelSaid : Prop := fnChangedAgreesWithModelRow.holds Try.pinned (OpenSpec.ofChange fnChangedAgreesWithModelSpec)

/-- ITS FALSE NEIGHBOUR: 'it returns false'. Refute it at one input. -/
def fnChangedAgreesWithModelWrong : ChangeSpec := { name := "fnChangedAgreesWithModel", fn := fun _ => fun
  | [d1, d2, d3, d4, d5, d6] => { results := [.lit (.bool false)], args := [d1, d2, d3, d4, d5, d6] }
  | _ => none }
def FnChangedAgreesWithModelWrongFalsely : Prop := fnChangedAgreesWithModelRow.holds Try.pinned (OpenSpec.ofChange fnChangedAgreesWithModelWrong)

/-- 'zzlaws_internal_protect_g1.FnChangedSymmetricAndSelfEmpty': WHATEVER THE INPUT: true; the input reads as it did. -/
def fnChangedSymmetricAndSelfEmptySpec : ChangeSpec := { name := "fnChangedSymmetricAndSelfEmpty", fn := fun _ => fun
  | [d1, d2, d3, d4, d5, d6] => { results := [.lit (.bool true)], args := [d1, d2, d3, d4, d5, d6] }
  | _ => none }
def fnChangedSymmetricAndSelfEmptyRow : OpenClaim := { program := "qxb6001683a", sum := "acc036ecfd43e86b0e7caaa393af5939bfbaa465ed341a9c996840e4700f42bb", func := "example.com/tsktsk/tsktsk/zzlaws_internal_protect_g1.FnChangedSymmetricAndSelfEmpty", spec := "fnChangedSymmetricAndSelfEmpty", apart := false }
def FnChangedSymmetricAndSelfEmptySaid : Prop := fnChangedSymmetricAndSelfEmptyRow.holds Try.pinned (OpenSpec.ofChange fnChangedSymmetricAndSelfEmptySpec)

/-- ITS FALSE NEIGHBOUR: 'it returns false'. Refute it at one input. -/
def fnChangedSymmetricAndSelfEmptyWrong : ChangeSpec := { name := "fnChangedSymmetricAndSelfEmpty", fn := fun _ => fun
  | [d1, d2, d3, d4, d5, d6] => { results := [.lit (.bool false)], args := [d1, d2, d3, d4, d5, d6] }
  | _ => none }
def FnChangedSymmetricAndSelfEmptyWrongFalsely : Prop := fnChangedSymmetricAndSelfEmptyRow.holds Try.pinned (OpenSpec.ofChange fnChangedSymmetricAndSelfEmptyWrong)

end Rows
end Go.Proofs.Qxb6001683a
