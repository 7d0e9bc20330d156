/-
  No cell of these rows narrows 'for every input' (looked for: loops, veiled, ifaces, maps, wideKeys, modest, calm, conditions, laid).
  DERIVED. THE GIVEN ROWS OF THIS SEAT. 3 by the template 'for every input the law returns true; each argument reads behind the call as it read before'; 0 by the template 'total and deterministic' (their statements: Qxb6616127aTotals.lean).
  GIVEN WITH THE SEED: the statements are not yours to turn. If you find one false, say at which input.
  Laid BY PROGRAM, IN A SANDBOX (cutbox-rows.mjs): the forced cells as the released guide's own fill.sh prints them over the translation 32a398beb25413a9… (all of the seat's roots in one cut). By AI agents, Wed Nov 11 2026. No macro, syntax, notation, axiom, sorry.
-/
import Derived.Test.Qxb6616127aChecked
import GoSem.Claim
import GoSem.ClaimJoined
import GoSem.ClaimMapViews
import Derived.JoinedTies
import Derived.KernelRfl
namespace Go.Proofs.Qxb6616127a
/- THE CELL 'sum', in the pinned program and in every row, IS THE sha256 OF THE DUMP (.gsa) THAT Qxb6616127aProg.lean LOADS. Nothing in Lean hashes anything: it is a label: what it is worth is what the hold of that sum in a sandbox is worth. -/
noncomputable def Try.pinned : Pinned := { name := "qxb6616127a", sum := "32a398beb25413a94d763f58af12906f5b630e256a0839589dfed7cda62f39e3", checked := Try.checked }
namespace Rows
def none {H : Type} : Left H := { results := [], args := [] }

/-- 'zzlaws_pkg_plan_b1.FnGradePaysPctRefusesUnlistedAcceptsItAppended': WHATEVER THE INPUT: true; the input reads as it did. -/
def fnGradePaysPctRefusesUnlistedAcceptsItAppendedSpec : ChangeSpec := { name := "fnGradePaysPctRefusesUnlistedAcceptsItAppended", fn := fun _ => fun
  | [d1, d2, d3, d4, d5] => { results := [.lit (.bool true)], args := [d1, d2, d3, d4, d5] }
  | _ => none }
def fnGradePaysPctRefusesUnlistedAcceptsItAppendedRow : OpenClaim := { program := "qxb6616127a", sum := "32a398beb25413a94d763f58af12906f5b630e256a0839589dfed7cda62f39e3", func := "example.com/vestline/vestline/zzlaws_pkg_plan_b1.FnGradePaysPctRefusesUnlistedAcceptsItAppended", spec := "fnGradePaysPctRefusesUnlistedAcceptsItAppended", apart := false }
def FnGradePaysPctRefusesUnlistedAcceptsItAppendedSaid : Prop := fnGradePaysPctRefusesUnlistedAcceptsItAppendedRow.holds Try.pinned (OpenSpec.ofChange fnGradePaysPctRefusesUnlistedAcceptsItAppendedSpec)

/-- ITS FALSE NEIGHBOUR: 'it returns false'. Refute it at one input. -/
def fnGradePaysPctRefusesUnlistedAcceptsItAppendedWrong : ChangeSpec := { name := "fnGradePaysPctRefusesUnlistedAcceptsItAppended", fn := fun _ => fun
  | [d1, d2, d3, d4, d5] => { results := [.lit (.bool false)], args := [d1, d2, d3, d4, d5] }
  | _ => none }
def FnGradePaysPctRefusesUnlistedAcceptsItAppendedWrongFalsely : Prop := fnGradePaysPctRefusesUnlistedAcceptsItAppendedRow.holds Try.pinned (OpenSpec.ofChange fnGradePaysPctRefusesUnlistedAcceptsItAppendedWrong)

/-- 'zzlaws_pkg_plan_b1.FnLastYearJoinsAtAnyCut': WHATEVER THE INPUT: true; the input reads as it did. -/
def fnLastYearJoinsAtAnyCutSpec : ChangeSpec := { name := "fnLastYearJoinsAtAnyCut", fn := fun _ => fun
  | [d1, d2, d3] => { results := [.lit (.bool true)], args := [d1, d2, d3] }
  | _ => none }
def fnLastYearJoinsAtAnyCutRow : OpenClaim := { program := "qxb6616127a", sum := "32a398beb25413a94d763f58af12906f5b630e256a0839589dfed7cda62f39e3", func := "example.com/vestline/vestline/zzlaws_pkg_plan_b1.FnLastYearJoinsAtAnyCut", spec := "fnLastYearJoinsAtAnyCut", apart := false }
def FnLastYearJoinsAtAnyCutSaid : Prop := fnLastYearJoinsAtAnyCutRow.holds Try.pinned (OpenSpec.ofChange fnLastYearJoinsAtAnyCutSpec)

/-- ITS FALSE NEIGHBOUR: 'it returns false'. Refute it at one input. -/
def fnLastYearJoinsAtAnyCutWrong : ChangeSpec := { name := "fnLastYearJoinsAtAnyCut", fn := fun _ => fun
  | [d1, d2, d3] => { results := [.lit (.bool false)], args := [d1, d2, d3] }
  | _ => none }
def FnLastYearJoinsAtAnyCutWrongFalsely : Prop := fnLastYearJoinsAtAnyCutRow.holds Try.pinned (OpenSpec.ofChange fnLastYearJoinsAtAnyCutWrong)

/-- 'zzlaws_pkg_plan_b1.FnLastYearRisesToAnAddedYear': WHATEVER THE INPUT: true; the input reads as it did. -/
def fnLastYearRisesToAnAddedYearSpec : ChangeSpec := { name := "fnLastYearRisesToAnAddedYear", fn := fun _ => fun
  | [d1, d2, d3, d4, d5] => { results := [.lit (.bool true)], args := [d1, d2, d3, d4, d5] }
  | _ => none }
def fnLastYearRisesToAnAddedYearRow : OpenClaim := { program := "qxb6616127a", sum := "32a398beb25413a94d763f58af12906f5b630e256a0839589dfed7cda62f39e3", func := "example.com/vestline/vestline/zzlaws_pkg_plan_b1.FnLastYearRisesToAnAddedYear", spec := "fnLastYearRisesToAnAddedYear", apart := false }
def FnLastYearRisesToAnAddedYearSaid : Prop := fnLastYearRisesToAnAddedYearRow.holds Try.pinned (OpenSpec.ofChange fnLastYearRisesToAnAddedYearSpec)

/-- ITS FALSE NEIGHBOUR: 'it returns false'. Refute it at one input. -/
def fnLastYearRisesToAnAddedYearWrong : ChangeSpec := { name := "fnLastYearRisesToAnAddedYear", fn := fun _ => fun
  | [d1, d2, d3, d4, d5] => { results := [.lit (.bool false)], args := [d1, d2, d3, d4, d5] }
  | _ => none }
def FnLastYearRisesToAnAddedYearWrongFalsely : Prop := fnLastYearRisesToAnAddedYearRow.holds Try.pinned (OpenSpec.ofChange fnLastYearRisesToAnAddedYearWrong)

end Rows
end Go.Proofs.Qxb6616127a
