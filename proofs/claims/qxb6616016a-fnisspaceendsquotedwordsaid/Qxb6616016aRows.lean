/-
  No cell of these rows narrows 'for every input' (looked for: loops, veiled, ifaces, maps, wideKeys, modest, calm, conditions, laid).
  DERIVED. THE GIVEN ROWS OF THIS SEAT. 2 by the template 'for every input the law returns true; each argument reads behind the call as it read before'; 0 by the template 'total and deterministic' (their statements: Qxb6616016aTotals.lean).
  GIVEN WITH THE SEED: the statements are not yours to turn. If you find one false, say at which input.
  Laid BY PROGRAM, IN A SANDBOX (cutbox-rows.mjs): the forced cells as the released guide's own fill.sh prints them over the translation 6de29b2a272453b7… (all of the seat's roots in one cut). By AI agents, Wed Nov 11 2026. No macro, syntax, notation, axiom, sorry.
-/
import Derived.Test.Qxb6616016aChecked
import GoSem.Claim
import GoSem.ClaimJoined
import GoSem.ClaimMapViews
import Derived.JoinedTies
import Derived.KernelRfl
namespace Go.Proofs.Qxb6616016a
/- THE CELL 'sum', in the pinned program and in every row, IS THE sha256 OF THE DUMP (.gsa) THAT Qxb6616016aProg.lean LOADS. Nothing in Lean hashes anything: it is a label: what it is worth is what the hold of that sum in a sandbox is worth. -/
noncomputable def Try.pinned : Pinned := { name := "qxb6616016a", sum := "6de29b2a272453b7fa15b570783b5ef504457b330702e7558db99e121944f0f0", checked := Try.checked }
namespace Rows
def none {H : Type} : Left H := { results := [], args := [] }

/-- 'zzlaws_internal_resp_b1.FnIsSpaceEndsQuotedWord': WHATEVER THE INPUT: true; the input reads as it did. -/
def fnIsSpaceEndsQuotedWordSpec : ChangeSpec := { name := "fnIsSpaceEndsQuotedWord", fn := fun _ => fun
  | [d1, d2, d3] => { results := [.lit (.bool true)], args := [d1, d2, d3] }
  | _ => none }
def fnIsSpaceEndsQuotedWordRow : OpenClaim := { program := "qxb6616016a", sum := "6de29b2a272453b7fa15b570783b5ef504457b330702e7558db99e121944f0f0", func := "example.com/logtide/logtide/zzlaws_internal_resp_b1.FnIsSpaceEndsQuotedWord", spec := "fnIsSpaceEndsQuotedWord", apart := false }
def FnIsSpaceEndsQuotedWordSaid : Prop := fnIsSpaceEndsQuotedWordRow.holds Try.pinned (OpenSpec.ofChange fnIsSpaceEndsQuotedWordSpec)

/-- ITS FALSE NEIGHBOUR: 'it returns false'. Refute it at one input. -/
def fnIsSpaceEndsQuotedWordWrong : ChangeSpec := { name := "fnIsSpaceEndsQuotedWord", fn := fun _ => fun
  | [d1, d2, d3] => { results := [.lit (.bool false)], args := [d1, d2, d3] }
  | _ => none }
def FnIsSpaceEndsQuotedWordWrongFalsely : Prop := fnIsSpaceEndsQuotedWordRow.holds Try.pinned (OpenSpec.ofChange fnIsSpaceEndsQuotedWordWrong)

/-- 'zzlaws_internal_resp_b1.FnIsSpaceLeadingByteSkipped': WHATEVER THE INPUT: true; the input reads as it did. -/
def fnIsSpaceLeadingByteSkippedSpec : ChangeSpec := { name := "fnIsSpaceLeadingByteSkipped", fn := fun _ => fun
  | [d1, d2] => { results := [.lit (.bool true)], args := [d1, d2] }
  | _ => none }
def fnIsSpaceLeadingByteSkippedRow : OpenClaim := { program := "qxb6616016a", sum := "6de29b2a272453b7fa15b570783b5ef504457b330702e7558db99e121944f0f0", func := "example.com/logtide/logtide/zzlaws_internal_resp_b1.FnIsSpaceLeadingByteSkipped", spec := "fnIsSpaceLeadingByteSkipped", apart := false }
def FnIsSpaceLeadingByteSkippedSaid : Prop := fnIsSpaceLeadingByteSkippedRow.holds Try.pinned (OpenSpec.ofChange fnIsSpaceLeadingByteSkippedSpec)

/-- ITS FALSE NEIGHBOUR: 'it returns false'. Refute it at one input. -/
def fnIsSpaceLeadingByteSkippedWrong : ChangeSpec := { name := "fnIsSpaceLeadingByteSkipped", fn := fun _ => fun
  | [d1, d2] => { results := [.lit (.bool false)], args := [d1, d2] }
  | _ => none }
def FnIsSpaceLeadingByteSkippedWrongFalsely : Prop := fnIsSpaceLeadingByteSkippedRow.holds Try.pinned (OpenSpec.ofChange fnIsSpaceLeadingByteSkippedWrong)

end Rows
end Go.Proofs.Qxb6616016a
