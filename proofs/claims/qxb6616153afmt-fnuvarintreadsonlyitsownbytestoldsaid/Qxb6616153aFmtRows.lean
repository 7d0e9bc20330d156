/-
  No cell of these rows narrows 'for every input' (looked for: loops, veiled, ifaces, maps, wideKeys, modest, calm, conditions, laid).
  DERIVED. THE GIVEN ROWS OF THIS SEAT. 2 by the template 'for every input the law returns true; each argument reads behind the call as it read before'; 0 by the template 'total and deterministic' (their statements: Qxb6616153aFmtTotals.lean).
  GIVEN WITH THE SEED: the statements are not yours to turn. If you find one false, say at which input.
  Laid BY PROGRAM, IN A SANDBOX (cutbox-rows.mjs): the forced cells as the released guide's own fill.sh prints them over the translation a236764cca58d394… (all of the seat's roots in one cut). By AI agents, Wed Nov 11 2026. No macro, syntax, notation, axiom, sorry.
-/
import Derived.Test.Qxb6616153aFmtChecked
import GoSem.Claim
import GoSem.ClaimJoined
import GoSem.ClaimMapViews
import Derived.JoinedTies
import Derived.KernelRfl
namespace Go.Proofs.Qxb6616153aFmt
/- THE CELL 'sum', in the pinned program and in every row, IS THE sha256 OF THE DUMP (.gsa) THAT Qxb6616153aFmtProg.lean LOADS. Nothing in Lean hashes anything: it is a label: what it is worth is what the hold of that sum in a sandbox is worth. -/
noncomputable def Tryf.pinned : Pinned := { name := "qxb6616153afmt", sum := "a236764cca58d39408cf7b8b8648e77dffca9679dda4bb269a9a3f42f6606991", checked := Tryf.checked }
namespace Rows
def none {H : Type} : Left H := { results := [], args := [] }

/-- 'zzlaws_internal_wire_b1.FnUvarintReadsShortestVarintsInTurn': WHATEVER THE INPUT: true; the input reads as it did. -/
def fnUvarintReadsShortestVarintsInTurnSpec : ChangeSpec := { name := "fnUvarintReadsShortestVarintsInTurn", fn := fun _ => fun
  | [d] => { results := [.lit (.bool true)], args := [d] }
  | _ => none }
def fnUvarintReadsShortestVarintsInTurnRow : OpenClaim := { program := "qxb6616153afmt", sum := "a236764cca58d39408cf7b8b8648e77dffca9679dda4bb269a9a3f42f6606991", func := "example.com/riftwatch/riftwatch/zzlaws_internal_wire_b1.FnUvarintReadsShortestVarintsInTurn", spec := "fnUvarintReadsShortestVarintsInTurn", stops := ["fmt.errorf"], inPlace := ["fmt.errorf"], apart := false }
/-- NO THEOREM (fmt's text is open here; it may be false): for the released tool's asking of the row's closed facts alone. THE STATEMENT IS 'FnUvarintReadsShortestVarintsInTurnToldSaid' (Qxb6616153aFmtCards.lean). -/
def FnUvarintReadsShortestVarintsInTurnFormAsk : Prop := fnUvarintReadsShortestVarintsInTurnRow.holds Tryf.pinned (OpenSpec.ofChange fnUvarintReadsShortestVarintsInTurnSpec)

/-- ITS FALSE NEIGHBOUR: 'it returns false'. Refute it at one input. -/
def fnUvarintReadsShortestVarintsInTurnWrong : ChangeSpec := { name := "fnUvarintReadsShortestVarintsInTurn", fn := fun _ => fun
  | [d] => { results := [.lit (.bool false)], args := [d] }
  | _ => none }
def FnUvarintReadsShortestVarintsInTurnWrongFormAsk : Prop := fnUvarintReadsShortestVarintsInTurnRow.holds Tryf.pinned (OpenSpec.ofChange fnUvarintReadsShortestVarintsInTurnWrong)

/-- 'zzlaws_internal_wire_b1.FnUvarintReadsOnlyItsOwnBytes': WHATEVER THE INPUT: true; the input reads as it did. -/
def fnUvarintReadsOnlyItsOwnBytesSpec : ChangeSpec := { name := "fnUvarintReadsOnlyItsOwnBytes", fn := fun _ => fun
  | [d] => { results := [.lit (.bool true)], args := [d] }
  | _ => none }
def fnUvarintReadsOnlyItsOwnBytesRow : OpenClaim := { program := "qxb6616153afmt", sum := "a236764cca58d39408cf7b8b8648e77dffca9679dda4bb269a9a3f42f6606991", func := "example.com/riftwatch/riftwatch/zzlaws_internal_wire_b1.FnUvarintReadsOnlyItsOwnBytes", spec := "fnUvarintReadsOnlyItsOwnBytes", stops := ["fmt.errorf"], inPlace := ["fmt.errorf"], apart := false }
/-- NO THEOREM (fmt's text is open here; it may be false): for the released tool's asking of the row's closed facts alone. THE STATEMENT IS 'FnUvarintReadsOnlyItsOwnBytesToldSaid' (Qxb6616153aFmtCards.lean). -/
def FnUvarintReadsOnlyItsOwnBytesFormAsk : Prop := fnUvarintReadsOnlyItsOwnBytesRow.holds Tryf.pinned (OpenSpec.ofChange fnUvarintReadsOnlyItsOwnBytesSpec)

/-- ITS FALSE NEIGHBOUR: 'it returns false'. Refute it at one input. -/
def fnUvarintReadsOnlyItsOwnBytesWrong : ChangeSpec := { name := "fnUvarintReadsOnlyItsOwnBytes", fn := fun _ => fun
  | [d] => { results := [.lit (.bool false)], args := [d] }
  | _ => none }
def FnUvarintReadsOnlyItsOwnBytesWrongFormAsk : Prop := fnUvarintReadsOnlyItsOwnBytesRow.holds Tryf.pinned (OpenSpec.ofChange fnUvarintReadsOnlyItsOwnBytesWrong)

end Rows
end Go.Proofs.Qxb6616153aFmt
