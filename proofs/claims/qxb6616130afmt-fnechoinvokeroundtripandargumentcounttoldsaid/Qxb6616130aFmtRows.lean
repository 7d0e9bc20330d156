/-
  No cell of these rows narrows 'for every input' (looked for: loops, veiled, ifaces, maps, wideKeys, modest, calm, conditions, laid).
  DERIVED. THE GIVEN ROWS OF THIS SEAT. 3 by the template 'for every input the law returns true; each argument reads behind the call as it read before'; 0 by the template 'total and deterministic' (their statements: Qxb6616130aFmtTotals.lean).
  GIVEN WITH THE SEED: the statements are not yours to turn. If you find one false, say at which input.
  Laid BY PROGRAM, IN A SANDBOX (cutbox-rows.mjs): the forced cells as the released guide's own fill.sh prints them over the translation aa96ab1a4e992bd8… (all of the seat's roots in one cut). By AI agents, Wed Nov 11 2026. No macro, syntax, notation, axiom, sorry.
-/
import Derived.Test.Qxb6616130aFmtChecked
import GoSem.Claim
import GoSem.ClaimJoined
import GoSem.ClaimMapViews
import Derived.JoinedTies
import Derived.KernelRfl
namespace Go.Proofs.Qxb6616130aFmt
/- THE CELL 'sum', in the pinned program and in every row, IS THE sha256 OF THE DUMP (.gsa) THAT Qxb6616130aFmtProg.lean LOADS. Nothing in Lean hashes anything: it is a label: what it is worth is what the hold of that sum in a sandbox is worth. -/
noncomputable def Tryf.pinned : Pinned := { name := "qxb6616130afmt", sum := "aa96ab1a4e992bd8077409cb51c45ab9e4ab79a35fb5f225b50b1a146232d058", checked := Tryf.checked }
namespace Rows
def none {H : Type} : Left H := { results := [], args := [] }

/-- 'zzlaws_internal_hub_b1.FnEchoInvokeRoundTripAndArgumentCount': WHATEVER THE INPUT: true; the input reads as it did. -/
def fnEchoInvokeRoundTripAndArgumentCountSpec : ChangeSpec := { name := "fnEchoInvokeRoundTripAndArgumentCount", fn := fun _ => fun
  | [d1, d2] => { results := [.lit (.bool true)], args := [d1, d2] }
  | _ => none }
def fnEchoInvokeRoundTripAndArgumentCountRow : OpenClaim := { program := "qxb6616130afmt", sum := "aa96ab1a4e992bd8077409cb51c45ab9e4ab79a35fb5f225b50b1a146232d058", func := "example.com/hubferry/hubferry/zzlaws_internal_hub_b1.FnEchoInvokeRoundTripAndArgumentCount", spec := "fnEchoInvokeRoundTripAndArgumentCount", stops := ["fmt.errorf"], inPlace := ["fmt.errorf"], apart := false }
/-- NO THEOREM (fmt's text is open here; it may be false): for the released tool's asking of the row's closed facts alone. THE STATEMENT IS 'FnEchoInvokeRoundTripAndArgumentCountToldSaid' (Qxb6616130aFmtCards.lean). -/
def FnEchoInvokeRoundTripAndArgumentCountFormAsk : Prop := fnEchoInvokeRoundTripAndArgumentCountRow.holds Tryf.pinned (OpenSpec.ofChange fnEchoInvokeRoundTripAndArgumentCountSpec)

/-- ITS FALSE NEIGHBOUR: 'it returns false'. Refute it at one input. -/
def fnEchoInvokeRoundTripAndArgumentCountWrong : ChangeSpec := { name := "fnEchoInvokeRoundTripAndArgumentCount", fn := fun _ => fun
  | [d1, d2] => { results := [.lit (.bool false)], args := [d1, d2] }
  | _ => none }
def FnEchoInvokeRoundTripAndArgumentCountWrongFormAsk : Prop := fnEchoInvokeRoundTripAndArgumentCountRow.holds Tryf.pinned (OpenSpec.ofChange fnEchoInvokeRoundTripAndArgumentCountWrong)

/-- 'zzlaws_internal_hub_b1.FnCheckGroupNameCutAnywhere': WHATEVER THE INPUT: true; the input reads as it did. -/
def fnCheckGroupNameCutAnywhereSpec : ChangeSpec := { name := "fnCheckGroupNameCutAnywhere", fn := fun _ => fun
  | [d1, d2] => { results := [.lit (.bool true)], args := [d1, d2] }
  | _ => none }
def fnCheckGroupNameCutAnywhereRow : OpenClaim := { program := "qxb6616130afmt", sum := "aa96ab1a4e992bd8077409cb51c45ab9e4ab79a35fb5f225b50b1a146232d058", func := "example.com/hubferry/hubferry/zzlaws_internal_hub_b1.FnCheckGroupNameCutAnywhere", spec := "fnCheckGroupNameCutAnywhere", stops := ["fmt.errorf"], inPlace := ["fmt.errorf"], apart := false }
/-- NO THEOREM (fmt's text is open here; it may be false): for the released tool's asking of the row's closed facts alone. THE STATEMENT IS 'FnCheckGroupNameCutAnywhereToldSaid' (Qxb6616130aFmtCards.lean). -/
def FnCheckGroupNameCutAnywhereFormAsk : Prop := fnCheckGroupNameCutAnywhereRow.holds Tryf.pinned (OpenSpec.ofChange fnCheckGroupNameCutAnywhereSpec)

/-- ITS FALSE NEIGHBOUR: 'it returns false'. Refute it at one input. -/
def fnCheckGroupNameCutAnywhereWrong : ChangeSpec := { name := "fnCheckGroupNameCutAnywhere", fn := fun _ => fun
  | [d1, d2] => { results := [.lit (.bool false)], args := [d1, d2] }
  | _ => none }
def FnCheckGroupNameCutAnywhereWrongFormAsk : Prop := fnCheckGroupNameCutAnywhereRow.holds Tryf.pinned (OpenSpec.ofChange fnCheckGroupNameCutAnywhereWrong)

/-- 'zzlaws_internal_hub_b1.FnCheckGroupNameOneByteMoreAnywhere': WHATEVER THE INPUT: true; the input reads as it did. -/
def fnCheckGroupNameOneByteMoreAnywhereSpec : ChangeSpec := { name := "fnCheckGroupNameOneByteMoreAnywhere", fn := fun _ => fun
  | [d1, d2, d3] => { results := [.lit (.bool true)], args := [d1, d2, d3] }
  | _ => none }
def fnCheckGroupNameOneByteMoreAnywhereRow : OpenClaim := { program := "qxb6616130afmt", sum := "aa96ab1a4e992bd8077409cb51c45ab9e4ab79a35fb5f225b50b1a146232d058", func := "example.com/hubferry/hubferry/zzlaws_internal_hub_b1.FnCheckGroupNameOneByteMoreAnywhere", spec := "fnCheckGroupNameOneByteMoreAnywhere", stops := ["fmt.errorf"], inPlace := ["fmt.errorf"], apart := false }
/-- NO THEOREM (fmt's text is open here; it may be false): for the released tool's asking of the row's closed facts alone. THE STATEMENT IS 'FnCheckGroupNameOneByteMoreAnywhereToldSaid' (Qxb6616130aFmtCards.lean). -/
def FnCheckGroupNameOneByteMoreAnywhereFormAsk : Prop := fnCheckGroupNameOneByteMoreAnywhereRow.holds Tryf.pinned (OpenSpec.ofChange fnCheckGroupNameOneByteMoreAnywhereSpec)

/-- ITS FALSE NEIGHBOUR: 'it returns false'. Refute it at one input. -/
def fnCheckGroupNameOneByteMoreAnywhereWrong : ChangeSpec := { name := "fnCheckGroupNameOneByteMoreAnywhere", fn := fun _ => fun
  | [d1, d2, d3] => { results := [.lit (.bool false)], args := [d1, d2, d3] }
  | _ => none }
def FnCheckGroupNameOneByteMoreAnywhereWrongFormAsk : Prop := fnCheckGroupNameOneByteMoreAnywhereRow.holds Tryf.pinned (OpenSpec.ofChange fnCheckGroupNameOneByteMoreAnywhereWrong)

end Rows
end Go.Proofs.Qxb6616130aFmt
