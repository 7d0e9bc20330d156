/-
  DERIVED. GIVEN WITH THE SEED: THE CARDS: each row of Qxb6616130aFmtRows.lean that lists a variable, with what it lists TIED to the program's text (the seventh form; the later family's looks); each row that meets fmt, with fmt's text TOLD by the authors' own Lean function (tested against real Go, not proved from fmt's source: count such statements apart). THE CARD IS WHAT COUNTS. Prove the row's statement (the work); the ties are given (Qxb6616130aFmtTie.lean); close each card by the builder's one call (the guide's Derived/Test/ToyasCard.lean, 'card_holds'). Laid BY PROGRAM, IN A SANDBOX (cutbox-door.mjs). By AI agents, Wed Nov 11 2026. No macro, syntax, notation, axiom, sorry.
-/
import Derived.Test.Qxb6616130aFmtRows
import GoSem.ClaimSeven
namespace Go.Proofs.Qxb6616130aFmt
namespace Rows

/-- THE TOLD CARD OF 'zzlaws_internal_hub_b1.FnEchoInvokeRoundTripAndArgumentCount'. -/
def fnEchoInvokeRoundTripAndArgumentCountCard : Claim7 := { stood := { row := fnEchoInvokeRoundTripAndArgumentCountRow, standIns := [], harness := (true, "08f3be99fcafa5ccf73417e02e0abc300ffaba4980c273076de34559ebaa47e4"), looks := false }, told := true, goes := false }
def FnEchoInvokeRoundTripAndArgumentCountToldSaid : Prop := Claim7.holds Tryf.pinned (.plain (OpenSpec.ofChange fnEchoInvokeRoundTripAndArgumentCountSpec)) fnEchoInvokeRoundTripAndArgumentCountCard
/-- ITS FALSE NEIGHBOUR. Refute it at one input. -/
def FnEchoInvokeRoundTripAndArgumentCountToldWrongFalsely : Prop := Claim7.holds Tryf.pinned (.plain (OpenSpec.ofChange fnEchoInvokeRoundTripAndArgumentCountWrong)) fnEchoInvokeRoundTripAndArgumentCountCard

/-- THE TOLD CARD OF 'zzlaws_internal_hub_b1.FnCheckGroupNameCutAnywhere'. -/
def fnCheckGroupNameCutAnywhereCard : Claim7 := { stood := { row := fnCheckGroupNameCutAnywhereRow, standIns := [], harness := (true, "08f3be99fcafa5ccf73417e02e0abc300ffaba4980c273076de34559ebaa47e4"), looks := false }, told := true, goes := false }
def FnCheckGroupNameCutAnywhereToldSaid : Prop := Claim7.holds Tryf.pinned (.plain (OpenSpec.ofChange fnCheckGroupNameCutAnywhereSpec)) fnCheckGroupNameCutAnywhereCard
/-- ITS FALSE NEIGHBOUR. Refute it at one input. -/
def FnCheckGroupNameCutAnywhereToldWrongFalsely : Prop := Claim7.holds Tryf.pinned (.plain (OpenSpec.ofChange fnCheckGroupNameCutAnywhereWrong)) fnCheckGroupNameCutAnywhereCard

/-- THE TOLD CARD OF 'zzlaws_internal_hub_b1.FnCheckGroupNameOneByteMoreAnywhere'. -/
def fnCheckGroupNameOneByteMoreAnywhereCard : Claim7 := { stood := { row := fnCheckGroupNameOneByteMoreAnywhereRow, standIns := [], harness := (true, "08f3be99fcafa5ccf73417e02e0abc300ffaba4980c273076de34559ebaa47e4"), looks := false }, told := true, goes := false }
def FnCheckGroupNameOneByteMoreAnywhereToldSaid : Prop := Claim7.holds Tryf.pinned (.plain (OpenSpec.ofChange fnCheckGroupNameOneByteMoreAnywhereSpec)) fnCheckGroupNameOneByteMoreAnywhereCard
/-- ITS FALSE NEIGHBOUR. Refute it at one input. -/
def FnCheckGroupNameOneByteMoreAnywhereToldWrongFalsely : Prop := Claim7.holds Tryf.pinned (.plain (OpenSpec.ofChange fnCheckGroupNameOneByteMoreAnywhereWrong)) fnCheckGroupNameOneByteMoreAnywhereCard
end Rows
end Go.Proofs.Qxb6616130aFmt
