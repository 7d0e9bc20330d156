/-
  DERIVED. GIVEN WITH THE SEED: THE CARDS: each row of Qxb6616153aFmtRows.lean that lists a variable, with what it lists TIED to the program's text (the seventh form; the later family's looks); each row that meets fmt, with fmt's text TOLD by the authors' own Lean function (tested against real Go, not proved from fmt's source: count such statements apart). THE CARD IS WHAT COUNTS. Prove the row's statement (the work); the ties are given (Qxb6616153aFmtTie.lean); close each card by the builder's one call (the guide's Derived/Test/ToyasCard.lean, 'card_holds'). Laid BY PROGRAM, IN A SANDBOX (cutbox-door.mjs). By AI agents, Wed Nov 11 2026. No macro, syntax, notation, axiom, sorry.
-/
import Derived.Test.Qxb6616153aFmtRows
import GoSem.ClaimSeven
namespace Go.Proofs.Qxb6616153aFmt
namespace Rows

/-- THE TOLD CARD OF 'zzlaws_internal_wire_b1.FnUvarintReadsShortestVarintsInTurn'. -/
def fnUvarintReadsShortestVarintsInTurnCard : Claim7 := { stood := { row := fnUvarintReadsShortestVarintsInTurnRow, standIns := [], harness := (true, "566ca968a1e80efd50e0da0bee86d43f0fb618c89eacaa57a980748b935651c2"), looks := false }, told := true, goes := false }
def FnUvarintReadsShortestVarintsInTurnToldSaid : Prop := Claim7.holds Tryf.pinned (.plain (OpenSpec.ofChange fnUvarintReadsShortestVarintsInTurnSpec)) fnUvarintReadsShortestVarintsInTurnCard
/-- ITS FALSE NEIGHBOUR. Refute it at one input. -/
def FnUvarintReadsShortestVarintsInTurnToldWrongFalsely : Prop := Claim7.holds Tryf.pinned (.plain (OpenSpec.ofChange fnUvarintReadsShortestVarintsInTurnWrong)) fnUvarintReadsShortestVarintsInTurnCard

/-- THE TOLD CARD OF 'zzlaws_internal_wire_b1.FnUvarintReadsOnlyItsOwnBytes'. -/
def fnUvarintReadsOnlyItsOwnBytesCard : Claim7 := { stood := { row := fnUvarintReadsOnlyItsOwnBytesRow, standIns := [], harness := (true, "566ca968a1e80efd50e0da0bee86d43f0fb618c89eacaa57a980748b935651c2"), looks := false }, told := true, goes := false }
def FnUvarintReadsOnlyItsOwnBytesToldSaid : Prop := Claim7.holds Tryf.pinned (.plain (OpenSpec.ofChange fnUvarintReadsOnlyItsOwnBytesSpec)) fnUvarintReadsOnlyItsOwnBytesCard
/-- ITS FALSE NEIGHBOUR. Refute it at one input. -/
def FnUvarintReadsOnlyItsOwnBytesToldWrongFalsely : Prop := Claim7.holds Tryf.pinned (.plain (OpenSpec.ofChange fnUvarintReadsOnlyItsOwnBytesWrong)) fnUvarintReadsOnlyItsOwnBytesCard
end Rows
end Go.Proofs.Qxb6616153aFmt
