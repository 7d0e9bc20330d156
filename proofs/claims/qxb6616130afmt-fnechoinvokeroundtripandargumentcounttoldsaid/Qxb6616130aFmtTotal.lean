/-
  zzBytes.
-/
import Derived.Test.Qxb6616130aFmtVals
namespace Go.Proofs.Qxb6616130aFmt
open Go.RowKit

def AnyBool (e : Ending) (w w' : World) : Prop := ∃ B, e = .returned (.bool B) ∧ Below w.heap.size w w'

theorem anyBool_mk (B : Bool) {w w' : World} (h : Below w.heap.size w w') : AnyBool (.returned (.bool B)) w w' := ⟨B, rfl, h⟩

set_option maxRecDepth 1000000 in
set_option maxHeartbeats 2000000 in
theorem total_any (x0 x1 y0 y1 : Option Addr) (n0 c0 n1 c1 m0 d0 m1 d1 : Nat) (w : World) (h0 : n0 ≤ maxLen) (h1 : n1 ≤ maxLen) (h2 : m0 ≤ maxLen) (h3 : m1 ≤ maxLen) :
    Calls Tryf.prog 6 #[.agg #[.slice x0 n0 c0, .slice x1 n1 c1], .agg #[.slice y0 m0 d0, .slice y1 m1 d1]] w fun e w' => AnyBool e w w' := by
  unfold maxLen at h0 h1 h2 h3
  have hB : Below w.heap.size w ((w.alloc (.cells #[.slice x0 n0 c0, .slice x1 n1 c1] 24)).alloc (.cells #[.slice y0 m0 d0, .slice y1 m1 d1] 24)) := ((Below.refl _ _).alloc (Nat.le_refl _) _).alloc (by simp) _
  go_enter Tryf.func6, Tryf.ntmps6
  go_wp2_with fail
  all_goals (go_ret; exact anyBool_mk _ hB)

end Go.Proofs.Qxb6616130aFmt
