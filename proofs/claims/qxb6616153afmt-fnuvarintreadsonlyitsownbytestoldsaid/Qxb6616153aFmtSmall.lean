/-
  The small callees: zzBytes, ZZNewDecoder, ZZData, ZZErrIsNil; and clones as the laws want them.
-/
import Derived.Test.Qxb6616153aFmtDec
import Derived.Test.Qxb6616153aFmtModel
namespace Go.Proofs.Qxb6616153aFmt
open Go.RowKit Go.Extern.Stop Go.Stop Go.Extern

theorem DecAt.later {w w' : World} {D : Nat} {s E : Value} (h : DecAt w D s E) (hb : Below w.heap.size w w') : DecAt w' D s E := by
  obtain ⟨h0, h1, h2, h3⟩ := h
  have hl : D < w.heap.size := World.block_lt_of_cell? w _ h0
  exact ⟨(hb.cell hl).trans h0, (hb.cell hl).trans h1, (hb.frozen hl).trans h2, (hb.frozen hl).trans h3⟩

theorem DecAt.lt {w : World} {D : Nat} {s E : Value} (h : DecAt w D s E) : D < w.heap.size := World.block_lt_of_cell? w _ h.1

def AnyBool (e : Ending) (w w' : World) : Prop := ∃ B, e = .returned (.bool B) ∧ w = w'

set_option maxHeartbeats 400000 in
theorem total5 (a : Option Addr) (n c : Nat) (w : World) (hn : n ≤ maxLen) : Calls Tryf.prog 5 #[.slice a n c] w fun e w' => AnyBool e w w' := by
  unfold maxLen at hn
  go_enter Tryf.func5, Tryf.ntmps5
  go_wp2
  all_goals (go_ret; exact ⟨_, rfl, rfl⟩)

set_option maxHeartbeats 400000 in
theorem total13 (a : Option Addr) (n c : Nat) (w : World) (hn : n ≤ maxLen) : Calls Tryf.prog 13 #[.slice a n c] w fun e w' => AnyBool e w w' := by
  unfold maxLen at hn
  go_enter Tryf.func13, Tryf.ntmps13
  go_wp2
  all_goals (go_ret; exact ⟨_, rfl, rfl⟩)

theorem data_any (D : Nat) (a : Option Addr) (n c : Nat) (E : Value) (w : World) (h : DecAt w D (.slice a n c) E) :
    Calls Tryf.prog 10 #[.pointer (some ⟨D, 0, none⟩)] w fun e w' => e = .returned (.slice a n c) ∧ w = w' := by
  obtain ⟨h0, h1, f0, f1⟩ := h
  go_enter Tryf.func10, Tryf.ntmps10
  go_wp2
  go_ret
  exact ⟨rfl, rfl⟩

theorem nil_yes (D : Nat) (s : Value) (w : World) (h : DecAt w D s .nilIface) :
    Calls Tryf.prog 11 #[.pointer (some ⟨D, 0, none⟩)] w fun e w' => e = .returned (.bool true) ∧ w = w' := by
  obtain ⟨h0, h1, f0, f1⟩ := h
  go_enter Tryf.func11, Tryf.ntmps11
  go_wp2
  go_ret
  exact ⟨rfl, rfl⟩

theorem nil_no (D : Nat) (s : Value) (p : Option Addr) (w : World) (h : DecAt w D s (.iface 44 (.pointer p))) :
    Calls Tryf.prog 11 #[.pointer (some ⟨D, 0, none⟩)] w fun e w' => e = .returned (.bool false) ∧ w = w' := by
  obtain ⟨h0, h1, f0, f1⟩ := h
  go_enter Tryf.func11, Tryf.ntmps11
  go_wp2
  go_ret
  exact ⟨rfl, rfl⟩

def NewEnd (s : Value) (e : Ending) (w w' : World) : Prop := ∃ D, e = .returned (.pointer (some ⟨D, 0, none⟩)) ∧ w.heap.size ≤ D ∧ Below w.heap.size w w' ∧ DecAt w' D s .nilIface

theorem new_any (a : Option Addr) (n c : Nat) (w : World) : Calls Tryf.prog 7 #[.slice a n c] w fun e w' => NewEnd (.slice a n c) e w w' := by
  go_enter Tryf.func7, Tryf.ntmps7
  go_wp2
  go_ret
  exact ⟨w.heap.size, rfl, Nat.le_refl _, (Below.refl _ _).alloc (Nat.le_refl _) _, by go_simp, by go_simp, by go_simp, by go_simp⟩

theorem quiet_plus {P : Program} {f : FuncId} {args : Array Value} {w : World} {q x : Nat} {v : Value} (h : Calls P f args (w.drewN (q + x)) fun e w' => e = .returned v ∧ ∃ m, w' = (w.drewN (q + x)).drewN m) :
    Calls P f args (w.drewN (q + x)) fun e w'' => e = .returned v ∧ ∃ n, w'' = w.drewN (q + n) :=
  h.mono fun _ _ ⟨he, m, hm⟩ => ⟨he, x + m, by rw [hm, World.drewN_drewN, Nat.add_assoc]⟩

theorem quiet_same {P : Program} {f : FuncId} {args : Array Value} {w : World} {q x : Nat} {v : Value} (h : Calls P f args (w.drewN (q + x)) fun e w' => e = .returned v ∧ w.drewN (q + x) = w') :
    Calls P f args (w.drewN (q + x)) fun e w'' => e = .returned v ∧ ∃ n, w'' = w.drewN (q + n) :=
  h.mono fun _ _ ⟨he, hw⟩ => ⟨he, x, hw.symm⟩

end Go.Proofs.Qxb6616153aFmt
