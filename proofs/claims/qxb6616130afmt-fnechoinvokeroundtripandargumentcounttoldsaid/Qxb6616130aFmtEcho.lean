/-
  echo's Invoke and the door to it.
-/
import Derived.Test.Qxb6616130aFmtStop
import Derived.Laws.ResultCell
namespace Go.Proofs.Qxb6616130aFmt
open Go.RowKit Go.Extern.Stop Go.Stop Go.Extern

theorem Tryf.cells27 : Tryf.prog.cellsOf 27 = 2 := by kernel_rfl

def BadEnd (e : Ending) (w w' : World) : Prop := ∃ b, e = .returned (.tuple #[.agg #[.slice none 0 0, .slice none 0 0], .iface 55 (.pointer (some ⟨b, 0, none⟩))]) ∧ Below w.heap.size w w'

set_option maxRecDepth 1000000 in
set_option maxHeartbeats 800000 in
theorem invoke_one (b cap : Nat) (x0 x1 : Option Addr) (n0 c0 n1 c1 : Nat) (w : World) (h0 : w.cell? ⟨b, 0, none⟩ = some (.slice x0 n0 c0)) (h1 : w.cell? ⟨b, 1, none⟩ = some (.slice x1 n1 c1)) :
    Calls Tryf.prog 16 #[.agg #[], .nilIface, .string ⟨#[69, 99, 104, 111]⟩, .slice (some ⟨b, 0, none⟩) 1 cap] w fun e w' => e = .returned (.tuple #[.agg #[.slice x0 n0 c0, .slice x1 n1 c1], .nilIface]) ∧ Below w.heap.size w w' := by
  have hb := World.block_lt_of_cell? w _ h0
  have hb' : b < w.heap.size := hb
  have hne1 : b ≠ w.heap.size := by omega
  have hne2 : b ≠ w.heap.size + 1 := by omega
  go_enter Tryf.func16, Tryf.ntmps16
  go_wp2_with (go_at_call 21; refine (check_one _ _ _ _).mono ?_; rintro e w' ⟨rfl, rfl⟩)
  (try simp only [Exit.inBlock, Exit.then])
  refine bodyPost_ret (v := .tuple #[.agg #[.slice x0 n0 c0, .slice x1 n1 c1], .nilIface]) ?_ rfl ⟨rfl, ?_⟩
  · rw [results_cell_tmp rfl]
    go_simp
  · repeat' (first | exact Below.refl _ _ | refine Below.drew ?_ | refine Below.setCell ?_ (by simp) _ | refine Below.alloc ?_ (by simp) _)

set_option maxRecDepth 1000000 in
set_option maxHeartbeats 800000 in
theorem invoke_bad (F : Interp) (a : Option Addr) (n cap : Nat) (w : World) (hF : F.answers w.tape) (hn : n ≠ 1) :
    Calls Tryf.prog 16 #[.agg #[], .nilIface, .string ⟨#[69, 99, 104, 111]⟩, .slice a n cap] w fun e w' => BadEnd e w w' := by
  go_enter Tryf.func16, Tryf.ntmps16
  go_wp2_with fail
  refine (check_bad F _ a n cap _ (by simpa using hF) hn).mono ?_
  rintro e w2 ⟨b, rfl, hb⟩
  have c0 : w2.cell? ⟨w.heap.size + 1, 0, none⟩ = some (.slice none 0 0) := (hb.cell (by simp)).trans (by go_simp)
  have c1 : w2.cell? ⟨w.heap.size + 1, 1, none⟩ = some (.slice none 0 0) := (hb.cell (by simp)).trans (by go_simp)
  have f0 : w2.frozen? ⟨w.heap.size + 1, 0, none⟩ = false := (hb.frozen (by simp)).trans (by go_simp)
  have f1 : w2.frozen? ⟨w.heap.size + 1, 1, none⟩ = false := (hb.frozen (by simp)).trans (by go_simp)
  have hB : Below w.heap.size w w2 := (((Below.refl _ _).alloc (Nat.le_refl _) _).alloc (by simp) _).trans (hb.mono (by simp; omega))
  clear hb
  go_wp2_with fail
  (try simp only [Exit.inBlock, Exit.then])
  refine bodyPost_ret (v := .tuple #[.agg #[.slice none 0 0, .slice none 0 0], .iface 55 (.pointer (some ⟨b, 0, none⟩))]) ?_ rfl ⟨b, rfl, ?_⟩
  · rw [results_cell_tmp rfl]
    go_simp
  · exact (hB.setCell (by simp) _).setCell (by simp) _

set_option maxRecDepth 1000000 in
set_option maxHeartbeats 800000 in
theorem echo_one (b cap : Nat) (x0 x1 : Option Addr) (n0 c0 n1 c1 : Nat) (w : World) (h0 : w.cell? ⟨b, 0, none⟩ = some (.slice x0 n0 c0)) (h1 : w.cell? ⟨b, 1, none⟩ = some (.slice x1 n1 c1)) :
    Calls Tryf.prog 8 #[.string ⟨#[69, 99, 104, 111]⟩, .slice (some ⟨b, 0, none⟩) 1 cap] w fun e w' => e = .returned (.tuple #[.agg #[.slice x0 n0 c0, .slice x1 n1 c1], .nilIface]) ∧ Below w.heap.size w w' := by
  have hb := World.block_lt_of_cell? w _ h0
  have hb' : b < w.heap.size := hb
  have hne1 : b ≠ w.heap.size := by omega
  go_enter Tryf.func8, Tryf.ntmps8
  go_wp2_with fail
  refine (invoke_one b cap x0 x1 n0 c0 n1 c1 _ (by go_simp) (by go_simp)).mono ?_
  rintro e w2 ⟨rfl, hB0⟩
  have k0 : w2.cell? ⟨w.heap.size, 0, none⟩ = some (.slice none 0 0) := (hB0.cell (by simp)).trans (by go_simp)
  have k1 : w2.cell? ⟨w.heap.size, 1, none⟩ = some (.slice none 0 0) := (hB0.cell (by simp)).trans (by go_simp)
  have f0 : w2.frozen? ⟨w.heap.size, 0, none⟩ = false := (hB0.frozen (by simp)).trans (by go_simp)
  have f1 : w2.frozen? ⟨w.heap.size, 1, none⟩ = false := (hB0.frozen (by simp)).trans (by go_simp)
  have hB : Below w.heap.size w w2 := ((Below.refl _ _).alloc (Nat.le_refl _) _).trans (hB0.mono (by simp))
  clear hB0
  go_wp2_with fail
  (try simp only [Exit.inBlock, Exit.then])
  refine bodyPost_ret (v := .tuple #[.agg #[.slice x0 n0 c0, .slice x1 n1 c1], .nilIface]) ?_ rfl ⟨rfl, ?_⟩
  · rw [results_cell_tmp rfl]
    go_simp
  · exact (hB.setCell (by simp) _).setCell (by simp) _

set_option maxRecDepth 1000000 in
set_option maxHeartbeats 800000 in
theorem echo_bad (F : Interp) (a : Option Addr) (n cap : Nat) (w : World) (hF : F.answers w.tape) (hn : n ≠ 1) :
    Calls Tryf.prog 8 #[.string ⟨#[69, 99, 104, 111]⟩, .slice a n cap] w fun e w' => BadEnd e w w' := by
  go_enter Tryf.func8, Tryf.ntmps8
  go_wp2_with fail
  refine (invoke_bad F a n cap _ (by simpa using hF) hn).mono ?_
  rintro e w2 ⟨b, rfl, hB0⟩
  have k0 : w2.cell? ⟨w.heap.size, 0, none⟩ = some (.slice none 0 0) := (hB0.cell (by simp)).trans (by go_simp)
  have k1 : w2.cell? ⟨w.heap.size, 1, none⟩ = some (.slice none 0 0) := (hB0.cell (by simp)).trans (by go_simp)
  have f0 : w2.frozen? ⟨w.heap.size, 0, none⟩ = false := (hB0.frozen (by simp)).trans (by go_simp)
  have f1 : w2.frozen? ⟨w.heap.size, 1, none⟩ = false := (hB0.frozen (by simp)).trans (by go_simp)
  have hB : Below w.heap.size w w2 := ((Below.refl _ _).alloc (Nat.le_refl _) _).trans (hB0.mono (by simp))
  clear hB0
  go_wp2_with fail
  (try simp only [Exit.inBlock, Exit.then])
  refine bodyPost_ret (v := .tuple #[.agg #[.slice none 0 0, .slice none 0 0], .iface 55 (.pointer (some ⟨b, 0, none⟩))]) ?_ rfl ⟨b, rfl, ?_⟩
  · rw [results_cell_tmp rfl]
    go_simp
  · exact (hB.setCell (by simp) _).setCell (by simp) _

end Go.Proofs.Qxb6616130aFmt
