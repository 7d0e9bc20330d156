/-
  Values: ZZnewValue, ZZvalueParts, zzIsValue, zzIsZeroValue, zzValueOf.
-/
import Derived.Test.Qxb6616130aFmtBytes
import Derived.Test.Qxb6616130aFmtEcho
import Derived.Deep.RegionWith
import Derived.Deep.RegionHeld3
import Derived.Deep.DrawnRows
import Derived.Handy
import Derived.WalkLawsBesides
namespace Go.Proofs.Qxb6616130aFmt
open Go.RowKit

set_option maxRecDepth 1000000 in
set_option maxHeartbeats 800000 in
theorem parts_any (x0 x1 : Option Addr) (n0 c0 n1 c1 : Nat) (w : World) :
    Calls Tryf.prog 17 #[.agg #[.slice x0 n0 c0, .slice x1 n1 c1]] w fun e w' => e = .returned (.tuple #[.slice x0 n0 c0, .slice x1 n1 c1]) ∧ Below w.heap.size w w' := by
  go_enter Tryf.func17, Tryf.ntmps17
  go_wp2
  go_quiet (fail)
  go_wp2
  go_ret2
  exact ⟨rfl, below_drewN ((Below.refl _ _).alloc (Nat.le_refl _) _) _⟩

set_option maxRecDepth 1000000 in
set_option maxHeartbeats 800000 in
theorem newValue_any (x0 x1 : Option Addr) (n0 c0 n1 c1 : Nat) (w : World) :
    Calls Tryf.prog 14 #[.slice x0 n0 c0, .slice x1 n1 c1] w fun e w' => e = .returned (.agg #[.slice x0 n0 c0, .slice x1 n1 c1]) ∧ Below w.heap.size w w' := by
  go_enter Tryf.func14, Tryf.ntmps14
  go_wp2
  (try simp only [Exit.inBlock, Exit.then])
  refine bodyPost_ret (v := .agg #[.slice x0 n0 c0, .slice x1 n1 c1]) ?_ rfl ⟨rfl, ?_⟩
  · simp [results, Tryf.results14, go_sem]
  · repeat' (first | exact Below.refl _ _ | refine Below.drew ?_ | refine Below.setCell ?_ (by simp) _ | refine Below.alloc ?_ (by simp) _)

set_option maxRecDepth 1000000 in
set_option maxHeartbeats 800000 in
theorem isZero_any (w : World) :
    Calls Tryf.prog 10 #[.agg #[.slice none 0 0, .slice none 0 0]] w fun e w' => e = .returned (.bool true) ∧ Below w.heap.size w w' := by
  have hq1 := fun w => Lib.run_eql_slice_nil (P := Tryf.prog) w 22 5 none 0 0 0 0 Tryf.underlying22
  go_enter Tryf.func10, Tryf.ntmps10
  go_wp2_with (go_at_call 17; refine (parts_any _ _ _ _ _ _ _).mono ?_; rintro e w' ⟨rfl, hb⟩)
  go_ret
  exact ⟨rfl, ((Below.refl _ _).alloc (Nat.le_refl _) _).trans (hb.mono (by simp))⟩

set_option maxRecDepth 1000000 in
set_option maxHeartbeats 800000 in
theorem isValue_any (x0 x1 y0 y1 : Option Addr) (n0 c0 n1 c1 d0 d1 : Nat) (zs us : List Int) (w : World) (h0 : n0 ≤ 1048576) (h1 : n1 ≤ 1048576) (e0 : x0.isNone = y0.isNone) (e1 : x1.isNone = y1.isNone)
    (hx0 : BytesAt w (.slice x0 n0 c0) zs) (hx1 : BytesAt w (.slice x1 n1 c1) us) (hy0 : BytesAt w (.slice y0 n0 d0) zs) (hy1 : BytesAt w (.slice y1 n1 d1) us) :
    Calls Tryf.prog 9 #[.agg #[.slice x0 n0 c0, .slice x1 n1 c1], .agg #[.slice y0 n0 d0, .slice y1 n1 d1]] w fun e w' => e = .returned (.bool true) ∧ Below w.heap.size w w' := by
  have X0 : Hid (BytesAt w (.slice x0 n0 c0) zs) := hx0
  have X1 : Hid (BytesAt w (.slice x1 n1 c1) us) := hx1
  have Y0 : Hid (BytesAt w (.slice y0 n0 d0) zs) := hy0
  have Y1 : Hid (BytesAt w (.slice y1 n1 d1) us) := hy1
  clear hx0 hx1 hy0 hy1
  go_enter Tryf.func9, Tryf.ntmps9
  go_wp2_with fail
  refine (parts_any _ _ _ _ _ _ _).mono ?_
  rintro e w1 ⟨rfl, hb⟩
  have hB : Below w.heap.size w w1 := (((Below.refl _ _).alloc (Nat.le_refl _) _).alloc (by simp) _).trans (hb.mono (by simp; omega))
  have k0 : w1.cell? ⟨w.heap.size + 1, 0, none⟩ = some (.slice y0 n0 d0) := (hb.cell (by simp)).trans (by go_simp)
  have k1 : w1.cell? ⟨w.heap.size + 1, 1, none⟩ = some (.slice y1 n1 d1) := (hb.cell (by simp)).trans (by go_simp)
  have HB : Hid (Below w.heap.size w w1) := hB
  clear hb hB
  go_wp2_with fail
  refine (same_any x0 y0 n0 c0 d0 zs _ h0 e0 (X0.out.later HB.out) (Y0.out.later HB.out)).mono ?_
  rintro e w2 ⟨rfl, q, rfl⟩
  go_wp2_with fail
  refine (same_any x1 y1 n1 c1 d1 us _ h1 e1 (X1.out.later (below_drewN HB.out _)) (Y1.out.later (below_drewN HB.out _))).mono ?_
  rintro e w3 ⟨rfl, q', rfl⟩
  go_wp2_with fail
  go_ret
  exact ⟨rfl, below_drewN HB.out _⟩

def ValueEnd (x0 x1 : Option Addr) (zs us : List Int) (e : Ending) (w w' : World) : Prop :=
  ∃ y0 y1 d0 d1, e = .returned (.agg #[.slice y0 zs.length d0, .slice y1 us.length d1]) ∧ y0.isNone = x0.isNone ∧ y1.isNone = x1.isNone ∧ Below w.heap.size w w' ∧ BytesAt w' (.slice y0 zs.length d0) zs ∧ BytesAt w' (.slice y1 us.length d1) us

set_option maxRecDepth 1000000 in
set_option maxHeartbeats 400000 in
theorem valueOf_any (x0 x1 : Option Addr) (n0 c0 n1 c1 : Nat) (zs us : List Int) (w : World) (h0 : n0 ≤ 1048576) (h1 : n1 ≤ 1048576)
    (hx0 : BytesAt w (.slice x0 n0 c0) zs) (hx1 : BytesAt w (.slice x1 n1 c1) us) :
    Calls Tryf.prog 7 #[.agg #[.slice x0 n0 c0, .slice x1 n1 c1]] w fun e w' => ValueEnd x0 x1 zs us e w w' := by
  have X0 : Hid (BytesAt w (.slice x0 n0 c0) zs) := hx0
  have X1 : Hid (BytesAt w (.slice x1 n1 c1) us) := hx1
  clear hx0 hx1
  have hA : Below w.heap.size w ((w.alloc (.cells #[.slice x0 n0 c0, .slice x1 n1 c1] 24)).alloc (.cells #[.slice none 0 0, .slice none 0 0] 27)).drew := (((Below.refl _ _).alloc (Nat.le_refl _) _).alloc (by simp) _).drew
  have XA0 : Hid (BytesAt ((w.alloc (.cells #[.slice x0 n0 c0, .slice x1 n1 c1] 24)).alloc (.cells #[.slice none 0 0, .slice none 0 0] 27)).drew (.slice x0 n0 c0) zs) := X0.out.later hA
  have XA1 : Hid (BytesAt ((w.alloc (.cells #[.slice x0 n0 c0, .slice x1 n1 c1] 24)).alloc (.cells #[.slice none 0 0, .slice none 0 0] 27)).drew (.slice x1 n1 c1) us) := X1.out.later hA
  have q0 : ((w.alloc (.cells #[.slice x0 n0 c0, .slice x1 n1 c1] 24)).alloc (.cells #[.slice none 0 0, .slice none 0 0] 27)).drew.cell? ⟨w.heap.size + 1, 0, none⟩ = some (.slice none 0 0) := by go_simp
  have q1 : ((w.alloc (.cells #[.slice x0 n0 c0, .slice x1 n1 c1] 24)).alloc (.cells #[.slice none 0 0, .slice none 0 0] 27)).drew.cell? ⟨w.heap.size + 1, 1, none⟩ = some (.slice none 0 0) := by go_simp
  have q2 : ((w.alloc (.cells #[.slice x0 n0 c0, .slice x1 n1 c1] 24)).alloc (.cells #[.slice none 0 0, .slice none 0 0] 27)).drew.frozen? ⟨w.heap.size + 1, 0, none⟩ = false := by go_simp
  have q3 : ((w.alloc (.cells #[.slice x0 n0 c0, .slice x1 n1 c1] 24)).alloc (.cells #[.slice none 0 0, .slice none 0 0] 27)).drew.frozen? ⟨w.heap.size + 1, 1, none⟩ = false := by go_simp
  have HA : Hid _ := hA
  have Q0 : Hid _ := q0
  have Q1 : Hid _ := q1
  have Q2 : Hid _ := q2
  have Q3 : Hid _ := q3
  clear hA q0 q1 q2 q3
  go_enter Tryf.func7, Tryf.ntmps7
  go_wp2_with fail
  go_region_held3 (fun w' => w'.cell? ⟨w.heap.size, 0, none⟩ = some (.slice x0 n0 c0) ∧ w'.cell? ⟨w.heap.size, 1, none⟩ = some (.slice x1 n1 c1))
    (first | go_keep | (go_split_ands; refine ⟨?_, ?_⟩ <;> (refine (hb3.cell (by simp; try omega)).trans ?_; assumption)) | (go_split_ands; refine ⟨?_, ?_⟩ <;> (refine (hb4.cell (by exact Nat.lt_of_succ_lt hs3)).trans ?_; assumption)) | (go_split_ands; refine ⟨?_, ?_⟩ <;> (refine (hb5.cell (by exact Nat.lt_of_succ_lt hs4)).trans ?_; assumption)))
    (first
      | (go_at_call 15; (with_reducible refine (clone_any x0 n0 c0 zs _ h0 XA0.out).mono ?_); rintro e w3 ⟨y0, d0, rfl, hn0, hb3, hB3, hl3⟩; have hs3 : w.heap.size + 1 < w3.heap.size := Nat.lt_of_lt_of_le (by simp) hb3.size; dsimp only)
      | (go_at_call 15; (with_reducible refine (clone_any x1 n1 c1 us w3 h1 ?_).mono ?_); (exact BytesAt.later XA1.out hb3); rintro e w4 ⟨y1, d1, rfl, hn1, hb4, hB4, hl4⟩; have hs4 : w.heap.size + 1 < w4.heap.size := Nat.lt_of_lt_of_le hs3 hb4.size; dsimp only)
      | (go_at_call 14; (with_reducible refine (newValue_any _ _ _ _ _ _ w4).mono ?_); rintro e w5 ⟨rfl, hb5⟩; have r0 := (hb5.cell (p := ⟨w.heap.size + 1, 0, none⟩) hs4).trans ((hb4.cell (p := ⟨w.heap.size + 1, 0, none⟩) hs3).trans ((hb3.cell (p := ⟨w.heap.size + 1, 0, none⟩) (by simp)).trans Q0.out)); have r1 := (hb5.cell (p := ⟨w.heap.size + 1, 1, none⟩) hs4).trans ((hb4.cell (p := ⟨w.heap.size + 1, 1, none⟩) hs3).trans ((hb3.cell (p := ⟨w.heap.size + 1, 1, none⟩) (by simp)).trans Q1.out)); have r2 := (hb5.frozen (p := ⟨w.heap.size + 1, 0, none⟩) hs4).trans ((hb4.frozen (p := ⟨w.heap.size + 1, 0, none⟩) hs3).trans ((hb3.frozen (p := ⟨w.heap.size + 1, 0, none⟩) (by simp)).trans Q2.out)); have r3 := (hb5.frozen (p := ⟨w.heap.size + 1, 1, none⟩) hs4).trans ((hb4.frozen (p := ⟨w.heap.size + 1, 1, none⟩) hs3).trans ((hb3.frozen (p := ⟨w.heap.size + 1, 1, none⟩) (by simp)).trans Q3.out)); dsimp only))
  have hB5 : Below w.heap.size w w5 := below_after (below_after (below_after HA.out hb3) hb4) hb5
  have g0 : BytesAt w5 (.slice y0 zs.length d0) zs := (hB3.later hb4).later hb5
  have g1 : BytesAt w5 (.slice y1 us.length d1) us := hB4.later hb5
  have m0 : ∀ ad, y0 = some ad → ad.block ≠ w.heap.size + 1 := fun ad h => by
    have := hl3 ad h
    simp at this
    omega
  have m1 : ∀ ad, y1 = some ad → ad.block ≠ w.heap.size + 1 := fun ad h => by
    have := hl4 ad h
    omega
  have hE : ValueEnd x0 x1 zs us (.returned (.agg #[.slice y0 zs.length d0, .slice y1 us.length d1])) w ((w5.setCell ⟨w.heap.size + 1, 0, none⟩ (.slice y0 zs.length d0)).setCell ⟨w.heap.size + 1, 1, none⟩ (.slice y1 us.length d1)) :=
    ⟨y0, y1, d0, d1, rfl, hn0, hn1, (hB5.setCell (by simp) _).setCell (by simp) _, (g0.far _ _ m0).far _ _ m0, (g1.far _ _ m1).far _ _ m1⟩
  have HE : Hid _ := hE
  clear hE g0 g1 m0 m1 hB5 hb3 hb4 hb5 hB3 hB4 hl3 hl4
  go_wp2_with fail
  (try simp only [Exit.inBlock, Exit.then])
  refine bodyPost_ret (v := .agg #[.slice y0 zs.length d0, .slice y1 us.length d1]) ?_ rfl HE.out
  simp [results, Tryf.results7, go_sem, r0, r1]

end Go.Proofs.Qxb6616130aFmt
