/-
  THE PROOF OF 'Rows.FnEchoInvokeRoundTripAndArgumentCountToldSaid': the frame, and the told card by the builder's one call.
-/
import Derived.Test.Qxb6616130aFmtCards
import Derived.Test.Qxb6616130aFmtMain
import Derived.ProofKit
import Derived.OpenShut
import Derived.ChangeOld
import Derived.Carry
import Derived.Lib.SmallJoins
import Derived.ChangeSlices
import Derived.Stop.JoinedTold
import Derived.SevenToldRow
namespace Go.Proofs.Qxb6616130aFmt.fnEchoInvokeRoundTripAndArgumentCount
open Go.ChangeShapes Go.WideShapes Go.ChangeAt Go.RowKit Go.Joins
open Go.Extern.Stop Go.Stop Go.Extern
set_option linter.unusedVariables false

theorem own : ownKnob Tryf.prog.godebug = none := by kernel_rfl
theorem laidOut : laidOutB Tryf.prog = true := by kernel_rfl
theorem stops : Tryf.pinned.checked.prog.stops = ["fmt.errorf"] := by kernel_rfl
theorem stopKnobs : Tryf.pinned.checked.prog.stopKnobs = [] := by kernel_rfl
theorem quiet (os : Os) : Stop.quiet Tryf.pinned.checked.prog os := by
  intro k hk
  rw [stopKnobs] at hk
  cases hk
theorem cells24 : Tryf.prog.cellsOf 24 = 2 := by kernel_rfl
theorem cells5 : Tryf.prog.cellsOf 5 = 1 := by kernel_rfl

theorem addr_zero {w : World} {a : Addr} {v : Value} (h : w.cell? (a.add 0) = some v) : ∃ b o, a = ⟨b, o, none⟩ := by
  obtain ⟨b, off, spot⟩ := a
  have hspot : spot = none := by simpa [Addr.add] using World.cell?_spot h
  subst hspot
  exact ⟨b, off, rfl⟩

theorem open_bytes {H : Type} {enc : TypeId × Value → H} {W : World} {base : Nat} {spare : Nat → Bool} {held : Bool} {fuel : Nat} {v : Value} {x : DataW H × List MemPlace} (h : DataW.trod enc Tryf.prog W base spare held fuel 22 [v] = some x) :
    ∃ a n c zs, v = .slice a n c ∧ n ≤ maxLen ∧ BytesAt W (.slice a n c) zs := by
  rcases open_ints Tryf.underlying22 Tryf.underlying5 cells5 h with ⟨hcs, _⟩ | ⟨a, len, cap, zs, hcs, _, hl, hm, hz, _, hcell, _⟩
  · simp at hcs
    subst hcs
    exact ⟨none, 0, 0, [], rfl, by simp, none, 0, rfl, fun _ => rfl, fun t ht => absurd ht (by simp)⟩
  · simp at hcs
    subst hcs
    have hlz : len ≤ zs.length := by rw [hz]; split <;> omega
    have hlen : (zs.take len).length = len := by simp; omega
    refine ⟨some a, len, cap, zs.take len, rfl, by omega, some a, cap, by rw [hlen], (fun h => by cases h), fun t ht => ?_⟩
    rw [hlen] at ht
    obtain ⟨b, o, rfl⟩ := addr_zero (hcell 0 (by omega))
    refine ⟨b, o, rfl, ?_⟩
    have := hcell t (by omega)
    rw [Addr.add_lit] at this
    rw [this]
    congr 2
    simp [List.getD, ht]

set_option maxRecDepth 100000 in
theorem lifted (os : Os) (started : os.Started) (H : Type) (enc : TypeId × Value → H) :
    ReturnsInTold none {} Tryf.checked os 3 .any Input.okWide ((OpenSpec.ofChange Rows.fnEchoInvokeRoundTripAndArgumentCountSpec).preRow enc Tryf.prog Tryf.f3 [] false []) (fun F => ((OpenSpec.ofChange Rows.fnEchoInvokeRoundTripAndArgumentCountSpec).at F).post enc Tryf.prog Tryf.f3 false true false false) (aloneAtReturn Tryf.prog) nothingAlways := by
  refine returnsInTold_of_row (C := Tryf.checked) (s := OpenSpec.ofChange Rows.fnEchoInvokeRoundTripAndArgumentCountSpec) (by kernel_rfl) own started (by kernel_rfl) Tryf.func3
    (OpenSpec.witness_stopped (enc := enc) (C := Tryf.checked) false ⟨#[], #[.agg #[.slice none 0 0, .slice none 0 0], .agg #[.slice none 0 0, .slice none 0 0]], []⟩ 8 (by kernel_rfl) (by kernel_rfl) (by kernel_rfl) (by kernel_rfl)) ?_
  intro F W base args ds gs before _ hF hval0 hW _ _ _ _ _
  have hval : ∀ (j : Nat) t v, Tryf.f3.params[j]? = some t → args[j]? = some v → Value.okWide Tryf.prog W .any base t v := hval0
  have hW' := hW
  obtain ⟨p, q, hA0, hV, rfl, hfz, hnd⟩ := hW
  have hA : DataW.TrodAll enc Tryf.prog W 0 (fun _ => true) true Tryf.f3.params.toList args.toList ds p := hA0
  rw [Tryf.params3] at hA hval
  obtain ⟨v0, vs0, d0, ds0, p0, q0, hargs, rfl, rfl, h0, r0⟩ := trodAll_cons hA
  obtain ⟨v1, vs1, d1, ds1, p1, q1, rfl, rfl, rfl, h1, r1⟩ := trodAll_cons r0
  obtain ⟨rfl, rfl, rfl⟩ := trodAll_nil r1
  obtain rfl : args = #[v0, v1] := by cases args; simp_all
  obtain ⟨rfl, rfl⟩ := trodVars_none hV
  have k0 := h0
  have k1 := h1
  have lt0 : ∀ x ∈ p0, x.block < W.heap.size := by obtain ⟨m, hm⟩ := k0; exact DataW.trod_lt m _ _ _ hm
  have lt1 : ∀ x ∈ p1, x.block < W.heap.size := by obtain ⟨m, hm⟩ := k1; exact DataW.trod_lt m _ _ _ hm
  obtain ⟨c0, c1, y0, y1, m, rfl, hd0, hp0, hy0, hy1⟩ := open_agg2 Tryf.underlying24 (by kernel_rfl) cells24 (hval 0 24 v0 rfl rfl) h0
  obtain ⟨e0, e1, z0, z1, m', rfl, hd1, hp1, hz0, hz1⟩ := open_agg2 Tryf.underlying24 (by kernel_rfl) cells24 (hval 1 24 v1 rfl rfl) h1
  obtain ⟨x0, n0, cp0, zs, rfl, hn0, hx0⟩ := open_bytes hy0
  obtain ⟨x1, n1, cp1, us, rfl, hn1, hx1⟩ := open_bytes hy1
  obtain ⟨u0, m0, cq0, ps, rfl, hm0, hu0⟩ := open_bytes hz0
  obtain ⟨u1, m1, cq1, qs, rfl, hm1, hu1⟩ := open_bytes hz1
  clear hA0 hval0
  refine (main_any F.told x0 x1 u0 u1 n0 cp0 n1 cp1 m0 cq0 m1 cq1 zs us ps qs W hF hn0 hn1 hm0 hm1 hx0 hx1 hu0 hu1).mono fun e W' ⟨he, bel⟩ => ?_
  subst he
  exact ⟨_, rfl, _, _, _, [], _, [], hW', trodAll_mk1 (shut_bool Tryf.underlying4 _), (trodAll_cons_mk (Below.trod laidOut (by kernel_rfl) (of_decide_eq_true (by kernel_rfl)) k0 bel lt0) (trodAll_cons_mk (Below.trod laidOut (by kernel_rfl) (of_decide_eq_true (by kernel_rfl)) k1 bel lt1) trodAll_mk0)), rfl, bel.frame _, fun h => by cases h⟩

theorem over : (Claim7.toldRow Rows.fnEchoInvokeRoundTripAndArgumentCountRow (true, "08f3be99fcafa5ccf73417e02e0abc300ffaba4980c273076de34559ebaa47e4") false false).holds Tryf.pinned (.plain (OpenSpec.ofChange Rows.fnEchoInvokeRoundTripAndArgumentCountSpec)) :=
  Claim7.holds_of_told_any 3 Tryf.f3 "fmt.errorf" [] [] _ _ _ (by kernel_rfl) rfl rfl rfl laidOut (by kernel_rfl) rfl ⟨rfl, rfl, rfl, rfl, rfl, rfl, rfl⟩ rfl rfl (by kernel_rfl) (by kernel_rfl) Tryf.func3 (by kernel_rfl)
    (of_decide_eq_true (by kernel_rfl)) (of_decide_eq_true (by kernel_rfl)) stops.symm rfl stopKnobs.symm (by kernel_rfl)
    (by kernel_rfl) (by kernel_rfl) (by kernel_rfl) (by kernel_rfl) (by kernel_rfl) (by kernel_rfl) (by kernel_rfl) (by kernel_rfl) (by kernel_rfl) rfl (by kernel_rfl) rfl rfl
    rfl rfl
    rfl (by kernel_rfl) (by kernel_rfl) (by kernel_rfl) (by decide) (by kernel_rfl)
    (OpenClaim.moreEntering_of (by kernel_rfl) (by kernel_rfl) (by kernel_rfl) (by kernel_rfl) (by kernel_rfl) (by kernel_rfl) (by kernel_rfl) (by kernel_rfl) (by kernel_rfl) (by kernel_rfl))
    ⟨_, WideRow.started_initial, quiet _⟩
    (fun os started _ H enc _ => lifted os started H enc)

/-- THE STATEMENT. -/
theorem proved : Rows.FnEchoInvokeRoundTripAndArgumentCountToldSaid := over

end Go.Proofs.Qxb6616130aFmt.fnEchoInvokeRoundTripAndArgumentCount
