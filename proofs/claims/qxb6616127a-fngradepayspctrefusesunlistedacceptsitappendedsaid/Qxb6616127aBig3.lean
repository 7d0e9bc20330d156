/-
  (*big.Int).Set.
-/
import Derived.Test.Qxb6616127aBig2
import Derived.LaidEqlPtr
import Derived.Deep.RegionWith
import Derived.BigRegion
namespace Go.Proofs.Qxb6616127a
open Go.RowKit

theorem run_neq_ptr_other {P : Program} (w : World) {tp te : TypeId} {j : TypeInfo} {a b : Addr} {ca cb : Array Value} {ta tb : TypeId} (hp : P.underlying tp = some (.pointer te)) (hte : P.info? te = some j) (hsz : j.size ≠ 0)
    (hne : a ≠ b) (ha : w.heap[a.block]? = some (.cells ca ta (0, 0))) (hb : w.heap[b.block]? = some (.cells cb tb (0, 0))) :
    (binOp .neq tp (.pointer (some a)) (.pointer (some b))).run P w = .ok (.bool true) w := by
  have h : ∀ d : Nat, (Op.equalIn (d + 1) tp (.pointer (some a)) (.pointer (some b))).run P w = .ok false w := fun d => by
    simp [Op.equalIn, run_underlying hp, sizeOf, typeInfo, hte, hsz, run_sameAddr_other w hne ha hb]
  simp only [binOp]
  simp [Op.equal, Op.maxDepth, h 9999]

theorem Try.info72 : ∃ j, Try.prog.info? 72 = some j ∧ j.size ≠ 0 := by
  have h : (Try.prog.info? 72).map (·.size) = some 2 := by kernel_rfl
  obtain ⟨j, hj, hs⟩ := Option.map_eq_some_iff.1 h
  exact ⟨j, hj, by rw [hs]; decide⟩

def SetEnd (c : Int) (b : Nat) (e : Ending) (w w' : World) : Prop := e = .returned (.pointer (some ⟨b, 0, none⟩)) ∧ w.grownBy w' (some b) ∧ BigAt w' b b c

/-- The two stores of Set, into the receiver's own block. -/
theorem set_blocks {w wx : World} {b : Nat} {v u : Value} (hz : wx.heap[b]? = some (.cells #[.bool false, .slice none 0 0] 72 (0, 0))) (hg : w.grownBy wx none) :
    ((wx.setCell ⟨b, 1, none⟩ v).setCell ⟨b, 0, none⟩ u).heap[b]? = some (.cells #[u, v] 72 (0, 0)) ∧ w.grownBy ((wx.setCell ⟨b, 1, none⟩ v).setCell ⟨b, 0, none⟩ u) (some b) := by
  have h1 := heap_setCell_same wx b 1 _ 72 v hz
  have h2 := heap_setCell_same (wx.setCell ⟨b, 1, none⟩ v) b 0 _ 72 u h1
  refine ⟨by simpa using h2, hg.os, hg.tape, hg.output, ?_, ?_⟩
  · have := hg.size; simpa [World.setCell] using this
  · intro k hk hr
    have hkb : k ≠ b := fun e => hr (by rw [e])
    rw [Below.heap_setCell _ _ _ _ (by show k ≠ b; exact hkb), Below.heap_setCell _ _ _ _ (by show k ≠ b; exact hkb)]
    exact hg.block k hk (by simp)

theorem big_zero_at {w : World} {b : Nat} (h : w.heap[b]? = some (.cells #[.bool false, .slice none 0 0] 72 (0, 0))) : BigAt w b b 0 := ⟨Nat.le_refl _, _, h, .inl ⟨rfl, rfl⟩⟩

set_option maxHeartbeats 1000000 in
set_option maxRecDepth 100000 in
theorem set_any (c : Int) (B b b2 : Nat) (w : World) (hne : b ≠ b2) (hz : w.heap[b]? = some (.cells #[.bool false, .slice none 0 0] 72 (0, 0))) (hB : BigAt w B b2 c) :
    Calls Try.prog 28 #[.pointer (some ⟨b, 0, none⟩), .pointer (some ⟨b2, 0, none⟩)] w fun e w' => SetEnd c b e w w' := by
  obtain ⟨v, hblk, x0, x1, hv⟩ := hB.cells
  obtain ⟨j72, hj72, hs72⟩ := Try.info72
  have hptr := run_neq_ptr_other (P := Try.prog) (a := ⟨b, 0, none⟩) (b := ⟨b2, 0, none⟩) w Try.underlying50 hj72 hs72 (by intro e; exact hne (congrArg Addr.block e)) hz hblk
  have z0 : w.cell? ⟨b, 0, none⟩ = some (.bool false) := by simp [World.cell?, hz]
  have z1 : w.cell? ⟨b, 1, none⟩ = some (.slice none 0 0) := by simp [World.cell?, hz]
  have f0 : w.frozen? ⟨b, 0, none⟩ = false := by simp [World.frozen?, hz]
  have f1 : w.frozen? ⟨b, 1, none⟩ = false := by simp [World.frozen?, hz]
  have HZ : Hid _ := hz
  clear hB hblk hz
  obtain ⟨ng, hng⟩ : ∃ ng, ng = decide (c < 0) := ⟨_, rfl⟩
  rw [← hng] at x0
  have HN : Hid (ng = decide (c < 0)) := hng
  clear hng
  rcases hv with ⟨rfl, rfl⟩ | ⟨hc, g, rfl, h3⟩
  · obtain rfl : ng = false := by rw [HN.out]; decide
    go_enter Try.func28, Try.ntmps28
    go_wp2_with fail
    go_region_with (first | (go_at_call 36; refine (natset_none _).mono ?_; rintro e w' ⟨rfl, rfl⟩))
    all_goals
      go_wp2_with fail
      go_ret
      have R := set_blocks (v := .slice none 0 0) (u := .bool false) HZ.out (World.grownBy.refl w none)
      exact ⟨rfl, ⟨R.2.os, R.2.tape, R.2.output, R.2.size, R.2.block⟩, big_zero_at R.1⟩
  · have hlb : b < w.heap.size := block_lt HZ.out
    have hlb2 : b2 < w.heap.size := World.block_lt_of_cell? w _ x0
    go_enter Try.func28, Try.ntmps28
    go_wp2_with fail
    go_region_with (first | (go_at_call 36; refine (natset_one g (mag c) _ (by exact h3)).mono ?_; rintro e w1 ⟨rfl, hb1, hw1⟩; have c1 := (hb1.cell (p := ⟨b, 1, none⟩) hlb).trans z1; have c0 := (hb1.cell (p := ⟨b, 0, none⟩) hlb).trans z0; have d0 := (hb1.frozen (p := ⟨b, 0, none⟩) hlb).trans f0; have d1 := (hb1.frozen (p := ⟨b, 1, none⟩) hlb).trans f1; have y0 := (hb1.cell (p := ⟨b2, 0, none⟩) hlb2).trans x0))
    all_goals
      have ZW : Hid (w1.heap[b]? = _) := (hb1.block b hlb).trans HZ.out
      have GW : Hid (w.grownBy w1 none) := ⟨hb1.os, hb1.tape, hb1.output, hb1.size, fun k hk _ => hb1.block k hk⟩
      have WW : Hid _ := hw1
      clear hb1 hw1
      go_wp2_with fail
      go_ret
      have R := set_blocks (v := .slice (some ⟨w.heap.size, 0, none⟩) 1 1) (u := .bool ng) ZW.out GW.out
      refine ⟨rfl, ⟨R.2.os, R.2.tape, R.2.output, R.2.size, R.2.block⟩, Nat.le_refl _, _, by rw [← HN.out]; exact R.1, .inr ⟨hc, w.heap.size, 77, Nat.le_of_lt hlb, rfl, ?_⟩⟩
      have hx := WW.out
      rw [Below.heap_setCell _ _ _ _ (by show w.heap.size ≠ b; omega), Below.heap_setCell _ _ _ _ (by show w.heap.size ≠ b; omega)]
      exact hx

end Go.Proofs.Qxb6616127a
