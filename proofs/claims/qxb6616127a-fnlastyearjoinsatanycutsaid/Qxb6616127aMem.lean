/-
  WHAT THE WALKS ARE TOLD OF MEMORY: slices of strings, of ints, of TestYears; a map of tests by id.
-/
import Derived.Test.Qxb6616127aRows
import Derived.WalkKit
import Derived.WalkSpells
import Derived.WalkLawsBesides
import Derived.Handy
import Derived.Maps.Own
import Derived.Maps.Views
namespace Go.Proofs.Qxb6616127a
open Go.RowKit

theorem ret_bool {a b : Bool} (h : a = b) : Ending.returned (.bool a) = .returned (.bool b) := by rw [h]
theorem ret_int {k : IntKind} {a b : Int} (h : a = b) : Ending.returned (.int k a) = .returned (.int k b) := by rw [h]

/-- The slice value v holds the ints zs. -/
def IntsAt (w : World) (v : Value) (zs : List Int) : Prop :=
  ∃ a cap, v = .slice a zs.length cap ∧ (a = none → cap = 0) ∧ ∀ t, t < zs.length → ∃ b o, a = some ⟨b, o, none⟩ ∧ w.cell? ⟨b, o + t, none⟩ = some (.int .i64 (zs.getD t 0))

/-- The slice value v holds the strings ss. -/
def StrsAt (w : World) (v : Value) (ss : List ByteArray) : Prop :=
  ∃ a cap, v = .slice a ss.length cap ∧ (a = none → cap = 0) ∧ ∀ t, t < ss.length → ∃ b o, a = some ⟨b, o, none⟩ ∧ w.cell? ⟨b, o + t, none⟩ = some (.string (ss.getD t ByteArray.empty)) ∧ (ss.getD t ByteArray.empty).size ≤ maxLen

/-- The slice value v holds the tests ts: each an id and its years. -/
def TestsAt (w : World) (v : Value) (ts : List (ByteArray × List Int)) : Prop :=
  ∃ a cap, v = .slice a ts.length cap ∧ (a = none → cap = 0) ∧ ∀ t, t < ts.length → ∃ b o x c, a = some ⟨b, o, none⟩ ∧
    w.cell? ⟨b, o + t * 2, none⟩ = some (.string (ts.getD t (ByteArray.empty, [])).1) ∧ (ts.getD t (ByteArray.empty, [])).1.size ≤ maxLen ∧
    w.cell? ⟨b, o + t * 2 + 1, none⟩ = some (.slice x (ts.getD t (ByteArray.empty, [])).2.length c) ∧ IntsAt w (.slice x (ts.getD t (ByteArray.empty, [])).2.length c) (ts.getD t (ByteArray.empty, [])).2

theorem IntsAt.later {w w' : World} {x : Value} {zs : List Int} (h : IntsAt w x zs) (hb : Below w.heap.size w w') : IntsAt w' x zs := by
  obtain ⟨a, cap, hv, hn, hc⟩ := h
  refine ⟨a, cap, hv, hn, fun t ht => ?_⟩
  obtain ⟨b, o, ha, hcell⟩ := hc t ht
  exact ⟨b, o, ha, (hb.cell (World.block_lt_of_cell? w _ hcell)).trans hcell⟩

theorem StrsAt.later {w w' : World} {x : Value} {zs : List ByteArray} (h : StrsAt w x zs) (hb : Below w.heap.size w w') : StrsAt w' x zs := by
  obtain ⟨a, cap, hv, hn, hc⟩ := h
  refine ⟨a, cap, hv, hn, fun t ht => ?_⟩
  obtain ⟨b, o, ha, hcell, hs⟩ := hc t ht
  exact ⟨b, o, ha, (hb.cell (World.block_lt_of_cell? w _ hcell)).trans hcell, hs⟩

theorem TestsAt.later {w w' : World} {x : Value} {zs : List (ByteArray × List Int)} (h : TestsAt w x zs) (hb : Below w.heap.size w w') : TestsAt w' x zs := by
  obtain ⟨a, cap, hv, hn, hc⟩ := h
  refine ⟨a, cap, hv, hn, fun t ht => ?_⟩
  obtain ⟨b, o, y, c, ha, h1, hs, h2, h3⟩ := hc t ht
  exact ⟨b, o, y, c, ha, (hb.cell (World.block_lt_of_cell? w _ h1)).trans h1, hs, (hb.cell (World.block_lt_of_cell? w _ h2)).trans h2, h3.later hb⟩

abbrev key (s : ByteArray) : List UInt8 := s.data.toList

end Go.Proofs.Qxb6616127a
