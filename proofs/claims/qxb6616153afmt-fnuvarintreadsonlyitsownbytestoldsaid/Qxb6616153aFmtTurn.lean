/-
  The decoder beside the bytes: what one read leaves.
-/
import Derived.Test.Qxb6616153aFmtSmall
namespace Go.Proofs.Qxb6616153aFmt
open Go.RowKit Go.Extern.Stop Go.Stop Go.Extern

/-- A tail of the bytes. -/
theorem tail_bytes {w : World} {b o n c o' c' : Nat} {l : List UInt8} (h : BytesAt w (.slice (some ⟨b, o, none⟩) n c) l) (k : Nat) (hk : k ≤ n) (ho : k < n → o' = o + k) : BytesAt w (.slice (some ⟨b, o', none⟩) (n - k) c') (l.drop k) := by
  obtain ⟨rfl, _, hc⟩ := h.form
  refine ⟨some ⟨b, o', none⟩, c', by simp, (fun h => by cases h), fun t ht => ?_⟩
  simp at ht
  obtain ⟨b', o'', e, h1⟩ := hc (t + k) (by omega)
  cases e
  refine ⟨b, o', rfl, ?_⟩
  rw [ho (by omega), show o + k + t = o + (t + k) by omega, h1]
  simp [List.getD, Nat.add_comm]

/-- The decoder at D, whose bytes are ls. -/
def Reads (w : World) (D m : Nat) (E : Value) (ls : List UInt8) : Prop :=
  ∃ a c, DecAt w D (.slice a m c) E ∧ BytesAt w (.slice a m c) ls ∧ m ≤ c ∧ ∀ ad, a = some ad → ad.block ≠ D

theorem Reads.later {w w' : World} {D m : Nat} {E : Value} {ls : List UInt8} (h : Reads w D m E ls) (hb : Below w.heap.size w w') : Reads w' D m E ls := by
  obtain ⟨a, c, h1, h2, h3, h4⟩ := h
  exact ⟨a, c, h1.later hb, h2.later hb, h3, h4⟩

/-- Behind a read that went well. -/
theorem reads_ok {w w' : World} {D b o m c v k : Nat} {e : Ending} {ls : List UInt8} (hD : DecAt w D (.slice (some ⟨b, o, none⟩) m c) .nilIface) (hB : BytesAt w (.slice (some ⟨b, o, none⟩) m c) ls) (hmc : m ≤ c) (hb : b ≠ D) (hk : k ≤ m)
    (h : OkEnd D b o m c v k e w w') : Reads w' D (m - k) .nilIface (ls.drop k) := by
  obtain ⟨o', _, rfl, ho⟩ := h
  obtain ⟨h0, h1, f0, f1⟩ := hD
  refine ⟨some ⟨b, o', none⟩, c - k, ⟨?_, ?_, ?_, ?_⟩, ?_, by omega, fun ad h => by cases h; exact hb⟩
  · exact World.cell?_setCell_same _ _ _ h0
  · exact (World.cell?_setCell_other _ _ _ _ (by simp)).trans h1
  · simpa using f0
  · simpa using f1
  · exact (tail_bytes hB k hk ho).far _ _ (fun ad h => by cases h; exact hb)

/-- Behind a read that failed. -/
theorem reads_fail {w w' : World} {D m : Nat} {e : Ending} {ls : List UInt8} (hR : Reads w D m .nilIface ls) (h : FailEnd D e w w') : ∃ q, Reads w' D m (.iface 44 (.pointer (some ⟨q, 0, none⟩))) ls := by
  obtain ⟨w1, q, _, hb, rfl⟩ := h
  obtain ⟨a, c, h1, h2, h3, h4⟩ := hR.later hb
  obtain ⟨k0, k1, f0, f1⟩ := h1
  refine ⟨q, a, c, ⟨?_, ?_, ?_, ?_⟩, h2.far _ _ h4, h3, h4⟩
  · exact (World.cell?_setCell_other _ _ _ _ (by simp)).trans k0
  · exact World.cell?_setCell_same _ _ _ k1
  · simpa using f0
  · simpa using f1

end Go.Proofs.Qxb6616153aFmt
