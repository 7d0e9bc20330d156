/-
  FROM THE READINGS OF THE ARGUMENTS TO WHAT THE WALKS ARE TOLD OF MEMORY.
-/
import Derived.Test.Qxb6616127aMem
import Derived.ProofKit
import Derived.OpenShut
import Derived.ShutString
import Derived.ChangeOld
import Derived.Below
import Derived.Deep.Strs
import Derived.Deep.SlicePairs
namespace Go.Proofs.Qxb6616127a
open Go.ChangeShapes Go.WideShapes Go.ChangeAt Go.RowKit
open Go.Deep

theorem Try.cells9 : Try.prog.cellsOf 9 = 1 := by kernel_rfl
theorem Try.cells40 : Try.prog.cellsOf 40 = 1 := by kernel_rfl
theorem Try.cells3 : Try.prog.cellsOf 3 = 1 := by kernel_rfl
theorem Try.cells63 : Try.prog.cellsOf 63 = 2 := by kernel_rfl

theorem addr_zero {w : World} {a : Addr} {v : Value} (h : w.cell? (a.add 0) = some v) : ∃ b o, a = ⟨b, o, none⟩ := by
  obtain ⟨b, off, spot⟩ := a
  have hspot : spot = none := by simpa [Addr.add] using World.cell?_spot h
  subst hspot
  exact ⟨b, off, rfl⟩

section
variable {H : Type} {enc : TypeId × Value → H} {W : World} {base : Nat} {spare : Nat → Bool} {held : Bool} {fuel : Nat}

theorem open_years {v : Value} {x : DataW H × List MemPlace} (h : DataW.trod enc Try.prog W base spare held fuel 40 [v] = some x) :
    ∃ a c zs, v = .slice a zs.length c ∧ zs.length ≤ maxLen ∧ IntsAt W v zs := by
  rcases open_ints Try.underlying40 Try.underlying3 Try.cells3 h with ⟨hcs, _⟩ | ⟨a, len, cap, zs, hcs, _, hl, hm, hz, _, hcell, _⟩
  · simp at hcs
    subst hcs
    exact ⟨none, 0, [], rfl, by simp, none, 0, rfl, fun _ => rfl, fun t ht => absurd ht (by simp)⟩
  · simp at hcs
    subst hcs
    have hlz : len ≤ zs.length := by rw [hz]; split <;> omega
    have hlen : (zs.take len).length = len := by simp; omega
    refine ⟨some a, cap, zs.take len, by rw [hlen], by omega, some a, cap, by rw [hlen], (fun h => by cases h), fun t ht => ?_⟩
    rw [hlen] at ht
    obtain ⟨b, o, rfl⟩ := addr_zero (hcell 0 (by omega))
    refine ⟨b, o, rfl, ?_⟩
    have := hcell t (by omega)
    rw [Addr.add_lit] at this
    rw [this]
    congr 2
    simp [List.getD, ht]

theorem open_ids {a : Option Addr} {n cap : Nat} {x : DataW H × List MemPlace} (h : DataW.trod enc Try.prog W base spare held fuel 31 [.slice a n cap] = some x) :
    ∃ ss : List ByteArray, ss.length = n ∧ n ≤ maxLen ∧ StrsAt W (.slice a n cap) ss := by
  rcases open_strs Try.underlying31 Try.underlying9 Try.cells9 h with ⟨hcs, _⟩ | ⟨ad, len, cap', m, Sx, hcs, _, hl, hm, hmm, _, hcell⟩
  · simp at hcs
    obtain ⟨rfl, rfl, rfl⟩ := hcs
    exact ⟨[], rfl, by simp, none, 0, rfl, fun _ => rfl, fun t ht => absurd ht (by simp)⟩
  · simp at hcs
    obtain ⟨rfl, rfl, rfl⟩ := hcs
    have hlm : n ≤ m := by rw [hmm]; split <;> omega
    refine ⟨(List.range n).map Sx, by simp, by omega, some ad, cap, by simp, (fun h => by cases h), fun t ht => ?_⟩
    simp at ht
    obtain ⟨b, o, rfl⟩ := addr_zero (hcell 0 (by omega)).1
    have e : ((List.range n).map Sx).getD t ByteArray.empty = Sx t := by simp [List.getD, ht]
    rw [e]
    have := (hcell t (by omega)).1
    rw [Addr.add_lit] at this
    exact ⟨b, o, rfl, this, (hcell t (by omega)).2⟩

theorem open_tests {a : Option Addr} {n cap : Nat} {x : DataW H × List MemPlace} (h : DataW.trod enc Try.prog W base spare held fuel 32 [.slice a n cap] = some x) :
    ∃ ts : List (ByteArray × List Int), ts.length = n ∧ n ≤ maxLen ∧ (∀ t, t < n → (ts.getD t (ByteArray.empty, [])).2.length ≤ maxLen) ∧ TestsAt W (.slice a n cap) ts := by
  rcases open_slice_pairs Try.underlying32 Try.underlying63 Try.cells63 rfl rfl Try.cells9 Try.cells40 h with ⟨hcs, _⟩ | ⟨ad, len, cap', m, fl, V0, V1, D0, D1, P0, P1, hcs, _, hl, hm, hmm, _, hcell⟩
  · simp at hcs
    obtain ⟨rfl, rfl, rfl⟩ := hcs
    exact ⟨[], rfl, by simp, fun t ht => absurd ht (by simp), none, 0, rfl, fun _ => rfl, fun t ht => absurd ht (by simp)⟩
  · simp at hcs
    obtain ⟨rfl, rfl, rfl⟩ := hcs
    have hlm : n ≤ m := by rw [hmm]; split <;> omega
    have each : ∀ i, i < n → ∃ p : ByteArray × List Int, V0 i = .string p.1 ∧ p.1.size ≤ maxLen ∧ p.2.length ≤ maxLen ∧ IntsAt W (V1 i) p.2 := by
      intro i hi
      obtain ⟨_, _, h0, h1⟩ := hcell i (by omega)
      obtain ⟨s, hs, _, hsz⟩ := DataW.trod_string Try.underlying9 h0
      obtain ⟨a', c', zs, _, hzl, hzi⟩ := open_years h1
      exact ⟨(s, zs), by simpa using hs, hsz, hzl, hzi⟩
    obtain ⟨f, hf⟩ := choose_lt each
    have e : ∀ t, t < n → ((List.range n).map f).getD t (ByteArray.empty, []) = f t := fun t ht => by simp [List.getD, ht]
    refine ⟨(List.range n).map f, by simp, by omega, fun t ht => by rw [e t ht]; exact (hf t ht).2.2.1, some ad, cap, by simp, (fun h => by cases h), fun t ht => ?_⟩
    simp at ht
    obtain ⟨b, o, rfl⟩ := addr_zero (by simpa using (hcell 0 (by omega)).1)
    rw [e t ht]
    obtain ⟨c0, c1, _, _⟩ := hcell t (by omega)
    obtain ⟨hv0, hsz, _, hint⟩ := hf t ht
    have hint' := hint
    obtain ⟨a', c', hv1, _, _⟩ := hint'
    rw [Addr.add_lit] at c0 c1
    rw [hv1] at c1 hint
    exact ⟨b, o, a', c', rfl, by rw [← hv0]; exact c0, hsz, by rw [← Nat.add_assoc] at c1; exact c1, hint⟩

end

end Go.Proofs.Qxb6616127a
