/-
  THE GRADE ROWS, OPENED: from the reading of the argument to what the walks are told of memory.
-/
import Derived.Test.Qxb6616127aGMain
import Derived.ProofKit
import Derived.OpenShut
import Derived.ShutString
import Derived.ChangeOld
import Derived.Below
import Derived.Deep.Strs
import Derived.Deep.SlicePairs
namespace Go.Proofs.Qxb6616127a
open Go.ChangeShapes Go.WideShapes Go.ChangeAt Go.RowKit
open Go.Deep

theorem Try.cellsG9 : Try.prog.cellsOf 9 = 1 := by kernel_rfl
theorem Try.cellsG2 : Try.prog.cellsOf 2 = 1 := by kernel_rfl
theorem Try.cellsG21 : Try.prog.cellsOf 21 = 1 := by kernel_rfl
theorem Try.cellsG26 : Try.prog.cellsOf 26 = 3 := by kernel_rfl

theorem addr_zero_g {w : World} {a : Addr} {v : Value} (h : w.cell? (a.add 0) = some v) : ∃ b o, a = ⟨b, o, none⟩ := by
  obtain ⟨b, off, spot⟩ := a
  have hspot : spot = none := by simpa [Addr.add] using World.cell?_spot h
  subst hspot
  exact ⟨b, off, rfl⟩

theorem i64_range {n : Int} (h : (Lit.int .i64 n).wf = true) : -9223372036854775808 ≤ n ∧ n ≤ 9223372036854775807 := bounds_i64 h

section
variable {H : Type} {enc : TypeId × Value → H} {W : World} {base : Nat} {spare : Nat → Bool} {held : Bool} {fuel : Nat}

theorem open_grades {a : Option Addr} {n cap : Nat} {x : DataW H × List MemPlace} (h : DataW.trod enc Try.prog W base spare held fuel 22 [.slice a n cap] = some x) :
    ∃ rs : List (ByteArray × Int × Int), rs.length = n ∧ n ≤ maxLen ∧ (∀ t, t < n → (rs.getD t (ByteArray.empty, 0, 0)).1.size ≤ maxLen) ∧
      (∀ r ∈ rs, -9223372036854775808 ≤ r.2.1 ∧ r.2.1 ≤ 9223372036854775807) ∧ RowsAt W (.slice a n cap) rs := by
  rcases open_slice Try.underlying22 h with ⟨hcs, _⟩ | ⟨ad, len, cap', m, k, D, Pl, hcs, hb, hl, hm, hmm, rfl, hx⟩
  · simp at hcs
    obtain ⟨rfl, rfl, rfl⟩ := hcs
    exact ⟨[], rfl, by simp, fun t ht => absurd ht (by simp), fun r hr => absurd hr (by simp), none, 0, rfl, fun _ => rfl, fun t ht => absurd ht (by simp)⟩
  · simp at hcs
    obtain ⟨rfl, rfl, rfl⟩ := hcs
    have hlm : n ≤ m := by rw [hmm]; split <;> omega
    have each : ∀ i, i < n → ∃ q : ByteArray × Int × Int, W.cell? (ad.add (i * 3)) = some (.string q.1) ∧ W.cell? (ad.add (i * 3 + 1)) = some (.int .i64 q.2.1) ∧ W.cell? (ad.add (i * 3 + 2)) = some (.int .i32 q.2.2) ∧
        q.1.size ≤ maxLen ∧ -9223372036854775808 ≤ q.2.1 ∧ q.2.1 ≤ 9223372036854775807 := by
      intro i hi
      obtain ⟨cs', h1, h2⟩ := hx i (by omega)
      rw [Try.cellsG26] at h1
      obtain ⟨_, hlen, hcell⟩ := World.cells?_some h1
      obtain ⟨y0, y1, y2, k, hxy, _, u0, u1, u2⟩ := trod_struct3 Try.underlying26 h2
      match cs', hlen with
      | [v0, v1, v2], _ =>
        simp only [Try.cellsG9, Try.cellsG2, Try.cellsG21, List.drop, List.take] at u0 u1 u2
        obtain ⟨s, e0, d0, hs⟩ := DataW.trod_string Try.underlying9 u0
        obtain ⟨q, e1, d1, hq⟩ := DataW.trod_int Try.underlying2 u1
        obtain ⟨p, e2, d2, _⟩ := DataW.trod_int Try.underlying21 u2
        simp only [List.cons.injEq, and_true] at e0 e1 e2
        subst e0; subst e1; subst e2
        have c0 := hcell 0 (by omega)
        have c1 := hcell 1 (by omega)
        have c2 := hcell 2 (by omega)
        rw [add_add] at c0 c1 c2
        exact ⟨(s, q, p), by simpa using c0, by simpa using c1, by simpa using c2, hs, i64_range hq⟩
    obtain ⟨f, hf⟩ := choose_lt each
    have e : ∀ t, t < n → ((List.range n).map f).getD t (ByteArray.empty, 0, 0) = f t := fun t ht => by simp [List.getD, ht]
    refine ⟨(List.range n).map f, by simp, by omega, fun t ht => by rw [e t ht]; exact (hf t ht).2.2.2.1, fun r hr => ?_, some ad, cap, by simp, (fun h => by cases h), fun t ht => ?_⟩
    · obtain ⟨t, ht, rfl⟩ := List.mem_map.1 hr
      exact (hf t (List.mem_range.1 ht)).2.2.2.2
    · simp at ht
      obtain ⟨b, o, rfl⟩ := addr_zero_g (by simpa using (hf 0 (by omega)).1)
      rw [e t ht]
      obtain ⟨c0, c1, c2, _⟩ := hf t ht
      rw [Addr.add_lit] at c0 c1 c2
      exact ⟨b, o, rfl, c0, by rw [← Nat.add_assoc] at c1; exact c1, by rw [← Nat.add_assoc] at c2; exact c2⟩

end

end Go.Proofs.Qxb6616127a
