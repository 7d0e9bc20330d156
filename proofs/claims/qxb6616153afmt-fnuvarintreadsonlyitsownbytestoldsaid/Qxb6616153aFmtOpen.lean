/-
  THE BYTES, OPENED: from the reading of the argument to what the walks are told of memory; and the frame's closed facts.
-/
import Derived.Test.Qxb6616153aFmtTurn
import Derived.ProofKit
import Derived.OpenShut
import Derived.ChangeOld
import Derived.Carry
import Derived.ChangeSlices
import Derived.Stop.JoinedTold
import Derived.SevenToldRow
namespace Go.Proofs.Qxb6616153aFmt
open Go.ChangeShapes Go.WideShapes Go.ChangeAt Go.RowKit
open Go.Extern.Stop Go.Stop Go.Extern

theorem own : ownKnob Tryf.prog.godebug = none := by kernel_rfl
theorem laidOut : laidOutB Tryf.prog = true := by kernel_rfl
theorem stops : Tryf.pinned.checked.prog.stops = ["fmt.errorf"] := by kernel_rfl
theorem stopKnobs : Tryf.pinned.checked.prog.stopKnobs = [] := by kernel_rfl
theorem quiet (os : Os) : Stop.quiet Tryf.pinned.checked.prog os := by
  intro k hk
  rw [stopKnobs] at hk
  cases hk
theorem cells5 : Tryf.prog.cellsOf 5 = 1 := by kernel_rfl

theorem addr_zero {w : World} {a : Addr} {v : Value} (h : w.cell? (a.add 0) = some v) : ∃ b o, a = ⟨b, o, none⟩ := by
  obtain ⟨b, off, spot⟩ := a
  have hspot : spot = none := by simpa [Addr.add] using World.cell?_spot h
  subst hspot
  exact ⟨b, off, rfl⟩

theorem byte_back {z : Int} (h : (Lit.int .u8 z).wf = true) : ((z.toNat.toUInt8).toNat : Int) = z := by
  have := bounds_u8 h
  have e : (z.toNat.toUInt8).toNat = z.toNat := by
    simp [Nat.toUInt8, UInt8.toNat_ofNat']
    omega
  rw [e]
  omega

theorem open_bytes {H : Type} {enc : TypeId × Value → H} {W : World} {base : Nat} {spare : Nat → Bool} {held : Bool} {fuel : Nat} {a : Option Addr} {n c : Nat} {x : DataW H × List MemPlace} (h : DataW.trod enc Tryf.prog W base spare held fuel 22 [.slice a n c] = some x) :
    ∃ l : List UInt8, n ≤ maxLen ∧ BytesAt W (.slice a n c) l := by
  rcases open_ints Tryf.underlying22 Tryf.underlying5 cells5 h with ⟨hcs, _⟩ | ⟨ad, len, cap, zs, hcs, _, hl, hm, hz, _, hcell, hwf⟩
  · simp at hcs
    obtain ⟨rfl, rfl, rfl⟩ := hcs
    exact ⟨[], by simp, none, 0, rfl, fun _ => rfl, fun t ht => absurd ht (by simp)⟩
  · simp at hcs
    obtain ⟨rfl, rfl, rfl⟩ := hcs
    have hlz : n ≤ zs.length := by rw [hz]; split <;> omega
    have hlen : ((zs.take n).map fun z => z.toNat.toUInt8).length = n := by simp; omega
    refine ⟨(zs.take n).map fun z => z.toNat.toUInt8, by omega, some ad, c, by rw [hlen], (fun h => by cases h), fun t ht => ?_⟩
    rw [hlen] at ht
    obtain ⟨b, o, rfl⟩ := addr_zero (hcell 0 (by omega))
    refine ⟨b, o, rfl, ?_⟩
    have hc := hcell t (by omega)
    rw [Addr.add_lit] at hc
    rw [hc]
    have htz : t < zs.length := by omega
    have e : ((zs.take n).map fun z => z.toNat.toUInt8).getD t 0 = (zs.getD t 0).toNat.toUInt8 := by simp [List.getD, ht, htz]
    have hw : (Lit.int .u8 (zs.getD t 0)).wf = true := hwf _ (by simp [List.getD, htz])
    rw [e, byte_back hw]

end Go.Proofs.Qxb6616153aFmt
