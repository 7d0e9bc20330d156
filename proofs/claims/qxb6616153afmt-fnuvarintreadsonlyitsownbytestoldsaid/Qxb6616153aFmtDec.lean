/-
  (*Decoder).Uvarint.
-/
import Derived.Test.Qxb6616153aFmtBytes
import Derived.Test.Qxb6616153aFmtShelf
namespace Go.Proofs.Qxb6616153aFmt
open Go.RowKit Go.Extern.Stop Go.Stop Go.Extern

/-- The decoder at block D: its unread bytes and its error. -/
def DecAt (w : World) (D : Nat) (s E : Value) : Prop :=
  w.cell? ⟨D, 0, none⟩ = some s ∧ w.cell? ⟨D, 1, none⟩ = some E ∧ w.frozen? ⟨D, 0, none⟩ = false ∧ w.frozen? ⟨D, 1, none⟩ = false

theorem binary_any (a : Option Addr) (n c : Nat) (l : List UInt8) (w : World) (h : BytesAt w (.slice a n c) l) :
    Calls Tryf.prog 14 #[.slice a n c] w fun e w' => e = .returned (.tuple #[.int .u64 (Lib.uvarintDec l).1, .int .i64 (Lib.uvarintDec l).2]) ∧ w = w' := by
  obtain ⟨hl, h0, hc⟩ := h.form
  by_cases hn : n = 0
  · subst hn
    obtain rfl : l = [] := List.eq_nil_of_length_eq_zero hl.symm
    exact (Tryf.binary_Uvarint_empty a c w).mono fun e w' ⟨h1, h2⟩ => ⟨h1, h2.symm⟩
  · obtain ⟨b, o, rfl, _⟩ := hc 0 (by omega)
    refine (Tryf.binary_Uvarint b o n c l w hl.symm fun j hj => ?_).mono fun e w' ⟨h1, h2⟩ => ⟨h1, h2.symm⟩
    obtain ⟨b', o', e, h1⟩ := hc j (by omega)
    cases e
    rw [h1]
    simp [List.getD, hj]

/-- A decoder that has failed reads 0. -/
theorem uv_failed (D : Nat) (s : Value) (p : Option Addr) (w : World) (h : DecAt w D s (.iface 44 (.pointer p))) :
    Calls Tryf.prog 9 #[.pointer (some ⟨D, 0, none⟩)] w fun e w' => e = .returned (.int .u64 0) ∧ w = w' := by
  obtain ⟨h0, h1, f0, f1⟩ := h
  go_enter Tryf.func9, Tryf.ntmps9
  go_wp2
  go_ret
  exact ⟨rfl, rfl⟩

def OkEnd (D b o n c v k : Nat) (e : Ending) (w w' : World) : Prop :=
  ∃ o', e = .returned (.int .u64 v) ∧ w.setCell ⟨D, 0, none⟩ (.slice (some ⟨b, o', none⟩) (n - k) (c - k)) = w' ∧ (k < n → o' = o + k)

set_option maxRecDepth 1000000 in
set_option maxHeartbeats 800000 in
theorem uv_ok (D b o n c : Nat) (l : List UInt8) (v j : Nat) (w : World) (hn : n ≤ 1048576) (hs : shortV l = some (v, j + 1)) (hnc : n ≤ c) (hD : DecAt w D (.slice (some ⟨b, o, none⟩) n c) .nilIface) (hB : BytesAt w (.slice (some ⟨b, o, none⟩) n c) l) :
    Calls Tryf.prog 9 #[.pointer (some ⟨D, 0, none⟩)] w fun e w' => OkEnd D b o n c v (j + 1) e w w' := by
  have HB : Hid (BytesAt w (.slice (some ⟨b, o, none⟩) n c) l) := hB
  obtain ⟨h0, h1, f0, f1⟩ := hD
  obtain ⟨hd, k1, k10, kl, kz⟩ := dec_some hs
  obtain ⟨hl, _, hc⟩ := hB.form
  obtain ⟨b', o', e, gj⟩ := hc j (by omega)
  cases e
  have hjn : j < n := by omega
  have HD : Hid (Lib.uvarintDec l = (v, ((j + 1 : Nat) : Int))) := hd
  obtain ⟨x, hx⟩ : ∃ x : Nat, x = (l.getD j 0).toNat := ⟨_, rfl⟩
  have hkz : 1 < j + 1 → x ≠ 0 := by rw [hx]; simpa using kz
  rw [← hx] at gj
  clear hx kz hd hB hc hl hs k1 kl
  go_enter Tryf.func9, Tryf.ntmps9
  go_wp2_with fail
  refine (binary_any _ n c l w HB.out).mono ?_
  rw [HD.out]
  rintro e w' ⟨rfl, rfl⟩
  dsimp only
  by_cases hcj : c = j + 1
  · subst hcj
    by_cases hj : 0 < j
    · have hx0 : ¬ ((x : Int) = 0) := by have := hkz (by omega); omega
      go_wp2_with fail
      go_ret
      exact ⟨o, rfl, by simp; rw [show n - (j + 1) = 0 by omega], fun h => by omega⟩
    · obtain rfl : j = 0 := by omega
      go_wp2_with fail
      go_ret
      exact ⟨o, rfl, by simp; rw [show n - 1 = 0 by omega], fun h => by omega⟩
  · by_cases hj : 0 < j
    · have hx0 : ¬ ((x : Int) = 0) := by have := hkz (by omega); omega
      go_wp2_with fail
      go_ret
      exact ⟨o + (j + 1), rfl, rfl, fun h => rfl⟩
    · obtain rfl : j = 0 := by omega
      go_wp2_with fail
      go_ret
      exact ⟨o + 1, rfl, rfl, fun h => rfl⟩

def FailEnd (D : Nat) (e : Ending) (w w' : World) : Prop :=
  ∃ w1 q, e = .returned (.int .u64 0) ∧ Below w.heap.size w w1 ∧ w1.setCell ⟨D, 1, none⟩ (.iface 44 (.pointer (some ⟨q, 0, none⟩))) = w'

set_option maxHeartbeats 400000 in
theorem fail_any (D : Nat) (p : Option Addr) (w : World) (h1 : w.cell? ⟨D, 1, none⟩ = some .nilIface) (f1 : w.frozen? ⟨D, 1, none⟩ = false) :
    Calls Tryf.prog 15 #[.pointer (some ⟨D, 0, none⟩), .iface 44 (.pointer p)] w fun e w' => e = .returned (.tuple #[]) ∧ w.setCell ⟨D, 1, none⟩ (.iface 44 (.pointer p)) = w' := by
  go_enter Tryf.func15, Tryf.ntmps15
  go_wp2
  go_end0
  exact ⟨rfl, rfl⟩

set_option maxRecDepth 1000000 in
set_option maxHeartbeats 1600000 in
theorem uv_fail (F : Interp) (D : Nat) (a : Option Addr) (n c : Nat) (l : List UInt8) (w : World) (hF : F.answers w.tape) (hn : n ≤ 1048576) (hs : shortV l = none) (hD : DecAt w D (.slice a n c) .nilIface) (hB : BytesAt w (.slice a n c) l) :
    Calls Tryf.prog 9 #[.pointer (some ⟨D, 0, none⟩)] w fun e w' => FailEnd D e w w' := by
  have HB : Hid (BytesAt w (.slice a n c) l) := hB
  obtain ⟨h0, h1, f0, f1⟩ := hD
  have hdb : D < w.heap.size := World.block_lt_of_cell? w _ h0
  have hcases := dec_none hs
  obtain ⟨hl, _, hc⟩ := hB.form
  have keep : ∀ w1, Below w.heap.size w w1 → w1.cell? ⟨D, 1, none⟩ = some .nilIface ∧ w1.frozen? ⟨D, 1, none⟩ = false := fun w1 hb => ⟨(hb.cell hdb).trans h1, (hb.frozen hdb).trans f1⟩
  have KP : Hid (∀ w1, Below w.heap.size w w1 → w1.cell? ⟨D, 1, none⟩ = some .nilIface ∧ w1.frozen? ⟨D, 1, none⟩ = false) := keep
  clear hB hs keep
  generalize hu : Lib.uvarintDec l = U at hcases
  obtain ⟨v, m⟩ := U
  dsimp only at hcases
  have HU : Hid (Lib.uvarintDec l = (v, m)) := hu
  clear hu
  rcases hcases with rfl | hm | ⟨k, rfl, hk1, hk2, hk3⟩
  · clear hc hl
    go_enter Tryf.func9, Tryf.ntmps9
    go_wp2_with fail
    refine (binary_any _ n c l w HB.out).mono ?_
    rw [HU.out]
    rintro e w' ⟨rfl, rfl⟩
    dsimp only
    go_wp2_with fail
    refine (errNew_any _ w).mono ?_
    rintro e w1 ⟨q, rfl, hb⟩
    have HBl : Hid (Below w.heap.size w w1) := hb
    obtain ⟨p1, p2⟩ := KP.out w1 hb
    clear hb
    go_wp2_with fail
    refine (fail_any D _ w1 p1 p2).mono ?_
    rintro e w2 ⟨rfl, rfl⟩
    clear p1 p2
    go_wp2_with fail
    go_ret
    exact ⟨w1, q, rfl, HBl.out, rfl⟩
  · clear hc hl
    have hm0 : (m == 0) = false := by simp; omega
    go_enter Tryf.func9, Tryf.ntmps9
    go_wp2_with fail
    refine (binary_any _ n c l w HB.out).mono ?_
    rw [HU.out]
    rintro e w' ⟨rfl, rfl⟩
    dsimp only
    go_wp2_with fail
    refine (errNew_any _ w).mono ?_
    rintro e w1 ⟨q, rfl, hb⟩
    have HBl : Hid (Below w.heap.size w w1) := hb
    obtain ⟨p1, p2⟩ := KP.out w1 hb
    clear hb
    go_wp2_with fail
    refine (fail_any D _ w1 p1 p2).mono ?_
    rintro e w2 ⟨rfl, rfl⟩
    clear p1 p2
    go_wp2_with fail
    go_ret
    exact ⟨w1, q, rfl, HBl.out, rfl⟩
  · obtain ⟨j, rfl⟩ : ∃ j, k = j + 1 := ⟨k - 1, by omega⟩
    have hj : 0 < j := by omega
    obtain ⟨b, o, rfl, gj⟩ := hc j (by omega)
    have hjn : j < n := by omega
    simp at hk3
    rw [show ((l.getD j 0).toNat : Int) = 0 by simpa [List.getD] using hk3] at gj
    clear hc hl hk1 hk2 hk3
    have HFF : Hid (F.answers w.tape) := hF
    clear hF
    go_enter Tryf.func9, Tryf.ntmps9
    go_wp2_with fail
    refine (binary_any _ n c l w HB.out).mono ?_
    rw [HU.out]
    rintro e w' ⟨rfl, rfl⟩
    dsimp only
    go_wp2_with fail
    refine (errorf_any F (v : Int) ((j : Int) + 1) w.heap.size _ (by simpa using HFF.out) (by go_simp) (by go_simp)).mono ?_
    rintro e w1 ⟨q, rfl, hb0⟩
    have hb : Below w.heap.size w w1 := ((Below.refl _ _).alloc (Nat.le_refl _) _).trans (hb0.mono (by simp))
    have HBl : Hid (Below w.heap.size w w1) := hb
    obtain ⟨p1, p2⟩ := KP.out w1 hb
    clear hb hb0
    go_wp2_with fail
    refine (fail_any D _ w1 p1 p2).mono ?_
    rintro e w2 ⟨rfl, rfl⟩
    clear p1 p2
    go_wp2_with fail
    go_ret
    exact ⟨w1, q, rfl, HBl.out, rfl⟩

end Go.Proofs.Qxb6616153aFmt
