/-
  cloneInts.
-/
import Derived.Test.Qxb6616127aMem
namespace Go.Proofs.Qxb6616127a
open Go.RowKit

theorem Try.info3 : (Try.prog.info? 3).map (fun i => (i.zero, i.size, i.bytes)) = some (some (.int .i64 0), 1, 8) := by kernel_rfl

/-- The row's first k cells are the numbers of zs. -/
def HasTo (X : List Value) (zs : List Int) (k : Nat) : Prop := ∀ t, t < k → X[t]? = some (.int .i64 (zs.getD t 0))

theorem HasTo.step {X : List Value} {zs : List Int} {k : Nat} (h : HasTo X zs k) (hk : k < X.length) : HasTo (X.set k (.int .i64 (zs.getD k 0))) zs (k + 1) := by
  intro t ht
  by_cases e : t = k
  · subst e; simp [hk]
  · rw [List.getElem?_set_ne (by omega)]; exact h t (by omega)

theorem ints_of_own {w : World} {B g n cap : Nat} {X : List Value} {zs : List Int} (h : w.ownsRow B 3 1 (.slice (some ⟨g, 0, none⟩) n cap) n X) (hz : zs.length = n) (hX : HasTo X zs n) : IntsAt w (.slice (some ⟨g, 0, none⟩) n cap) zs := by
  refine ⟨some ⟨g, 0, none⟩, cap, by rw [hz], (fun h => by cases h), fun t ht => ⟨g, 0, rfl, ?_⟩⟩
  have := h.cells rfl t _ (hX t (by omega))
  rw [Addr.add_lit] at this
  exact this

theorem clone_nil (w : World) :
    Calls Try.prog 21 #[.slice none 0 0] w fun e w' => e = .returned (.slice none 0 0) ∧ w = w' := by
  have hq := fun w => Lib.run_eql_slice_nil (P := Try.prog) w 40 3 none 0 0 0 0 Try.underlying40
  go_enter Try.func21, Try.ntmps21
  go_wp2
  go_ret
  exact ⟨rfl, rfl⟩

set_option maxHeartbeats 1000000 in
set_option maxRecDepth 100000 in
theorem clone_some (ad : Addr) (n cap : Nat) (zs : List Int) (w : World) (hn : n ≤ 1048576) (hz : zs.length = n) (h : IntsAt w (.slice (some ad) n cap) zs) :
    Calls Try.prog 21 #[.slice (some ad) n cap] w fun e w' => e = .returned (.slice (some ⟨w.heap.size, 0, none⟩) n n) ∧ Below w.heap.size w w' ∧ IntsAt w' (.slice (some ⟨w.heap.size, 0, none⟩) n n) zs := by
  have HI : Hid (∀ t, t < n → ∃ b o, (some ad : Option Addr) = some ⟨b, o, none⟩ ∧ w.cell? ⟨b, o + t, none⟩ = some (.int .i64 (zs.getD t 0))) := by
    obtain ⟨a', c', hv, _, hc⟩ := h
    obtain ⟨rfl, rfl, _⟩ : some ad = a' ∧ n = zs.length ∧ cap = c' := by simpa using hv
    exact hc
  have HZ : Hid (zs.length = n) := hz
  clear h hz
  obtain ⟨inf, hi, hz0, hz1, hz2⟩ := info_parts Try.info3
  have hq := fun w => Lib.run_eql_slice_nil (P := Try.prog) w 40 3 (some ad) n cap 0 0 Try.underlying40
  go_enter Try.func21, Try.ntmps21
  go_wp2_with (at_make; refine wpList_make_full _ rfl _ _ 40 rfl w.heap.size 3 inf (.int .i64 0) 1 Try.underlying40 hi hz0 hz1 _ _ _ _ n rfl rfl rfl rfl (by rw [hz2]; omega) (by unfold maxLen; omega) (Nat.le_refl _) ?_; intro w1 hown1 hgrow1)
  go_loopw [4] (fun i wr => ∃ (k : Nat) (X : List Value), k ≤ n ∧ i = .int .i64 k ∧ Hid (HasTo X zs k) ∧ wr.ownsRow w.heap.size 3 1 (.slice (some ⟨w.heap.size, 0, none⟩) n n) n X ∧ Below w.heap.size w wr) (fun i _ => n - (intOf i).toNat)
  case atStart => exact ⟨0, _, Nat.zero_le _, rfl, fun t ht => absurd ht (by omega), hown1, (Below.refl _ _).grown hgrow1 (Nat.le_refl _) (fun k h => by cases h)⟩
  case round =>
    obtain ⟨k, X, hk, rfl, HX, hown, hb⟩ := hrel
    clear hown1 hgrow1
    by_cases hlt : k < n
    · have hXl : k < X.length := by have := hown.1; omega
      have c1 : wr.cell? ⟨w.heap.size, k, none⟩ = some X[k] := by rw [hown.cellAt k (by omega)]; exact List.getElem?_eq_getElem hXl
      have f1 := hown.frozenAt k
      obtain ⟨b, o, had, g0⟩ := HI.out k hlt
      have hbl := World.block_lt_of_cell? w _ g0
      have g1 := (hb.cell (p := ⟨b, o + k, none⟩) hbl).trans g0
      obtain rfl := Option.some.inj had
      obtain ⟨z, hz⟩ : ∃ z, z = zs.getD k 0 := ⟨_, rfl⟩
      rw [← hz] at g1
      have HD : Hid (z = zs.getD k 0) := hz
      have hne : b ≠ w.heap.size := by
        have : b < w.heap.size := hbl
        omega
      have st := hown.stored k (.int .i64 z)
      have ST : Hid (_ ∧ _) := st
      generalize X[k] = u at c1
      clear hz g0 had st
      go_wp2
      go_roundw
      case rel => exact ⟨k + 1, X.set k (.int .i64 z), by omega, by go_num, by rw [HD.out]; exact HX.out.step hXl, ST.out.1, hb.grown ST.out.2 hb.size (fun k h => by cases h; exact Nat.le_refl _)⟩
      case measure => simp [intOf]; omega
    · obtain rfl : k = n := by omega
      go_wp2
      go_ret
      exact ⟨rfl, hb, ints_of_own hown HZ.out HX.out⟩

end Go.Proofs.Qxb6616127a
