/-
  Decimal.Coefficient, Decimal.Exponent, plan.ZZDecimalParts.
-/
import Derived.Test.Qxb6616127aBig3
namespace Go.Proofs.Qxb6616127a
open Go.RowKit

/-- The pointer of a decimal whose coefficient is c: nil stands for 0. -/
def DecVal (w : World) (p : Value) (c : Int) : Prop := (p = .pointer none ∧ c = 0) ∨ ∃ B b, p = .pointer (some ⟨b, 0, none⟩) ∧ BigAt w B b c

theorem DecVal.later {w w' : World} {p : Value} {c : Int} (h : DecVal w p c) (hb : Below w.heap.size w w') : DecVal w' p c := by
  rcases h with h | ⟨B, b, h, hB⟩
  · exact .inl h
  · exact .inr ⟨B, b, h, hB.later hb⟩

theorem heap_three {w : World} {x y z : Obj} : (((w.alloc x).alloc y).alloc z).heap[w.heap.size + 1]? = some y ∧ (((w.alloc x).alloc y).alloc z).heap[w.heap.size + 1 + 1]? = some z := by
  have h1 := heap_alloc_new ((w.alloc x).alloc y) z
  have h2 := Below.heap_alloc ((w.alloc x).alloc y) z (w.heap.size + 1) (by simp)
  refine ⟨h2.trans heap_two.2, ?_⟩
  have e : ((w.alloc x).alloc y).heap.size = w.heap.size + 1 + 1 := by simp
  rw [e] at h1
  exact h1

theorem coef_end {c : Int} {w wA w' : World} {b : Nat} {e : Ending} (h : SetEnd c b e wA w') (hA : Below w.heap.size w wA) (hb : w.heap.size ≤ b) : BigEnd c e w w' := by
  obtain ⟨rfl, hg, hB⟩ := h
  exact ⟨b, rfl, hA.grown hg hA.size (fun k hk => by cases hk; exact hb), hB.mono hb⟩

set_option maxHeartbeats 1000000 in
set_option maxRecDepth 100000 in
theorem coef_any (p : Value) (c x : Int) (w : World) (hp : DecVal w p c) :
    Calls Try.prog 23 #[.agg #[p, .int .i32 x]] w fun e w' => BigEnd c e w w' := by
  rcases hp with ⟨rfl, rfl⟩ | ⟨B, b, rfl, hB⟩
  · go_enter Try.func23, Try.ntmps23
    go_wp2_with (go_at_call 27; go_in)
    refine (set_any 0 (w.heap.size + 1) (w.heap.size + 1 + 1) (w.heap.size + 1) _ (by omega) heap_three.2 (big_zero_at heap_three.1)).mono ?_
    rintro e w1 hS
    have hE := coef_end (w := w) hS ((((Below.refl _ _).alloc (Nat.le_refl _) _).alloc (by simp) _).alloc (by simp; omega) _) (by omega)
    obtain ⟨rfl, _, _⟩ := hS
    have HE : Hid (BigEnd _ _ w w1) := hE
    clear hE
    go_wp2_with fail
    go_ret
    exact HE.out
  · have hlt : b < w.heap.size := by obtain ⟨_, _, h, _⟩ := hB; exact block_lt h
    go_enter Try.func23, Try.ntmps23
    go_wp2_with (go_at_call 27; go_in)
    refine (set_any c B (w.heap.size + 1) b _ (by omega) heap_two.2 (hB.later (((Below.refl _ _).alloc (Nat.le_refl _) _).alloc (by simp) _))).mono ?_
    rintro e w1 hS
    have hE := coef_end (w := w) hS (((Below.refl _ _).alloc (Nat.le_refl _) _).alloc (by simp) _) (by omega)
    obtain ⟨rfl, _, _⟩ := hS
    have HE : Hid (BigEnd _ _ w w1) := hE
    clear hE
    go_wp2_with fail
    go_ret
    exact HE.out

set_option maxHeartbeats 400000 in
theorem expo_any (p : Value) (x : Int) (w : World) :
    Calls Try.prog 25 #[.agg #[p, .int .i32 x]] w fun e w' => e = .returned (.int .i32 x) ∧ Below w.heap.size w w' := by
  go_enter Try.func25, Try.ntmps25
  go_wp2
  go_ret
  exact ⟨rfl, (Below.refl _ _).alloc (Nat.le_refl _) _⟩

theorem below_after {w w0 w1 : World} (h0 : Below w.heap.size w w0) (h1 : Below w0.heap.size w0 w1) : Below w.heap.size w w1 := h0.trans (h1.mono h0.size)

set_option maxHeartbeats 1000000 in
set_option maxRecDepth 100000 in
theorem parts_any (p : Value) (c x : Int) (w : World) (h : -9223372036854775808 ≤ c ∧ c ≤ 9223372036854775807) (hp : DecVal w p c) :
    Calls Try.prog 20 #[.agg #[p, .int .i32 x]] w fun e w' => e = .returned (.tuple #[.int .i64 c, .int .i32 x]) ∧ Below w.heap.size w w' := by
  have hA : Below w.heap.size w (w.alloc (.cells #[p, .int .i32 x] 52)) := (Below.refl _ _).alloc (Nat.le_refl _) _
  have hpA : Hid (DecVal (w.alloc (.cells #[p, .int .i32 x] 52)) p c) := hp.later hA
  have HA : Hid _ := hA
  have hl : w.heap.size < w.heap.size + 1 := by omega
  clear hp hA
  go_enter Try.func20, Try.ntmps20
  go_wp2_with fail
  go_region_held3 (fun w' => w'.cell? ⟨w.heap.size, 0, none⟩ = some p ∧ w'.cell? ⟨w.heap.size, 1, none⟩ = some (.int .i32 x))
    (first | go_keep | (go_split_ands; refine ⟨?_, ?_⟩ <;> (refine (hb3.cell (by simp; try omega)).trans ?_; assumption)) | (go_split_ands; refine ⟨?_, ?_⟩ <;> (refine (hb5.cell (by exact hs3)).trans ?_; assumption)))
    (first
      | (go_at_call 23; refine (coef_any p c x _ (by exact hpA.out)).mono ?_; rintro e w3 ⟨b3, rfl, hb3, hB3⟩; have hs3 : w.heap.size < w3.heap.size := Nat.lt_of_lt_of_le (by simp) hb3.size; dsimp only)
      | (go_at_call 24; refine (int64_any c _ b3 _ h (by exact hB3)).mono ?_; rintro e w4 ⟨rfl, rfl⟩; dsimp only)
      | (go_at_call 25; refine (expo_any p x _).mono ?_; rintro e w5 ⟨rfl, hb5⟩; dsimp only))
  have hf : Below w.heap.size w w5 := below_after (below_after HA.out.drew hb3) hb5
  clear hb3 hB3 hb5 hpA HA
  go_wp2_with fail
  go_ret2
  exact ⟨rfl, hf⟩

end Go.Proofs.Qxb6616127a
