/-
  big.NewInt, decimal.New, plan.ZZNewDecimal: what they lay in memory.
-/
import Derived.Test.Qxb6616127aRows
import Derived.WalkKit
import Derived.WalkSpells
import Derived.WalkLawsBesides
import Derived.Handy
import Derived.Deep.RegionHeld3
import Derived.Deep.DrawnRows
namespace Go.Proofs.Qxb6616127a
open Go.RowKit

/-- The size of a number, as a word of the big integer. -/
def mag (c : Int) : Int := if c < 0 then -c else c

/-- Block b is a big integer that holds the number c: its sign, and no word or one; all of it lies from block B on. -/
def BigAt (w : World) (B b : Nat) (c : Int) : Prop :=
  B ≤ b ∧ ∃ v, w.heap[b]? = some (.cells #[.bool (decide (c < 0)), v] 72 (0, 0)) ∧
  ((c = 0 ∧ v = .slice none 0 0) ∨ (c ≠ 0 ∧ ∃ g t, B ≤ g ∧ v = .slice (some ⟨g, 0, none⟩) 1 1 ∧ w.heap[g]? = some (.cells #[.int .u64 (mag c)] t (0, 0))))

theorem BigAt.turn {w w' : World} {B b : Nat} {c : Int} (h : BigAt w B b c) (hw : ∀ k v, B ≤ k → w.heap[k]? = some v → w'.heap[k]? = some v) : BigAt w' B b c := by
  obtain ⟨hB, v, h0, h1⟩ := h
  refine ⟨hB, v, hw _ _ hB h0, ?_⟩
  rcases h1 with h1 | ⟨hc, g, t, hg, h2, h3⟩
  · exact .inl h1
  · exact .inr ⟨hc, g, t, hg, h2, hw _ _ hg h3⟩

theorem block_lt {w : World} {k : Nat} {v : Obj} (h : w.heap[k]? = some v) : k < w.heap.size := (Array.getElem?_eq_some_iff.1 h).1

theorem BigAt.later {w w' : World} {B b : Nat} {c : Int} (h : BigAt w B b c) (hb : Below w.heap.size w w') : BigAt w' B b c :=
  h.turn fun _ _ _ hc => (hb.block _ (block_lt hc)).trans hc

theorem BigAt.set {w : World} {B b r o : Nat} {c : Int} (h : BigAt w B b c) (hr : r < B) (v : Value) : BigAt (w.setCell ⟨r, o, none⟩ v) B b c :=
  h.turn fun k u hk hc => by rw [Below.heap_setCell w ⟨r, o, none⟩ v k (by show k ≠ r; omega)]; exact hc

theorem BigAt.mono {w : World} {B B' b : Nat} {c : Int} (h : BigAt w B b c) (hB : B' ≤ B) : BigAt w B' b c := by
  obtain ⟨h1, v, h2, h3⟩ := h
  refine ⟨by omega, v, h2, ?_⟩
  rcases h3 with h3 | ⟨hc, g, t, hg, h4⟩
  · exact .inl h3
  · exact .inr ⟨hc, g, t, by omega, h4⟩

theorem BigAt.cells {w : World} {B b : Nat} {c : Int} (h : BigAt w B b c) : ∃ v, w.heap[b]? = some (.cells #[.bool (decide (c < 0)), v] 72 (0, 0)) ∧ w.cell? ⟨b, 0, none⟩ = some (.bool (decide (c < 0))) ∧ w.cell? ⟨b, 1, none⟩ = some v ∧
    ((c = 0 ∧ v = .slice none 0 0) ∨ (c ≠ 0 ∧ ∃ g, v = .slice (some ⟨g, 0, none⟩) 1 1 ∧ w.cell? ⟨g, 0, none⟩ = some (.int .u64 (mag c)))) := by
  obtain ⟨_, v, h0, h1⟩ := h
  refine ⟨v, h0, by simp [World.cell?, h0], by simp [World.cell?, h0], ?_⟩
  rcases h1 with h1 | ⟨hc, g, t, _, h2, h3⟩
  · exact .inl h1
  · exact .inr ⟨hc, g, h2, by simp [World.cell?, h3]⟩

theorem wrap_neg_neg (c : Int) (h0 : c < 0) (h1 : -9223372036854775808 ≤ c) : IntKind.u64.wrap (-IntKind.u64.wrap c) = mag c := by
  rw [IntKind.wrap_u64, IntKind.wrap_u64, mag, if_pos h0]
  omega

def BigEnd (c : Int) (e : Ending) (w w' : World) : Prop := ∃ b, e = .returned (.pointer (some ⟨b, 0, none⟩)) ∧ Below w.heap.size w w' ∧ BigAt w' w.heap.size b c

theorem heap_two {w : World} {x y : Obj} : ((w.alloc x).alloc y).heap[w.heap.size]? = some x ∧ ((w.alloc x).alloc y).heap[w.heap.size + 1]? = some y := by
  have h1 := heap_alloc_new (w.alloc x) y
  have h2 := Below.heap_alloc (w.alloc x) y w.heap.size (by simp)
  refine ⟨h2.trans (heap_alloc_new w x), ?_⟩
  have e : (w.alloc x).heap.size = w.heap.size + 1 := by simp
  rw [e] at h1
  exact h1

theorem newInt_any (c : Int) (w : World) (h : -9223372036854775808 ≤ c ∧ c ≤ 9223372036854775807) :
    Calls Try.prog 26 #[.int .i64 c] w fun e w' => BigEnd c e w w' := by
  by_cases hz : c = 0
  · subst hz
    go_enter Try.func26, Try.ntmps26
    go_wp2
    go_ret
    exact ⟨w.heap.size, rfl, (Below.refl _ _).alloc (Nat.le_refl _) _, Nat.le_refl _, _, heap_alloc_new w _, .inl ⟨rfl, rfl⟩⟩
  · have hne : (c == 0) = false := by simpa using hz
    by_cases hn : c < 0
    · have HW : Hid _ := wrap_neg_neg c hn h.1
      have hd : Hid (decide (c < 0) = true) := decide_eq_true hn
      go_enter Try.func26, Try.ntmps26
      go_wp2
      go_ret
      refine ⟨w.heap.size + 1, rfl, ((Below.refl _ _).alloc (Nat.le_refl _) _).alloc (by simp) _, by omega, _, by rw [hd.out]; exact heap_two.2, .inr ⟨hz, w.heap.size, 77, Nat.le_refl _, rfl, ?_⟩⟩
      rw [← HW.out]; exact heap_two.1
    · have HM : Hid (mag c = c) := if_neg hn
      have hd : Hid (decide (c < 0) = false) := decide_eq_false hn
      go_enter Try.func26, Try.ntmps26
      go_wp2
      go_ret
      refine ⟨w.heap.size + 1, rfl, ((Below.refl _ _).alloc (Nat.le_refl _) _).alloc (by simp) _, by omega, _, by rw [hd.out]; exact heap_two.2, .inr ⟨hz, w.heap.size, 77, Nat.le_refl _, rfl, ?_⟩⟩
      rw [HM.out]; exact heap_two.1

def DecEnd (c x : Int) (e : Ending) (w w' : World) : Prop := ∃ b, e = .returned (.agg #[.pointer (some ⟨b, 0, none⟩), .int .i32 x]) ∧ Below w.heap.size w w' ∧ BigAt w' (w.heap.size + 1) b c

/-- What is known of a two-cell block of the call's own behind a callee. -/
theorem own_two {w w1 : World} {x y : Value} {t : TypeId} (hb : Below (w.alloc (.cells #[x, y] t)).heap.size (w.alloc (.cells #[x, y] t)) w1) :
    w1.cell? ⟨w.heap.size, 0, none⟩ = some x ∧ w1.cell? ⟨w.heap.size, 1, none⟩ = some y ∧ w1.frozen? ⟨w.heap.size, 0, none⟩ = false ∧ w1.frozen? ⟨w.heap.size, 1, none⟩ = false ∧ w.heap.size < w1.heap.size ∧ Below w.heap.size w w1 := by
  have hlt : w.heap.size < (w.alloc (.cells #[x, y] t)).heap.size := by simp
  refine ⟨(hb.cell hlt).trans (by simp), (hb.cell hlt).trans (by simp), (hb.frozen hlt).trans (by simp), (hb.frozen hlt).trans (by simp), Nat.lt_of_lt_of_le hlt hb.size, ((Below.refl _ _).alloc (Nat.le_refl _) _).trans (hb.mono (Nat.le_of_lt hlt))⟩

set_option maxHeartbeats 400000 in
theorem decNew_any (c x : Int) (w : World) (h : -9223372036854775808 ≤ c ∧ c ≤ 9223372036854775807) :
    Calls Try.prog 22 #[.int .i64 c, .int .i32 x] w fun e w' => DecEnd c x e w w' := by
  go_enter Try.func22, Try.ntmps22
  go_wp2_with fail
  refine (newInt_any c _ h).mono ?_
  rintro e w1 ⟨b, rfl, hb1, hB⟩
  obtain ⟨q0, q1, q2, q3, q4, q5⟩ := own_two hb1
  have hB' : BigAt w1 (w.heap.size + 1) b c := by simpa using hB
  have HB : Hid (BigAt w1 (w.heap.size + 1) b c) := hB'
  clear hb1 hB hB' h
  go_wp2_with fail
  refine bodyPost_ret (v := .agg #[.pointer (some ⟨b, 0, none⟩), .int .i32 x]) (by simp [results, Try.results22, go_sem, q0, q1]) rfl ⟨b, rfl, ?_, ?_⟩
  · exact (q5.setCell (Nat.le_refl _) _).setCell (Nat.le_refl _) _
  · exact (HB.out.set (by omega) _).set (by omega) _

set_option maxHeartbeats 400000 in
theorem zdec_any (c x : Int) (w : World) (h : -9223372036854775808 ≤ c ∧ c ≤ 9223372036854775807) :
    Calls Try.prog 18 #[.int .i64 c, .int .i32 x] w fun e w' => DecEnd c x e w w' := by
  go_enter Try.func18, Try.ntmps18
  go_wp2_with fail
  refine (decNew_any c x _ h).mono ?_
  rintro e w1 ⟨b, rfl, hb1, hB⟩
  obtain ⟨q0, q1, q2, q3, q4, q5⟩ := own_two hb1
  have hB' : BigAt w1 (w.heap.size + 1) b c := hB.mono (by simp)
  have HB : Hid (BigAt w1 (w.heap.size + 1) b c) := hB'
  clear hb1 hB hB' h
  go_wp2_with fail
  refine bodyPost_ret (v := .agg #[.pointer (some ⟨b, 0, none⟩), .int .i32 x]) (by simp [results, Try.results18, go_sem, q0, q1]) rfl ⟨b, rfl, ?_, ?_⟩
  · exact (q5.setCell (Nat.le_refl _) _).setCell (Nat.le_refl _) _
  · exact (HB.out.set (by omega) _).set (by omega) _

end Go.Proofs.Qxb6616127a
