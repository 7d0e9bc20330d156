/-
  (*big.Int).Int64, (*big.Int).Set, Decimal.Coefficient, Decimal.Exponent, plan.ZZDecimalParts.
-/
import Derived.Test.Qxb6616127aBig
import Derived.Laws.CopyOwn
namespace Go.Proofs.Qxb6616127a
open Go.RowKit

theorem ret_int2 {k : IntKind} {a b : Int} (h : a = b) : Ending.returned (.int k a) = .returned (.int k b) := by rw [h]

theorem wrap_back_neg (c : Int) (h0 : c < 0) (h1 : -9223372036854775808 ≤ c) : wrap64 (-wrap64 (mag c)) = c := by
  rw [mag, if_pos h0]
  unfold wrap64
  omega

set_option maxHeartbeats 400000 in
theorem low64_none (w : World) : Calls Try.prog 35 #[.slice none 0 0] w fun e w' => e = .returned (.int .u64 0) ∧ w = w' := by
  go_enter Try.func35, Try.ntmps35
  go_wp2
  go_ret
  exact ⟨rfl, rfl⟩

set_option maxHeartbeats 400000 in
theorem low64_one (g : Nat) (v : Int) (w : World) (h : w.cell? ⟨g, 0, none⟩ = some (.int .u64 v)) : Calls Try.prog 35 #[.slice (some ⟨g, 0, none⟩) 1 1] w fun e w' => e = .returned (.int .u64 v) ∧ w = w' := by
  go_enter Try.func35, Try.ntmps35
  go_wp2
  go_ret
  exact ⟨rfl, rfl⟩

set_option maxHeartbeats 400000 in
theorem int64_any (c : Int) (B b : Nat) (w : World) (h : -9223372036854775808 ≤ c ∧ c ≤ 9223372036854775807) (hB : BigAt w B b c) :
    Calls Try.prog 24 #[.pointer (some ⟨b, 0, none⟩)] w fun e w' => e = .returned (.int .i64 c) ∧ w = w' := by
  obtain ⟨v, _, h0, h2, h1⟩ := hB.cells
  clear hB
  rcases h1 with ⟨rfl, rfl⟩ | ⟨hc, g, rfl, h3⟩
  · go_enter Try.func24, Try.ntmps24
    go_wp2_with (go_at_call 35; refine (low64_none _).mono ?_; rintro e w' ⟨rfl, rfl⟩)
    go_ret
    exact ⟨rfl, rfl⟩
  · by_cases hn : c < 0
    · have hd : decide (c < 0) = true := by simpa using hn
      rw [hd] at h0
      have HW : Hid _ := wrap_back_neg c hn h.1
      clear hd
      go_enter Try.func24, Try.ntmps24
      go_wp2_with (go_at_call 35; refine (low64_one g _ _ h3).mono ?_; rintro e w' ⟨rfl, rfl⟩)
      go_ret
      exact ⟨ret_int2 HW.out, rfl⟩
    · have hd : decide (c < 0) = false := by simpa using hn
      rw [hd] at h0
      have hm : mag c = c := if_neg hn
      rw [hm] at h3
      clear hd hm
      go_enter Try.func24, Try.ntmps24
      go_wp2_with (go_at_call 35; refine (low64_one g _ _ h3).mono ?_; rintro e w' ⟨rfl, rfl⟩)
      go_ret
      exact ⟨rfl, rfl⟩

theorem make_one (w : World) : (Instr.makeSlice 70 (.int .i64 1) (.int .i64 1)).run Try.prog w = .ok (.slice (some ⟨w.heap.size, 0, none⟩) 1 1) (w.alloc (.cells #[.int .u64 0] 77)) := by kernel_rfl

set_option maxHeartbeats 400000 in
theorem natmake_none (w : World) : Calls Try.prog 37 #[.slice none 0 0, .int .i64 0] w fun e w' => e = .returned (.slice none 0 0) ∧ w = w' := by
  go_enter Try.func37, Try.ntmps37
  go_wp2
  go_ret
  exact ⟨rfl, rfl⟩

set_option maxHeartbeats 400000 in
theorem natmake_one (w : World) : Calls Try.prog 37 #[.slice none 0 0, .int .i64 1] w fun e w' => e = .returned (.slice (some ⟨w.heap.size, 0, none⟩) 1 1) ∧ w.alloc (.cells #[.int .u64 0] 77) = w' := by
  have hmk := make_one
  go_enter Try.func37, Try.ntmps37
  go_wp2
  go_ret
  exact ⟨rfl, rfl⟩

theorem Try.size77 : (Try.prog.info? 77).map (·.size) = some 1 := by kernel_rfl

/-- The walk stands before a 'copy'. -/
theorem at_copy2 {P : Program} {ops : Array Oper} {Q : Exit → Act → World → Prop} {rest : List Oper} {d : Option Tmp} {x : Array Operand} {y : Array TypeId} {t : TypeId} {p : String} {e : Array Edge} {g : Option (Nat × Bool)} {a : Act} {w : World}
    (h : wpList P ops Q ({ dst := d, op := Op.call { callee := Callee.builtin Builtin.copy, args := x, argTypes := y }, type := t, pos := p, after := e, guard := g } :: rest) a w) :
    wpList P ops Q ({ dst := d, op := Op.call { callee := Callee.builtin Builtin.copy, args := x, argTypes := y }, type := t, pos := p, after := e, guard := g } :: rest) a w := h

set_option maxHeartbeats 400000 in
theorem natset_none (w : World) : Calls Try.prog 36 #[.slice none 0 0, .slice none 0 0] w fun e w' => e = .returned (.slice none 0 0) ∧ w = w' := by
  go_enter Try.func36, Try.ntmps36
  go_wp2_with (first | (go_at_call 37; refine (natmake_none _).mono ?_; rintro e w' ⟨rfl, rfl⟩) | ((with_reducible refine at_copy2 ?_); refine wpList_copy_nothing rfl (.tmp 9) (.tmp 10) 70 70 rfl 77 Try.underlying70 Try.size77 _ _ _ _ _ _ rfl rfl rfl ?_))
  go_ret
  exact ⟨rfl, rfl⟩

set_option maxHeartbeats 400000 in
theorem natset_one (g : Nat) (v : Int) (w : World) (h : w.cell? ⟨g, 0, none⟩ = some (.int .u64 v)) :
    Calls Try.prog 36 #[.slice none 0 0, .slice (some ⟨g, 0, none⟩) 1 1] w fun e w' => e = .returned (.slice (some ⟨w.heap.size, 0, none⟩) 1 1) ∧ Below w.heap.size w w' ∧ w'.heap[w.heap.size]? = some (.cells #[.int .u64 v] 77 (0, 0)) := by
  have hlt : g < w.heap.size := World.block_lt_of_cell? w _ h
  go_enter Try.func36, Try.ntmps36
  go_wp2_with (first | (go_at_call 37; refine (natmake_one _).mono ?_; rintro e w' ⟨rfl, rfl⟩) | ((with_reducible refine at_copy2 ?_); refine wpList_copy_splice rfl (.tmp 9) (.tmp 10) 70 70 rfl 77 Try.underlying70 Try.size77 _ _ _ _ _ _ rfl rfl w.heap.size 0 [.int .u64 0] 77 (heap_alloc_new w _) [.int .u64 v] rfl (fun _ => ⟨rfl, _, rfl, fun j u hj => by match j, hj with | 0, hj => simp at hj; subst hj; rw [Addr.add_lit]; exact ((Below.refl w.heap.size w).alloc (Nat.le_refl _) _).cell hlt |>.trans h⟩) (by simp) (by simp [Value.oneCell']) w.heap.size w ((Below.refl _ _).alloc (Nat.le_refl _) _) (Nat.le_refl _) ?_; intro w2 HG2 hB2))
  go_ret
  refine ⟨rfl, hB2, ?_⟩
  exact HG2.out

end Go.Proofs.Qxb6616127a
