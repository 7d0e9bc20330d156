/-
  grow: the same words, in a row of the call's own.
-/
import Derived.Test.Qxb6616016aSmall
import Derived.Laws.CopyOwn
namespace Go.Proofs.Qxb6616016a
open Go.RowKit

theorem Try.info22 : (Try.prog.info? 22).map (fun i => (i.zero, i.size, i.bytes)) = some (some (.slice none 0 0), 1, 24) := by kernel_rfl
theorem Try.size22 : (Try.prog.info? 22).map (·.size) = some 1 := by kernel_rfl

/-- 'make([]T, k, R)', T of one cell: a new row of R cells. -/
theorem wpList_make_row {P : Program} (w : World) {ops : Array Oper} {rest : List Oper} {o : Oper} {a : Act} {Q : Exit → Act → World → Prop}
    (hg : o.guard = none) (l c : Operand) (t : TypeId) (hop : o.op = Op.makeSlice t l c)
    (e : TypeId) (i : TypeInfo) (z : Value) (h1 : P.underlying t = some (.slice e)) (h2 : P.info? e = some i) (h3 : i.zero = some z) (h4 : i.size = 1)
    (kl kc : IntKind) (k R : Nat) (hl : a.eval l = .int kl (k : Int)) (hc : a.eval c = .int kc (R : Int)) (hkR : k ≤ R) (b2 : i.bytes * R ≤ 281474976710656) (b3 : R ≤ 1099511627776)
    (hK : ∀ w' (X : List Value), X.length = R → Hid (w'.heap[w.heap.size]? = some (.cells X.toArray e (0, 0))) → w.grownBy w' none → wpList P ops Q rest (a.put o.dst (.slice (some ⟨w.heap.size, 0, none⟩) k R)) w') :
    wpList P ops Q (o :: rest) a w := by
  refine wpList_plain hg fun K hK' => ?_
  have hrun := run_make (P := P) w t e i z h1 h2 h3 kl kc (k : Int) (R : Int) (by omega) (by omega) (by rw [show (i.bytes : Int) * (R : Int) = ((i.bytes * R : Nat) : Int) by simp]; omega) (by omega)
  unfold Oper.wp
  simp [execOp, hop, hl, hc, hrun, Result.andThen]
  refine hK' _ _ (hK _ (madeCells z.cells (R * 1)).toList (by simp [size_madeCells]) ?_ (World.grownBy_alloc _ _ _))
  show _ = _
  rw [h4]
  simpa using heap_alloc_new w _

/-- The walk stands before a 'copy'. -/
theorem at_copy {P : Program} {ops : Array Oper} {Q : Exit → Act → World → Prop} {rest : List Oper} {d : Option Tmp} {x : Array Operand} {y : Array TypeId} {t : TypeId} {p : String} {e : Array Edge} {g : Option (Nat × Bool)} {a : Act} {w : World}
    (h : wpList P ops Q ({ dst := d, op := Op.call { callee := Callee.builtin Builtin.copy, args := x, argTypes := y }, type := t, pos := p, after := e, guard := g } :: rest) a w) :
    wpList P ops Q ({ dst := d, op := Op.call { callee := Callee.builtin Builtin.copy, args := x, argTypes := y }, type := t, pos := p, after := e, guard := g } :: rest) a w := h

/-- Room: it is returned as it is. -/
theorem grow_room (g k cap : Nat) (T : Int) (w : World) (hlt : k < cap) :
    Calls Try.prog 17 #[.slice (some ⟨g, 0, none⟩) k cap, .int .i64 T, .int .i64 8] w fun e w' => e = .returned (.slice (some ⟨g, 0, none⟩) k cap) ∧ w = w' := by
  go_enter Try.func17, Try.ntmps17
  go_wp2
  go_ret
  exact ⟨rfl, rfl⟩

/-- The words' row behind the copy. -/
theorem own_copied {w' : World} {B G k R : Nat} {X xs : List Value} (hG : B ≤ G) (hX : X.length = R) (hxs : xs.length = k) (hkR : k ≤ R) (hR : R ≤ maxLen) (h : w'.heap[G]? = some (.cells (splice X 0 xs).toArray 22 (0, 0))) :
    w'.ownsRow B 22 1 (.slice (some ⟨G, 0, none⟩) k R) k xs := by
  refine ⟨by omega, .inr ⟨G, R, _, rfl, hG, h, hkR, hR, ?_, ?_⟩⟩
  · rw [List.size_toArray, length_splice _ _ _ (by omega)]; omega
  · subst hxs; simp [splice]

set_option maxHeartbeats 800000 in
set_option maxRecDepth 100000 in
/-- Full: a new row, the words copied. -/
theorem grow_full (B k : Nat) (a : Option Addr) (xs : List Value) (T : Nat) (w : World) (hk : k ≤ T) (hT : T ≤ 1048576) (hb : B ≤ w.heap.size)
    (hlen : xs.length = k) (hone : ∀ v ∈ xs, v.oneCell' = true) (hsrc : 0 < k → ∃ ad, a = some ad ∧ ∀ j v, xs[j]? = some v → w.cell? (ad.add j) = some v) :
    Calls Try.prog 17 #[.slice a k k, .int .i64 T, .int .i64 8] w fun e w' => ∃ cap, e = .returned (.slice (some ⟨w.heap.size, 0, none⟩) k cap) ∧ k ≤ cap ∧ Below w.heap.size w w' ∧ w'.ownsRow B 22 1 (.slice (some ⟨w.heap.size, 0, none⟩) k cap) k xs := by
  obtain ⟨inf, hi, hz0, hz1, hz2⟩ := info_parts Try.info22
  go_enter Try.func17, Try.ntmps17
  go_wp2
  go_loop [7] (fun r => ∃ R : Nat, k ≤ R ∧ R ≤ T ∧ r = .int .i64 R) (fun r => (intOf r).toNat)
  case atStart => exact ⟨T, hk, Nat.le_refl _, rfl⟩
  case round =>
    obtain ⟨R, hR1, hR2, rfl⟩ := hrel
    by_cases h82 : 8 < R ∧ k < (R + 1) / 2
    · obtain ⟨h8, h2⟩ := h82
      have h2' : (k : Int) < ((R : Int) + 1) / 2 := by omega
      go_wp2
      go_round
      case rel => exact ⟨(R + 1) / 2, by omega, by omega, by go_num⟩
      case measure => simp [intOf]; omega
    · have hway : (8 < R ∧ ¬ (k : Int) < ((R : Int) + 1) / 2) ∨ ¬ 8 < R := by omega
      clear h82
      rcases hway with ⟨h8, h2'⟩ | h8
      all_goals
        go_wp2_with (first | (at_make; refine wpList_make_row _ rfl (.tmp 31) (.tmp 32) 25 rfl 22 inf _ Try.underlying25 hi hz0 hz1 _ _ k R rfl rfl hR1 (by rw [hz2]; omega) (by omega) ?_; intro w1 X hX HG hgrow1) | (with_reducible refine at_copy ?_; refine wpList_copy_splice rfl (.tmp 34) (.tmp 35) 25 25 rfl 22 Try.underlying25 Try.size22 _ _ _ _ _ _ rfl rfl w.heap.size 0 X 22 HG.out xs (by rw [hlen]; exact (Nat.min_self k).symm) (fun h0 => by obtain ⟨ad, had, hj⟩ := hsrc (by omega); exact ⟨rfl, ad, had, fun j v hv => hgrow1.cell (hj j v hv) (by simp)⟩) (by omega) hone w.heap.size w ((Below.refl _ _).grown hgrow1 (Nat.le_refl _) (fun k h => by cases h)) (Nat.le_refl _) ?_; intro w2 HG2 hB2))
        go_ret
        exact ⟨R, rfl, hR1, hB2, own_copied hb hX hlen hR1 (by unfold maxLen; omega) HG2.out⟩

end Go.Proofs.Qxb6616016a
