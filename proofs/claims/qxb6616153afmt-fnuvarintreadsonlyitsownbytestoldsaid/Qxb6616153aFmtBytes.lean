/-
  zzClone and zzSameBytes.
-/
import Derived.Test.Qxb6616153aFmtStop
import Derived.Test.Qxb6616153aFmtPlain
import Derived.Deep.QuietTactic
import Derived.BigQuiet
import Derived.OwnWalk
import Derived.Laws.CopyOwn
import Derived.Lib.SliceRun
import Derived.WalkSmall
namespace Go.Proofs.Qxb6616153aFmt
open Go.RowKit

/-- The slice value v holds the bytes zs. -/
def BytesAt (w : World) (v : Value) (zs : List UInt8) : Prop :=
  ∃ a cap, v = .slice a zs.length cap ∧ (a = none → cap = 0) ∧ ∀ t, t < zs.length → ∃ b o, a = some ⟨b, o, none⟩ ∧ w.cell? ⟨b, o + t, none⟩ = some (.int .u8 (zs.getD t 0).toNat)

theorem BytesAt.later {w w' : World} {v : Value} {zs : List UInt8} (h : BytesAt w v zs) (hb : Below w.heap.size w w') : BytesAt w' v zs := by
  obtain ⟨a, cap, hv, h0, hc⟩ := h
  refine ⟨a, cap, hv, h0, fun t ht => ?_⟩
  obtain ⟨b, o, ha, h1⟩ := hc t ht
  exact ⟨b, o, ha, (hb.cell (World.block_lt_of_cell? w _ h1)).trans h1⟩

theorem BytesAt.form {w : World} {a : Option Addr} {n cap : Nat} {zs : List UInt8} (h : BytesAt w (.slice a n cap) zs) :
    n = zs.length ∧ (a = none → cap = 0 ∧ n = 0) ∧ ∀ t, t < n → ∃ b o, a = some ⟨b, o, none⟩ ∧ w.cell? ⟨b, o + t, none⟩ = some (.int .u8 (zs.getD t 0).toNat) := by
  obtain ⟨a', c', hv, h0, hc⟩ := h
  obtain ⟨rfl, rfl, rfl⟩ : a = a' ∧ n = zs.length ∧ cap = c' := by simpa using hv
  refine ⟨rfl, fun ha => ⟨h0 ha, ?_⟩, hc⟩
  by_cases hp : 0 < zs.length
  · obtain ⟨_, _, e, _⟩ := hc 0 hp
    rw [ha] at e
    cases e
  · omega

/-- A store into another block. -/
theorem BytesAt.far {w : World} {a : Option Addr} {n c : Nat} {zs : List UInt8} (h : BytesAt w (.slice a n c) zs) (p : Addr) (u : Value) (hp : ∀ ad, a = some ad → ad.block ≠ p.block) : BytesAt (w.setCell p u) (.slice a n c) zs := by
  obtain ⟨rfl, h0, hc⟩ := h.form
  refine ⟨a, c, rfl, fun ha => (h0 ha).1, fun t ht => ?_⟩
  obtain ⟨b, o, ha, h1⟩ := hc t ht
  exact ⟨b, o, ha, (World.cell?_of_block (Below.heap_setCell w p u b (hp _ ha))).trans h1⟩

theorem below_after {w w0 w1 : World} (h0 : Below w.heap.size w w0) (h1 : Below w0.heap.size w0 w1) : Below w.heap.size w w1 := h0.trans (h1.mono h0.size)

theorem info_parts {P : Program} {t : TypeId} {z : Value} {n b : Nat} (h : (P.info? t).map (fun i => (i.zero, i.size, i.bytes)) = some (some z, n, b)) : ∃ i, P.info? t = some i ∧ i.zero = some z ∧ i.size = n ∧ i.bytes = b := by
  cases hi : P.info? t with
  | none => rw [hi] at h; simp at h
  | some i =>
    rw [hi] at h
    simp at h
    exact ⟨i, rfl, h.1, h.2.1, h.2.2⟩

theorem Tryf.info5 : (Tryf.prog.info? 5).map (fun i => (i.zero, i.size, i.bytes)) = some (some (.int .u8 0), 1, 1) := by kernel_rfl
theorem Tryf.size5 : (Tryf.prog.info? 5).map (·.size) = some 1 := by kernel_rfl

/-- 'make([]T, k, R)', T of one cell: a new row of R cells. -/
theorem wpList_make_row {P : Program} (w : World) {ops : Array Oper} {rest : List Oper} {o : Oper} {a : Act} {Q : Exit → Act → World → Prop}
    (hg : o.guard = none) (l c : Operand) (t : TypeId) (hop : o.op = Op.makeSlice t l c)
    (e : TypeId) (i : TypeInfo) (z : Value) (h1 : P.underlying t = some (.slice e)) (h2 : P.info? e = some i) (h3 : i.zero = some z) (h4 : i.size = 1)
    (kl kc : IntKind) (k R : Nat) (hl : a.eval l = .int kl (k : Int)) (hc : a.eval c = .int kc (R : Int)) (hkR : k ≤ R) (b2 : i.bytes * R ≤ 281474976710656) (b3 : R ≤ 1099511627776)
    (hK : ∀ w' (X : List Value), X.length = R → Hid (w'.heap[w.heap.size]? = some (.cells X.toArray e (0, 0))) → w.grownBy w' none → wpList P ops Q rest (a.put o.dst (.slice (some ⟨w.heap.size, 0, none⟩) k R)) w') :
    wpList P ops Q (o :: rest) a w := by
  refine wpList_plain hg fun K hK' => ?_
  have hrun := run_make (P := P) w t e i z h1 h2 h3 kl kc (k : Int) (R : Int) (by omega) (by omega) (by rw [show (i.bytes : Int) * (R : Int) = ((i.bytes * R : Nat) : Int) by simp]; omega) (by omega)
  unfold Oper.wp
  simp [execOp, hop, hl, hc, hrun, Result.andThen]
  refine hK' _ _ (hK _ (madeCells z.cells (R * 1)).toList (by simp [size_madeCells]) ?_ (World.grownBy_alloc _ _ _))
  show _ = _
  rw [h4]
  simpa using heap_alloc_new w _

/-- The walk stands before a 'copy'. -/
theorem at_copy {P : Program} {ops : Array Oper} {Q : Exit → Act → World → Prop} {rest : List Oper} {d : Option Tmp} {x : Array Operand} {y : Array TypeId} {t : TypeId} {p : String} {e : Array Edge} {g : Option (Nat × Bool)} {a : Act} {w : World}
    (h : wpList P ops Q ({ dst := d, op := Op.call { callee := Callee.builtin Builtin.copy, args := x, argTypes := y }, type := t, pos := p, after := e, guard := g } :: rest) a w) :
    wpList P ops Q ({ dst := d, op := Op.call { callee := Callee.builtin Builtin.copy, args := x, argTypes := y }, type := t, pos := p, after := e, guard := g } :: rest) a w := h

/-- The cells of a byte row. -/
def u8s (zs : List UInt8) : List Value := zs.map fun z => Value.int .u8 z.toNat

theorem u8s_length (zs : List UInt8) : (u8s zs).length = zs.length := List.length_map _

theorem u8s_oneCell (zs : List UInt8) : ∀ v ∈ u8s zs, v.oneCell' = true := by
  intro v hv
  obtain ⟨_, _, rfl⟩ := List.mem_map.1 hv
  rfl

theorem bytes_src {w w1 : World} {a : Option Addr} {n c : Nat} {zs : List UInt8} (h : BytesAt w (.slice a n c) zs) (hg : w.grownBy w1 none) (h0 : 0 < (u8s zs).length) :
    ∃ ad, a = some ad ∧ ∀ j v, (u8s zs)[j]? = some v → w1.cell? (ad.add j) = some v := by
  obtain ⟨rfl, _, hc⟩ := h.form
  obtain ⟨b, o, ha, _⟩ := hc 0 (by rw [u8s_length] at h0; exact h0)
  refine ⟨⟨b, o, none⟩, ha, fun j v hv => ?_⟩
  have hj : j < zs.length := by have := (List.getElem?_eq_some_iff.1 hv).1; rw [u8s_length] at this; exact this
  obtain ⟨b', o', ha', hcell⟩ := hc j hj
  rw [ha] at ha'
  obtain ⟨rfl, rfl⟩ : b = b' ∧ o = o' := by simpa using ha'
  rw [Addr.add_lit]
  refine hg.cell ?_ (by simp)
  rw [hcell, ← hv]
  simp [u8s, List.getD, hj]

theorem bytes_copied {w' : World} {G n : Nat} {X : List Value} {zs : List UInt8} (hl : zs.length = n) (hX : X.length = n) (h : w'.heap[G]? = some (.cells (splice X 0 (u8s zs)).toArray 5 (0, 0))) :
    BytesAt w' (.slice (some ⟨G, 0, none⟩) n n) zs := by
  have e : splice X 0 (u8s zs) = u8s zs := by
    have : X.drop (u8s zs).length = [] := List.drop_eq_nil_of_le (by rw [u8s_length]; omega)
    simp [splice, this]
  rw [e] at h
  refine ⟨some ⟨G, 0, none⟩, n, by rw [hl], (fun h => by cases h), fun t ht => ⟨G, 0, rfl, ?_⟩⟩
  simp [World.cell?, h, List.getD, ht, u8s]

def CloneEnd (a : Option Addr) (zs : List UInt8) (e : Ending) (w w' : World) : Prop :=
  ∃ a', e = .returned (.slice a' zs.length zs.length) ∧ (a' = none ∨ ∃ b, a' = some ⟨b, 0, none⟩ ∧ w.heap.size ≤ b ∧ b < w'.heap.size) ∧ a'.isNone = a.isNone ∧ Below w.heap.size w w' ∧ BytesAt w' (.slice a' zs.length zs.length) zs

set_option maxHeartbeats 800000 in
set_option maxRecDepth 100000 in
theorem clone_some (ad : Addr) (n cap : Nat) (zs : List UInt8) (w : World) (hn : n ≤ 1048576) (h : BytesAt w (.slice (some ad) n cap) zs) :
    Calls Tryf.prog 6 #[.slice (some ad) n cap] w fun e w' => CloneEnd (some ad) zs e w w' := by
  have hq := fun w => Lib.run_eql_slice_nil (P := Tryf.prog) w 22 5 (some ad) n cap 0 0 Tryf.underlying22
  have HI : Hid (BytesAt w (.slice (some ad) n cap) zs) := h
  have LS : Hid (zs.length = n) := h.form.1.symm
  clear h
  obtain ⟨inf, hi, hz0, hz1, hz2⟩ := info_parts Tryf.info5
  go_enter Tryf.func6, Tryf.ntmps6
  go_wp2_with (first | (at_make; refine wpList_make_row _ rfl (.tmp 7) (.tmp 7) 22 rfl 5 inf _ Tryf.underlying22 hi hz0 hz1 _ _ n n rfl rfl (Nat.le_refl _) (by rw [hz2]; omega) (by omega) ?_; intro w1 X hX HG hgrow1) | ((with_reducible refine at_copy ?_); refine wpList_copy_splice rfl (.tmp 9) (.tmp 10) 22 22 rfl 5 Tryf.underlying22 Tryf.size5 _ _ _ _ _ _ rfl rfl w.heap.size 0 X 5 HG.out (u8s zs) (by rw [u8s_length, LS.out]; exact (Nat.min_self n).symm) (fun h0 => ⟨rfl, bytes_src HI.out hgrow1 h0⟩) (by rw [u8s_length, LS.out]; omega) (u8s_oneCell _) w.heap.size w ((Below.refl _ _).grown hgrow1 (Nat.le_refl _) (fun k h => by cases h)) (Nat.le_refl _) ?_; intro w2 HG2 hB2; have HI2 : Hid (BytesAt w2 (.slice (some ⟨w.heap.size, 0, none⟩) n n) zs) := bytes_copied LS.out hX HG2.out))
  go_ret
  refine ⟨some ⟨w.heap.size, 0, none⟩, ?_, .inr ⟨_, rfl, Nat.le_refl _, (Array.getElem?_eq_some_iff.1 HG2.out).1⟩, rfl, hB2, ?_⟩
  · rw [LS.out]; rfl
  · rw [LS.out]; exact HI2.out

theorem clone_none (w : World) : Calls Tryf.prog 6 #[.slice none 0 0] w fun e w' => CloneEnd none [] e w w' := by
  have hq := fun w => Lib.run_eql_slice_nil (P := Tryf.prog) w 22 5 none 0 0 0 0 Tryf.underlying22
  go_enter Tryf.func6, Tryf.ntmps6
  go_wp2
  go_ret
  exact ⟨none, rfl, .inl rfl, rfl, Below.refl _ _, none, 0, rfl, fun _ => rfl, fun t ht => absurd ht (by simp)⟩

theorem clone_any (a : Option Addr) (n cap : Nat) (zs : List UInt8) (w : World) (hn : n ≤ 1048576) (h : BytesAt w (.slice a n cap) zs) :
    Calls Tryf.prog 6 #[.slice a n cap] w fun e w' => CloneEnd a zs e w w' := by
  cases a with
  | none =>
    obtain ⟨hl, h0, _⟩ := h.form
    obtain ⟨rfl, rfl⟩ := h0 rfl
    obtain rfl : zs = [] := List.eq_nil_of_length_eq_zero hl.symm
    exact clone_none w
  | some ad => exact clone_some ad n cap zs w hn h

set_option maxHeartbeats 400000 in
theorem same_some (ba oa ca bb ob cb n : Nat) (A : List UInt8) (w : World) (hn : n ≤ 1048576)
    (hca : ∀ t, t < n → w.cell? ⟨ba, oa + t, none⟩ = some (.int .u8 (A.getD t 0).toNat)) (hcb : ∀ t, t < n → w.cell? ⟨bb, ob + t, none⟩ = some (.int .u8 (A.getD t 0).toNat)) :
    Calls Tryf.prog 12 #[.slice (some ⟨ba, oa, none⟩) n ca, .slice (some ⟨bb, ob, none⟩) n cb] w fun e w' => e = .returned (.bool true) ∧ ∃ q, w' = w.drewN q := by
  go_enter Tryf.func12, Tryf.ntmps12
  go_wp2
  go_loopw [5] (fun i wr => ∃ k : Nat, k ≤ n ∧ i = .int .i64 k ∧ ∃ q, wr = w.drewN q) (fun i _ => n - (intOf i).toNat)
  case atStart => exact ⟨0, Nat.zero_le _, rfl, 0, rfl⟩
  case round =>
    obtain ⟨k, hk, rfl, q, rfl⟩ := hrel
    by_cases hlt : k < n
    · have ga := hca k hlt
      have gb := hcb k hlt
      have i1 : (0 : Int) ≤ (k : Int) := by omega
      have i2 : (k : Int) < (n : Int) := by omega
      clear hca hcb
      generalize ((A.getD k 0).toNat : Int) = z at ga gb
      go_wp2
      go_quiet (fail)
      go_wp2
      go_roundw
      case rel => exact ⟨k + 1, by omega, by go_num, _, rfl⟩
      case measure => simp [intOf]; omega
    · go_wp2
      go_ret
      exact ⟨rfl, _, rfl⟩

set_option maxHeartbeats 400000 in
theorem same_none (a b : Option Addr) (ca cb : Nat) (w : World) :
    Calls Tryf.prog 12 #[.slice a 0 ca, .slice b 0 cb] w fun e w' => e = .returned (.bool true) ∧ ∃ q, w' = w.drewN q := by
  go_enter Tryf.func12, Tryf.ntmps12
  go_wp2
  refine wp_loop_rounds 1 ?_
  rw [rounds_succ]
  go_wp2
  go_ret
  exact ⟨rfl, 0, rfl⟩

theorem same_any (a b : Option Addr) (n ca cb : Nat) (zs : List UInt8) (w : World) (hn : n ≤ 1048576) (hx : BytesAt w (.slice a n ca) zs) (hy : BytesAt w (.slice b n cb) zs) :
    Calls Tryf.prog 12 #[.slice a n ca, .slice b n cb] w fun e w' => e = .returned (.bool true) ∧ ∃ q, w' = w.drewN q := by
  obtain ⟨hl, _, hc⟩ := hx.form
  obtain ⟨_, _, hd⟩ := hy.form
  by_cases h0 : n = 0
  · subst h0
    exact same_none a b ca cb w
  · obtain ⟨b1, o1, rfl, _⟩ := hc 0 (by omega)
    obtain ⟨b2, o2, rfl, _⟩ := hd 0 (by omega)
    refine same_some b1 o1 ca b2 o2 cb n zs w hn (fun t ht => ?_) (fun t ht => ?_)
    · obtain ⟨b, o, e, h⟩ := hc t ht
      cases e
      exact h
    · obtain ⟨b, o, e, h⟩ := hd t ht
      cases e
      exact h

end Go.Proofs.Qxb6616153aFmt
