/-
  personalTestOf.
-/
import Derived.Test.Qxb6616127aPay
namespace Go.Proofs.Qxb6616127a
open Go.RowKit

/-- The slice value v holds the rows: each a text, a coefficient and an exponent. -/
def RowsAt (w : World) (v : Value) (rs : List (ByteArray × Int × Int)) : Prop :=
  ∃ a cap, v = .slice a rs.length cap ∧ (a = none → cap = 0) ∧ ∀ t, t < rs.length → ∃ b o, a = some ⟨b, o, none⟩ ∧
    w.cell? ⟨b, o + t * 3, none⟩ = some (.string (rs.getD t (ByteArray.empty, 0, 0)).1) ∧
    w.cell? ⟨b, o + t * 3 + 1, none⟩ = some (.int .i64 (rs.getD t (ByteArray.empty, 0, 0)).2.1) ∧ w.cell? ⟨b, o + t * 3 + 2, none⟩ = some (.int .i32 (rs.getD t (ByteArray.empty, 0, 0)).2.2)

theorem RowsAt.later {w w' : World} {v : Value} {rs : List (ByteArray × Int × Int)} (h : RowsAt w v rs) (hb : Below w.heap.size w w') : RowsAt w' v rs := by
  obtain ⟨a, cap, hv, h0, hc⟩ := h
  refine ⟨a, cap, hv, h0, fun t ht => ?_⟩
  obtain ⟨b, o, ha, h1, h2, h3⟩ := hc t ht
  exact ⟨b, o, ha, (hb.cell (World.block_lt_of_cell? w _ h1)).trans h1, (hb.cell (World.block_lt_of_cell? w _ h2)).trans h2, (hb.cell (World.block_lt_of_cell? w _ h3)).trans h3⟩

theorem RowsAt.form {w : World} {a : Option Addr} {n cap : Nat} {rs : List (ByteArray × Int × Int)} (h : RowsAt w (.slice a n cap) rs) : n = rs.length ∧ (a = none → cap = 0) ∧ ∀ t, t < n → ∃ b o, a = some ⟨b, o, none⟩ ∧
    w.cell? ⟨b, o + t * 3, none⟩ = some (.string (rs.getD t (ByteArray.empty, 0, 0)).1) ∧
    w.cell? ⟨b, o + t * 3 + 1, none⟩ = some (.int .i64 (rs.getD t (ByteArray.empty, 0, 0)).2.1) ∧ w.cell? ⟨b, o + t * 3 + 2, none⟩ = some (.int .i32 (rs.getD t (ByteArray.empty, 0, 0)).2.2) := by
  obtain ⟨a', c', hv, h0, hc⟩ := h
  obtain ⟨rfl, rfl, rfl⟩ : a = a' ∧ n = rs.length ∧ cap = c' := by simpa using hv
  exact ⟨rfl, h0, hc⟩

theorem Try.info57 : (Try.prog.info? 57).map (fun i => (i.zero, i.size, i.bytes)) = some (some (.agg #[.string ByteArray.empty, .pointer none, .int .i32 0]), 3, 32) := by kernel_rfl

/-- The first k grades of the row in block G. -/
def FillTo (w : World) (G : Nat) (X : List Value) (rs : List (ByteArray × Int × Int)) (k : Nat) : Prop :=
  ∀ t, t < k → ∃ b, X[t * 3]? = some (.string (rs.getD t (ByteArray.empty, 0, 0)).1) ∧ X[t * 3 + 1]? = some (.pointer (some ⟨b, 0, none⟩)) ∧ X[t * 3 + 2]? = some (.int .i32 (rs.getD t (ByteArray.empty, 0, 0)).2.2) ∧ BigAt w (G + 1) b (rs.getD t (ByteArray.empty, 0, 0)).2.1

theorem FillTo.later {w w' : World} {G : Nat} {X : List Value} {rs : List (ByteArray × Int × Int)} {k : Nat} (h : FillTo w G X rs k) (hb : Below w.heap.size w w') : FillTo w' G X rs k := by
  intro t ht
  obtain ⟨b, h1, h2, h3, h4⟩ := h t ht
  exact ⟨b, h1, h2, h3, h4.later hb⟩

def set3 (X : List Value) (k : Nat) (x y z : Value) : List Value := ((X.set (k * 3) x).set (k * 3 + 1) y).set (k * 3 + 2) z

theorem FillTo.step {w : World} {G : Nat} {X : List Value} {rs : List (ByteArray × Int × Int)} {k b : Nat} (h : FillTo w G X rs k) (hX : k * 3 + 2 < X.length) (hB : BigAt w (G + 1) b (rs.getD k (ByteArray.empty, 0, 0)).2.1) (x y z : Value) :
    FillTo (((w.setCell ⟨G, k * 3, none⟩ x).setCell ⟨G, k * 3 + 1, none⟩ y).setCell ⟨G, k * 3 + 2, none⟩ z) G (set3 X k (.string (rs.getD k (ByteArray.empty, 0, 0)).1) (.pointer (some ⟨b, 0, none⟩)) (.int .i32 (rs.getD k (ByteArray.empty, 0, 0)).2.2)) rs (k + 1) := by
  have hset : ∀ {b c}, BigAt w (G + 1) b c → BigAt (((w.setCell ⟨G, k * 3, none⟩ x).setCell ⟨G, k * 3 + 1, none⟩ y).setCell ⟨G, k * 3 + 2, none⟩ z) (G + 1) b c := fun h => ((h.set (by omega) x).set (by omega) y).set (by omega) z
  intro t ht
  unfold set3
  by_cases e : t = k
  · subst e
    refine ⟨b, ?_, ?_, ?_, hset hB⟩
    · rw [List.getElem?_set_ne (by omega), List.getElem?_set_ne (by omega), List.getElem?_set_self (by omega)]
    · rw [List.getElem?_set_ne (by omega), List.getElem?_set_self (by simp; omega)]
    · rw [List.getElem?_set_self (by simp; omega)]
  · obtain ⟨b', h1, h2, h3, h4⟩ := h t (by omega)
    refine ⟨b', ?_, ?_, ?_, hset h4⟩
    · rw [List.getElem?_set_ne (by omega), List.getElem?_set_ne (by omega), List.getElem?_set_ne (by omega)]; exact h1
    · rw [List.getElem?_set_ne (by omega), List.getElem?_set_ne (by omega), List.getElem?_set_ne (by omega)]; exact h2
    · rw [List.getElem?_set_ne (by omega), List.getElem?_set_ne (by omega), List.getElem?_set_ne (by omega)]; exact h3

theorem stored3 {w : World} {B G n : Nat} {X : List Value} (h : w.ownsRow B 57 3 (.slice (some ⟨G, 0, none⟩) n n) n X) (k : Nat) (x y z : Value) :
    (((w.setCell ⟨G, k * 3, none⟩ x).setCell ⟨G, k * 3 + 1, none⟩ y).setCell ⟨G, k * 3 + 2, none⟩ z).ownsRow B 57 3 (.slice (some ⟨G, 0, none⟩) n n) n (set3 X k x y z) :=
  (((h.stored (k * 3) x).1.stored (k * 3 + 1) y).1.stored (k * 3 + 2) z).1

theorem grades_of_fill {w : World} {B G n : Nat} {X : List Value} {rs : List (ByteArray × Int × Int)} (h : w.ownsRow B 57 3 (.slice (some ⟨G, 0, none⟩) n n) n X) (hn : rs.length = n) (hF : FillTo w G X rs n) : GradesAt w (.slice (some ⟨G, 0, none⟩) n n) rs := by
  refine ⟨some ⟨G, 0, none⟩, n, by rw [hn], fun t ht => ?_⟩
  obtain ⟨b, h1, h2, h3, h4⟩ := hF t (by omega)
  have hc := h.cells rfl
  have g1 := hc _ _ h1
  have g2 := hc _ _ h2
  have g3 := hc _ _ h3
  rw [Addr.add_lit] at g1 g2 g3
  exact ⟨G, 0, .pointer (some ⟨b, 0, none⟩), rfl, g1, by rw [← Nat.add_assoc] at g2; exact g2, by rw [← Nat.add_assoc] at g3; exact g3, .inr ⟨G + 1, b, rfl, h4⟩⟩

/-- The three cells of one element of the row. -/
theorem row3 {w : World} {B G n : Nat} {X : List Value} (h : w.ownsRow B 57 3 (.slice (some ⟨G, 0, none⟩) n n) n X) (k : Nat) (hk : k < n) :
    ∃ u0 u1 u2, w.cell? ⟨G, k * 3, none⟩ = some u0 ∧ w.cell? ⟨G, k * 3 + 1, none⟩ = some u1 ∧ w.cell? ⟨G, k * 3 + 2, none⟩ = some u2 ∧ w.frozen? ⟨G, k * 3, none⟩ = false ∧ w.frozen? ⟨G, k * 3 + 1, none⟩ = false ∧ w.frozen? ⟨G, k * 3 + 2, none⟩ = false := by
  have hl := h.1
  have l0 : k * 3 < X.length := by omega
  have l1 : k * 3 + 1 < X.length := by omega
  have l2 : k * 3 + 2 < X.length := by omega
  refine ⟨X[k * 3], X[k * 3 + 1], X[k * 3 + 2], ?_, ?_, ?_, h.frozenAt _, h.frozenAt _, h.frozenAt _⟩
  · rw [h.cellAt _ (by omega)]; exact List.getElem?_eq_getElem l0
  · rw [h.cellAt _ (by omega)]; exact List.getElem?_eq_getElem l1
  · rw [h.cellAt _ (by omega)]; exact List.getElem?_eq_getElem l2

theorem far3 {w : World} {b o G o0 o1 o2 : Nat} {v x y z : Value} (hne : b ≠ G) (h : w.cell? ⟨b, o, none⟩ = some v) : (((w.setCell ⟨G, o0, none⟩ x).setCell ⟨G, o1, none⟩ y).setCell ⟨G, o2, none⟩ z).cell? ⟨b, o, none⟩ = some v := by
  have hn : ∀ o', (⟨G, o', none⟩ : Addr) ≠ ⟨b, o, none⟩ := fun o' e => hne (congrArg Addr.block e).symm
  exact (World.cell?_setCell_other _ _ _ _ (hn _)).trans ((World.cell?_setCell_other _ _ _ _ (hn _)).trans ((World.cell?_setCell_other _ _ _ _ (hn _)).trans h))

def PersEnd (rs : List (ByteArray × Int × Int)) (e : Ending) (w w' : World) : Prop :=
  ∃ tb a cap, e = .returned (.pointer (some ⟨tb, 0, none⟩)) ∧ Below w.heap.size w w' ∧ w'.cell? ⟨tb, 0, none⟩ = some (.slice a rs.length cap) ∧ GradesAt w' (.slice a rs.length cap) rs

set_option maxHeartbeats 400000 in
theorem pers_nil (w : World) : Calls Try.prog 8 #[.slice none 0 0] w fun e w' => PersEnd [] e w w' := by
  have hq := fun w => Lib.run_eql_slice_nil (P := Try.prog) w 22 26 none 0 0 0 0 Try.underlying22
  go_enter Try.func8, Try.ntmps8
  go_wp2
  go_ret
  exact ⟨w.heap.size, none, 0, rfl, (Below.refl _ _).alloc (Nat.le_refl _) _, by simp, none, 0, rfl, fun t ht => absurd ht (by simp)⟩

set_option maxHeartbeats 2000000 in
set_option maxRecDepth 100000 in
theorem pers_some (ad : Addr) (n cap : Nat) (rs : List (ByteArray × Int × Int)) (w : World) (hn : n ≤ 131072) (hrs : rs.length = n) (hrg : ∀ r ∈ rs, -9223372036854775808 ≤ r.2.1 ∧ r.2.1 ≤ 9223372036854775807) (h : RowsAt w (.slice (some ad) n cap) rs) :
    Calls Try.prog 8 #[.slice (some ad) n cap] w fun e w' => PersEnd rs e w w' := by
  have hq := fun w => Lib.run_eql_slice_nil (P := Try.prog) w 22 26 (some ad) n cap 0 0 Try.underlying22
  have HF : Hid _ := h.form.2.2
  have HN : Hid (rs.length = n) := hrs
  have HRG : Hid (∀ r ∈ rs, -9223372036854775808 ≤ r.2.1 ∧ r.2.1 ≤ 9223372036854775807) := hrg
  clear h hrs hrg
  obtain ⟨inf, hi, hz0, hz1, hz2⟩ := info_parts Try.info57
  go_enter Try.func8, Try.ntmps8
  go_wp2_with (at_make; refine wpList_make_full _ rfl _ _ 49 rfl w.heap.size 57 inf (.agg #[.string ByteArray.empty, .pointer none, .int .i32 0]) 3 Try.underlying49 hi hz0 hz1 _ _ _ _ n rfl rfl rfl rfl (by rw [hz2]; omega) (by unfold maxLen; omega) (Nat.le_refl _) ?_; intro w1 hown1 hgrow1)
  go_loopw [4] (fun i wr => ∃ (k : Nat) (X : List Value), k ≤ n ∧ i = .int .i64 k ∧ Hid (FillTo wr w.heap.size X rs k) ∧ Hid (wr.ownsRow w.heap.size 57 3 (.slice (some ⟨w.heap.size, 0, none⟩) n n) n X) ∧ Below w.heap.size w wr) (fun i _ => n - (intOf i).toNat)
  case atStart => exact ⟨0, _, Nat.zero_le _, rfl, fun t ht => absurd ht (by omega), hown1, (Below.refl _ _).grown hgrow1 (Nat.le_refl _) (fun k h => by cases h)⟩
  case round =>
    obtain ⟨k, X, hk, rfl, HX, HO, hb⟩ := hrel
    clear hown1 hgrow1 hq
    have hGl : w.heap.size < wr.heap.size := (HO.out.lt _ rfl).2
    by_cases hlt : k < n
    · obtain ⟨b, o, had, g0, g1, g2⟩ := HF.out k hlt
      obtain rfl := Option.some.inj had
      have hkl : k < rs.length := by rw [HN.out]; exact hlt
      have hbl : b < w.heap.size := World.block_lt_of_cell? w _ g0
      have e0 := (hb.cell hbl).trans g0
      have e1 := (hb.cell (p := ⟨b, o + k * 3 + 1, none⟩) hbl).trans g1
      have e2 := (hb.cell (p := ⟨b, o + k * 3 + 2, none⟩) hbl).trans g2
      obtain ⟨r, hr⟩ : ∃ r, r = rs.getD k (ByteArray.empty, 0, 0) := ⟨_, rfl⟩
      rw [← hr] at e0 e1 e2
      have hrange : -9223372036854775808 ≤ r.2.1 ∧ r.2.1 ≤ 9223372036854775807 := HRG.out r (by rw [hr]; simp [List.getD, hkl])
      have HRR : Hid (-9223372036854775808 ≤ r.2.1 ∧ r.2.1 ≤ 9223372036854775807) := hrange
      have HD : Hid (r = rs.getD k (ByteArray.empty, 0, 0)) := hr
      clear g0 g1 g2 hr had hrange
      have lb : b < wr.heap.size := by omega
      have hne : b ≠ w.heap.size := by omega
      have i1 : (0 : Int) ≤ (k : Int) := by omega
      have i2 : (k : Int) < (n : Int) := by omega
      go_wp2
      go_region_held3 (fun w' => w'.cell? ⟨b, o + k * 3, none⟩ = some (.string r.1) ∧ w'.cell? ⟨b, o + k * 3 + 1, none⟩ = some (.int .i64 r.2.1) ∧ w'.cell? ⟨b, o + k * 3 + 2, none⟩ = some (.int .i32 r.2.2))
        (first | go_keep | (go_split_ands; refine ⟨?_, ?_, ?_⟩ <;> (refine (hb1.cell (by exact lb)).trans ?_; assumption)) | (go_split_ands; exact ⟨far3 hne (by assumption), far3 hne (by assumption), far3 hne (by assumption)⟩))
        (first | (go_at_call 18; refine (zdec_any r.2.1 r.2.2 _ HRR.out).mono ?_; rintro e w2 ⟨b1, rfl, hb1, hB1⟩; obtain ⟨u0, u1, u2, c0, c1, c2, f0, f1, f2⟩ := row3 (HO.out.kept (row := none) ⟨hb1.os, hb1.tape, hb1.output, hb1.size, fun k hk _ => hb1.block k hk⟩ (.inr (by simp [Value.ownBlock]))) k hlt; dsimp only))
      have hbb : Below wr.heap.size wr w2 := (Below.refl _ _).drew.trans hb1
      have hF2 := (HX.out.later hbb).step (b := b1) (by have := HO.out.1; omega) (by rw [← HD.out]; exact hB1.mono (Nat.succ_le_succ (Nat.le_of_lt hGl))) (.string r.1) (.pointer (some ⟨b1, 0, none⟩)) (.int .i32 r.2.2)
      have hO2 := stored3 (HO.out.kept (row := none) ⟨hbb.os, hbb.tape, hbb.output, hbb.size, fun k hk _ => hbb.block k hk⟩ (.inr (by simp [Value.ownBlock]))) k (.string r.1) (.pointer (some ⟨b1, 0, none⟩)) (.int .i32 r.2.2)
      rw [← HD.out] at hF2
      have HF2 : Hid _ := hF2
      have HO2 : Hid _ := hO2
      have hB2 : Below w.heap.size w (((w2.setCell ⟨w.heap.size, k * 3, none⟩ (.string r.1)).setCell ⟨w.heap.size, k * 3 + 1, none⟩ (.pointer (some ⟨b1, 0, none⟩))).setCell ⟨w.heap.size, k * 3 + 2, none⟩ (.int .i32 r.2.2)) := (((below_after hb hbb).setCell (Nat.le_refl _) _).setCell (Nat.le_refl _) _).setCell (Nat.le_refl _) _
      clear hF2 hO2 hbb hb1 hB1 c0 c1 c2 f0 f1 f2
      go_wp2
      go_roundw
      case rel => exact ⟨k + 1, _, by omega, by go_num, HF2, HO2, hB2⟩
      case measure => simp [intOf]; omega
    · obtain rfl : k = n := by omega
      have hG := grades_of_fill HO.out HN.out HX.out
      have HG : Hid _ := hG
      clear hG
      go_wp2
      go_ret
      have hbx : Below wr.heap.size wr (wr.alloc (.cells #[.slice (some ⟨w.heap.size, 0, none⟩) k k, .slice none 0 0, .pointer none, .int .i32 0] 54)) := (Below.refl _ _).alloc (Nat.le_refl _) _
      refine ⟨wr.heap.size, some ⟨w.heap.size, 0, none⟩, k, rfl, below_after hb hbx, by rw [HN.out]; simp, ?_⟩
      rw [HN.out]
      exact GradesAt.later HG.out hbx

theorem pers_any (x : Option Addr) (n cap : Nat) (rs : List (ByteArray × Int × Int)) (w : World) (hn : n ≤ 131072) (hrs : rs.length = n) (hrg : ∀ r ∈ rs, -9223372036854775808 ≤ r.2.1 ∧ r.2.1 ≤ 9223372036854775807) (h : RowsAt w (.slice x n cap) rs) :
    Calls Try.prog 8 #[.slice x n cap] w fun e w' => PersEnd rs e w w' := by
  cases x with
  | none =>
    obtain ⟨hl, h0, hc⟩ := h.form
    obtain rfl := h0 rfl
    have hz : n = 0 := by
      by_cases hp : 0 < n
      · obtain ⟨_, _, e, _⟩ := hc 0 hp
        cases e
      · omega
    subst hz
    obtain rfl : rs = [] := List.eq_nil_of_length_eq_zero hrs
    exact pers_nil w
  | some ad => exact pers_some ad n cap rs w hn hrs hrg h

end Go.Proofs.Qxb6616127a
