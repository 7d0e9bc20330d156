/-
  FnGradePaysPctRefusesUnlistedAcceptsItAppended: the walk.
-/
import Derived.Test.Qxb6616127aGRead
namespace Go.Proofs.Qxb6616127a
open Go.RowKit

theorem Try.info26 : (Try.prog.info? 26).map (fun i => (i.zero, i.size, i.bytes)) = some (some (.agg #[.string ByteArray.empty, .int .i64 0, .int .i32 0]), 3, 32) := by kernel_rfl

/-- The first k rows of the row. -/
def RowsTo (X : List Value) (rs : List (ByteArray × Int × Int)) (k : Nat) : Prop :=
  ∀ t, t < k → X[t * 3]? = some (.string (rs.getD t (ByteArray.empty, 0, 0)).1) ∧ X[t * 3 + 1]? = some (.int .i64 (rs.getD t (ByteArray.empty, 0, 0)).2.1) ∧ X[t * 3 + 2]? = some (.int .i32 (rs.getD t (ByteArray.empty, 0, 0)).2.2)

theorem RowsTo.step {X : List Value} {rs : List (ByteArray × Int × Int)} {k : Nat} (h : RowsTo X rs k) (hX : k * 3 + 2 < X.length) :
    RowsTo (set3 X k (.string (rs.getD k (ByteArray.empty, 0, 0)).1) (.int .i64 (rs.getD k (ByteArray.empty, 0, 0)).2.1) (.int .i32 (rs.getD k (ByteArray.empty, 0, 0)).2.2)) rs (k + 1) := by
  intro t ht
  unfold set3
  by_cases e : t = k
  · subst e
    refine ⟨?_, ?_, ?_⟩
    · rw [List.getElem?_set_ne (by omega), List.getElem?_set_ne (by omega), List.getElem?_set_self (by omega)]
    · rw [List.getElem?_set_ne (by omega), List.getElem?_set_self (by simp; omega)]
    · rw [List.getElem?_set_self (by simp; omega)]
  · obtain ⟨h1, h2, h3⟩ := h t (by omega)
    refine ⟨?_, ?_, ?_⟩
    · rw [List.getElem?_set_ne (by omega), List.getElem?_set_ne (by omega), List.getElem?_set_ne (by omega)]; exact h1
    · rw [List.getElem?_set_ne (by omega), List.getElem?_set_ne (by omega), List.getElem?_set_ne (by omega)]; exact h2
    · rw [List.getElem?_set_ne (by omega), List.getElem?_set_ne (by omega), List.getElem?_set_ne (by omega)]; exact h3

theorem stored3r {w : World} {B G n : Nat} {X : List Value} (h : w.ownsRow B 26 3 (.slice (some ⟨G, 0, none⟩) n n) n X) (k : Nat) (x y z : Value) :
    (((w.setCell ⟨G, k * 3, none⟩ x).setCell ⟨G, k * 3 + 1, none⟩ y).setCell ⟨G, k * 3 + 2, none⟩ z).ownsRow B 26 3 (.slice (some ⟨G, 0, none⟩) n n) n (set3 X k x y z) :=
  (((h.stored (k * 3) x).1.stored (k * 3 + 1) y).1.stored (k * 3 + 2) z).1

theorem row3r {w : World} {B G n : Nat} {X : List Value} (h : w.ownsRow B 26 3 (.slice (some ⟨G, 0, none⟩) n n) n X) (k : Nat) (hk : k < n) :
    ∃ u0 u1 u2, w.cell? ⟨G, k * 3, none⟩ = some u0 ∧ w.cell? ⟨G, k * 3 + 1, none⟩ = some u1 ∧ w.cell? ⟨G, k * 3 + 2, none⟩ = some u2 ∧ w.frozen? ⟨G, k * 3, none⟩ = false ∧ w.frozen? ⟨G, k * 3 + 1, none⟩ = false ∧ w.frozen? ⟨G, k * 3 + 2, none⟩ = false := by
  have hl := h.1
  have l0 : k * 3 < X.length := by omega
  have l1 : k * 3 + 1 < X.length := by omega
  have l2 : k * 3 + 2 < X.length := by omega
  refine ⟨X[k * 3], X[k * 3 + 1], X[k * 3 + 2], ?_, ?_, ?_, h.frozenAt _, h.frozenAt _, h.frozenAt _⟩
  · rw [h.cellAt _ (by omega)]; exact List.getElem?_eq_getElem l0
  · rw [h.cellAt _ (by omega)]; exact List.getElem?_eq_getElem l1
  · rw [h.cellAt _ (by omega)]; exact List.getElem?_eq_getElem l2

theorem rows_of_own {w : World} {B G n : Nat} {X : List Value} {rs : List (ByteArray × Int × Int)} (h : w.ownsRow B 26 3 (.slice (some ⟨G, 0, none⟩) n n) n X) (hn : rs.length = n) (hF : RowsTo X rs n) : RowsAt w (.slice (some ⟨G, 0, none⟩) n n) rs := by
  refine ⟨some ⟨G, 0, none⟩, n, by rw [hn], (fun h => by cases h), fun t ht => ?_⟩
  obtain ⟨h1, h2, h3⟩ := hF t (by omega)
  have hc := h.cells rfl
  have g1 := hc _ _ h1
  have g2 := hc _ _ h2
  have g3 := hc _ _ h3
  rw [Addr.add_lit] at g1 g2 g3
  exact ⟨G, 0, rfl, g1, by rw [← Nat.add_assoc] at g2; exact g2, by rw [← Nat.add_assoc] at g3; exact g3⟩

/-- A grade that is none of the texts pays nothing. -/
theorem pay_none (rs : List (ByteArray × Int × Int)) (g : ByteArray) (h : ∀ t, t < rs.length → ((rs.getD t (ByteArray.empty, 0, 0)).1.data.toList == g.data.toList) = false) : payOf rs g = none := by
  unfold payOf
  rw [List.find?_eq_none.2, Option.map_none]
  intro r hr
  obtain ⟨t, ht, rfl⟩ := List.getElem_of_mem hr
  have := h t ht
  simp [List.getD, ht] at this
  simpa using this

theorem pay_snoc (rs : List (ByteArray × Int × Int)) (g : ByteArray) (v : Int × Int) (h : payOf rs g = none) : payOf (rs ++ [(g, v)]) g = some v := by
  unfold payOf at h ⊢
  rw [Option.map_eq_none_iff] at h
  rw [List.find?_append, h]
  simp

theorem pay_keep (rs : List (ByteArray × Int × Int)) (r : ByteArray × Int × Int) (k : Nat) (hk : k < rs.length) : ∃ v, payOf rs (rs.getD k (ByteArray.empty, 0, 0)).1 = some v ∧ payOf (rs ++ [r]) (rs.getD k (ByteArray.empty, 0, 0)).1 = some v := by
  unfold payOf
  have hs : (rs.find? (fun r => r.1.data.toList == (rs.getD k (ByteArray.empty, 0, 0)).1.data.toList)).isSome = true := by
    rw [List.find?_isSome]
    exact ⟨rs[k], List.getElem_mem hk, by simp [List.getD, hk]⟩
  obtain ⟨u, hu⟩ := Option.isSome_iff_exists.1 hs
  refine ⟨u.2, by rw [hu]; rfl, ?_⟩
  rw [List.find?_append, hu]
  rfl

set_option maxHeartbeats 4000000 in
set_option maxRecDepth 100000 in
theorem gmain_any (a : Option Addr) (n cap : Nat) (rs : List (ByteArray × Int × Int)) (g : ByteArray) (c x k : Int) (w : World) (hrs : rs.length = n) (hn : n ≤ maxLen) (hg : g.size ≤ maxLen) (hsz : ∀ t, t < n → (rs.getD t (ByteArray.empty, 0, 0)).1.size ≤ maxLen)
    (hrg : ∀ r ∈ rs, -9223372036854775808 ≤ r.2.1 ∧ r.2.1 ≤ 9223372036854775807) (hc : -9223372036854775808 ≤ c ∧ c ≤ 9223372036854775807) (h : RowsAt w (.slice a n cap) rs) :
    Calls Try.prog 3 #[.slice a n cap, .string g, .int .i64 c, .int .i32 x, .int .i64 k] w fun e w' => e = .returned (.bool true) ∧ Below w.heap.size w w' := by
  have HRows : Hid (RowsAt w (.slice a n cap) rs) := h
  have HF : Hid _ := h.form.2.2
  have HS : Hid (∀ t, t < n → (rs.getD t (ByteArray.empty, 0, 0)).1.size ≤ maxLen) := hsz
  have HN : Hid (rs.length = n) := hrs
  have HRG : Hid (∀ r ∈ rs, -9223372036854775808 ≤ r.2.1 ∧ r.2.1 ≤ 9223372036854775807) := hrg
  have HC : Hid (-9223372036854775808 ≤ c ∧ c ≤ 9223372036854775807) := hc
  clear h hsz hrs hrg hc
  obtain ⟨inf, hi, hz0, hz1, hz2⟩ := info_parts Try.info26
  go_enter Try.func3, Try.ntmps3
  go_wp2_with fail
  refine (gbytes_any a n cap rs g c x k w hn hg HS.out HRows.out).mono ?_
  rintro e w' ⟨B, rfl, rfl⟩
  unfold maxLen at hn hg
  cases B with
  | false =>
    go_wp2_with fail
    go_ret
    exact ⟨rfl, Below.refl _ _⟩
  | true =>
    by_cases hg1 : 1048576 < g.size
    · go_wp2_with fail
      go_ret
      exact ⟨rfl, Below.refl _ _⟩
    · by_cases hn1 : 65536 < n
      · go_wp2_with fail
        go_ret
        exact ⟨rfl, Below.refl _ _⟩
      · go_wp2_with fail
        refine (gfit_any a n cap rs _ w (by omega) (by omega) HS.out HRows.out).mono ?_
        rintro e w' ⟨B, rfl, rfl⟩
        cases B with
        | false =>
          go_wp2_with fail
          go_ret
          exact ⟨rfl, Below.refl _ _⟩
        | true =>
          clear hn hg
          go_wp2_with fail
          go_loop [11] (fun i => ∃ t : Nat, t ≤ n ∧ i = .int .i64 t ∧ Hid (∀ s, s < t → ((rs.getD s (ByteArray.empty, 0, 0)).1.data.toList == g.data.toList) = false)) (fun i => n - (intOf i).toNat)
          case atStart => exact ⟨0, Nat.zero_le _, rfl, fun t ht => absurd ht (by omega)⟩
          case round =>
            obtain ⟨t, ht, rfl, HK⟩ := hrel
            by_cases hlt : t < n
            · obtain ⟨b, o, rfl, g0, _, _⟩ := HF.out t hlt
              obtain ⟨s, hs⟩ : ∃ s, s = (rs.getD t (ByteArray.empty, 0, 0)).1 := ⟨_, rfl⟩
              rw [← hs] at g0
              have HD : Hid (s = (rs.getD t (ByteArray.empty, 0, 0)).1) := hs
              clear hs
              cases hcmp : (s.data.toList == g.data.toList) with
              | true =>
                have hc2 : (s.toList == g.toList) = true := by rw [ByteArray.toList_eq, ByteArray.toList_eq]; exact hcmp
                go_wp2_with fail
                go_ret
                exact ⟨rfl, Below.refl _ _⟩
              | false =>
                have hc2 : (s.toList == g.toList) = false := by rw [ByteArray.toList_eq, ByteArray.toList_eq]; exact hcmp
                go_wp2_with fail
                go_round
                case rel => exact ⟨t + 1, by omega, by go_num, fun q hq => by
                  by_cases e : q = t
                  · subst e; rw [← HD.out]; exact hcmp
                  · exact HK.out q (by omega)⟩
                case measure => simp [intOf]; omega
            · obtain rfl : t = n := by omega
              have hnone : payOf rs g = none := pay_none rs g (by rw [HN.out]; exact HK.out)
              have HNONE : Hid (payOf rs g = none) := hnone
              clear hnone HK ht hlt
              go_wp2_with fail
              refine (pers_any a t cap rs w (by omega) HN.out HRG.out HRows.out).mono ?_
              rintro e w1 ⟨tb, a1, cap1, rfl, hb1, ht1, hG1⟩
              rw [HN.out] at ht1 hG1
              have HT1 : Hid (w1.cell? ⟨tb, 0, none⟩ = some (.slice a1 t cap1)) := ht1
              have HG1 : Hid (GradesAt w1 (.slice a1 t cap1) rs) := hG1
              clear ht1 hG1
              go_wp2_with fail
              refine (grade_any tb a1 t cap1 rs g w1 (by omega) HN.out HRG.out HT1.out HG1.out).mono ?_
              rintro e w2 ⟨rfl, hb2⟩
              rw [HNONE.out]
              have hB2 : Below w.heap.size w w2 := below_after hb1 hb2
              have HT2 : Hid (w2.cell? ⟨tb, 0, none⟩ = some (.slice a1 t cap1)) := (hb2.cell (World.block_lt_of_cell? w1 _ HT1.out)).trans HT1.out
              have HG2 : Hid (GradesAt w2 (.slice a1 t cap1) rs) := HG1.out.later hb2
              clear HT1 HG1 hb1 hb2
              go_wp2_with (at_make; refine wpList_make_full _ rfl _ _ 22 rfl w2.heap.size 26 inf (.agg #[.string ByteArray.empty, .int .i64 0, .int .i32 0]) 3 Try.underlying22 hi hz0 hz1 _ _ _ _ (t + 1) rfl rfl (by omega) (by omega) (by rw [hz2]; omega) (by unfold maxLen; omega) (Nat.le_refl _) ?_; intro w3 hown3 hgrow3)
              obtain ⟨gs, hgs⟩ : ∃ gs, gs = rs ++ [(g, c, x)] := ⟨_, rfl⟩
              have HGS : Hid (gs = rs ++ [(g, c, x)]) := hgs
              have hgd : ∀ q, q < t → gs.getD q (ByteArray.empty, 0, 0) = rs.getD q (ByteArray.empty, 0, 0) := by
                intro q hq
                rw [hgs, List.getD_eq_getElem?_getD, List.getD_eq_getElem?_getD, List.getElem?_append_left (by rw [HN.out]; exact hq)]
              have hgt : gs.getD t (ByteArray.empty, 0, 0) = (g, c, x) := by
                rw [hgs, List.getD_eq_getElem?_getD, List.getElem?_append_right (by rw [HN.out]; exact Nat.le_refl _), HN.out, Nat.sub_self]
                rfl
              have HGD : Hid _ := hgd
              have HGT : Hid (gs.getD t (ByteArray.empty, 0, 0) = (g, c, x)) := hgt
              clear hgs hgd hgt
              go_loopw [17] (fun i wr => ∃ (q : Nat) (X : List Value), q ≤ t ∧ i = .int .i64 q ∧ Hid (RowsTo X gs q) ∧ Hid (wr.ownsRow w2.heap.size 26 3 (.slice (some ⟨w2.heap.size, 0, none⟩) (t + 1) (t + 1)) (t + 1) X) ∧ Below w2.heap.size w2 wr) (fun i _ => t - (intOf i).toNat)
              case atStart => exact ⟨0, _, Nat.zero_le _, rfl, fun t ht => absurd ht (by omega), hown3, (Below.refl _ _).grown hgrow3 (Nat.le_refl _) (fun k h => by cases h)⟩
              case round =>
                obtain ⟨q, X, hq, rfl, HX, HO, hb⟩ := hrel
                clear hown3 hgrow3
                obtain ⟨u0, u1, u2, c0, c1, c2, f0, f1, f2⟩ := row3r HO.out q (by omega)
                have hXl : q * 3 + 2 < X.length := by have := HO.out.1; omega
                by_cases hlt : q < t
                · obtain ⟨b, o, rfl, g0, g1, g2⟩ := HF.out q hlt
                  have hbl : b < w.heap.size := World.block_lt_of_cell? w _ g0
                  have hbw : Below w.heap.size w wr := below_after hB2 hb
                  have e0 := (hbw.cell hbl).trans g0
                  have e1 := (hbw.cell (p := ⟨b, o + q * 3 + 1, none⟩) hbl).trans g1
                  have e2 := (hbw.cell (p := ⟨b, o + q * 3 + 2, none⟩) hbl).trans g2
                  have hne : b ≠ w2.heap.size := by have := hB2.size; omega
                  obtain ⟨r, hr⟩ : ∃ r, r = rs.getD q (ByteArray.empty, 0, 0) := ⟨_, rfl⟩
                  rw [← hr] at e0 e1 e2
                  have HD : Hid (gs.getD q (ByteArray.empty, 0, 0) = r) := by rw [HGD.out q hlt]; exact hr.symm
                  have hX2 := HX.out.step hXl
                  rw [HD.out] at hX2
                  have HX2 : Hid _ := hX2
                  have HO2 : Hid _ := stored3r HO.out q (.string r.1) (.int .i64 r.2.1) (.int .i32 r.2.2)
                  have hbf : Below w2.heap.size w2 (((wr.setCell ⟨w2.heap.size, q * 3, none⟩ (.string r.1)).setCell ⟨w2.heap.size, q * 3 + 1, none⟩ (.int .i64 r.2.1)).setCell ⟨w2.heap.size, q * 3 + 2, none⟩ (.int .i32 r.2.2)) := ((hb.setCell (Nat.le_refl _) _).setCell (Nat.le_refl _) _).setCell (Nat.le_refl _) _
                  have HBF : Hid _ := hbf
                  clear hX2 hbf g0 g1 g2 hr hbw hb HX HO
                  go_wp2_with fail
                  go_roundw
                  case rel => exact ⟨q + 1, _, by omega, by go_num, HX2, HO2, HBF⟩
                  case measure => simp [intOf]; omega
                · obtain rfl : q = t := by omega
                  have hX2 := HX.out.step hXl
                  rw [HGT.out] at hX2
                  have hgl : gs.length = q + 1 := by rw [HGS.out]; simp; exact HN.out
                  have hR4 := rows_of_own (stored3r HO.out q (.string g) (.int .i64 c) (.int .i32 x)) hgl hX2
                  have hb4 : Below w2.heap.size w2 (((wr.setCell ⟨w2.heap.size, q * 3, none⟩ (.string g)).setCell ⟨w2.heap.size, q * 3 + 1, none⟩ (.int .i64 c)).setCell ⟨w2.heap.size, q * 3 + 2, none⟩ (.int .i32 x)) := ((hb.setCell (Nat.le_refl _) _).setCell (Nat.le_refl _) _).setCell (Nat.le_refl _) _
                  have HR4 : Hid _ := hR4
                  have HB4 : Hid _ := hb4
                  clear hR4 hb4 hX2 HX HO hb
                  go_wp2_with fail
                  have hgr : ∀ r ∈ gs, -9223372036854775808 ≤ r.2.1 ∧ r.2.1 ≤ 9223372036854775807 := by
                    intro r hr
                    rw [HGS.out, List.mem_append] at hr
                    rcases hr with hr | hr
                    · exact HRG.out r hr
                    · rw [List.mem_singleton] at hr
                      rw [hr]
                      exact HC.out
                  refine (pers_any _ (q + 1) (q + 1) gs _ (by omega) hgl hgr HR4.out).mono ?_
                  rintro e w5 ⟨tb2, a2, cap2, rfl, hb5, ht5, hG5⟩
                  rw [hgl] at ht5 hG5
                  have hB5 : Below w2.heap.size w2 w5 := below_after HB4.out hb5
                  have HT5 : Hid (w5.cell? ⟨tb2, 0, none⟩ = some (.slice a2 (q + 1) cap2)) := ht5
                  have HG5 : Hid (GradesAt w5 (.slice a2 (q + 1) cap2) gs) := hG5
                  have HGR : Hid _ := hgr
                  clear ht5 hG5 hb5 hgr HR4 HB4 c0 c1 c2 f0 f1 f2
                  go_wp2_with fail
                  refine (grade_any tb2 a2 (q + 1) cap2 gs g w5 (by omega) hgl HGR.out HT5.out HG5.out).mono ?_
                  have hp : payOf gs g = some (c, x) := by rw [HGS.out]; exact pay_snoc rs g (c, x) HNONE.out
                  rw [hp]
                  rintro e w6 ⟨rfl, hb6⟩
                  have hB6 : Below w2.heap.size w2 w6 := below_after hB5 hb6
                  have HT6 : Hid (w6.cell? ⟨tb2, 0, none⟩ = some (.slice a2 (q + 1) cap2)) := (hb6.cell (World.block_lt_of_cell? w5 _ HT5.out)).trans HT5.out
                  have HG6 : Hid (GradesAt w6 (.slice a2 (q + 1) cap2) gs) := HG5.out.later hb6
                  have HT2' : Hid (w6.cell? ⟨tb, 0, none⟩ = some (.slice a1 q cap1)) := (hB6.cell (World.block_lt_of_cell? w2 _ HT2.out)).trans HT2.out
                  have HG2' : Hid (GradesAt w6 (.slice a1 q cap1) rs) := HG2.out.later hB6
                  have hBw : Below w.heap.size w w6 := below_after hB2 hB6
                  clear hp HT5 HG5 HT2 HG2 hB5 hb6 hB6 hB2
                  dsimp only [Option.map, Option.getD, Option.isSome]
                  by_cases hk0 : k < 0
                  · go_wp2_with fail
                    go_ret
                    exact ⟨rfl, hBw⟩
                  · obtain ⟨kn, rfl⟩ : ∃ kn : Nat, k = kn := ⟨k.toNat, by omega⟩
                    by_cases hk1 : kn < q
                    · obtain ⟨b, o, rfl, g0, _, _⟩ := HF.out kn hk1
                      have e0 := (hBw.cell (World.block_lt_of_cell? w _ g0)).trans g0
                      obtain ⟨v, hv1, hv2⟩ := pay_keep rs (g, c, x) kn (by rw [HN.out]; exact hk1)
                      rw [← HGS.out] at hv2
                      obtain ⟨s, hs⟩ : ∃ s, s = (rs.getD kn (ByteArray.empty, 0, 0)).1 := ⟨_, rfl⟩
                      rw [← hs] at e0 hv1 hv2
                      have HV1 : Hid (payOf rs s = some v) := hv1
                      have HV2 : Hid (payOf gs s = some v) := hv2
                      have HBW : Hid _ := hBw
                      clear hv1 hv2 hs g0 hBw
                      go_wp2_with fail
                      refine (grade_any tb a1 q cap1 rs s w6 (by omega) HN.out HRG.out HT2'.out HG2'.out).mono ?_
                      rw [HV1.out]
                      rintro e w7 ⟨rfl, hb7⟩
                      have HB7 : Hid (Below w.heap.size w w7) := below_after HBW.out hb7
                      have HT7 : Hid (w7.cell? ⟨tb2, 0, none⟩ = some (.slice a2 (q + 1) cap2)) := (hb7.cell (World.block_lt_of_cell? w6 _ HT6.out)).trans HT6.out
                      have HG7 : Hid (GradesAt w7 (.slice a2 (q + 1) cap2) gs) := HG6.out.later hb7
                      clear hb7 e0 HT6 HG6 HT2' HG2' HBW
                      dsimp only [Option.map, Option.getD, Option.isSome]
                      go_wp2_with fail
                      refine (grade_any tb2 a2 (q + 1) cap2 gs s w7 (by omega) hgl HGR.out HT7.out HG7.out).mono ?_
                      rw [HV2.out]
                      rintro e w8 ⟨rfl, hb8⟩
                      have HB8 : Hid (Below w.heap.size w w8) := below_after HB7.out hb8
                      clear hb8 HB7 HT7 HG7
                      dsimp only [Option.map, Option.getD, Option.isSome]
                      go_wp2_with fail
                      go_ret
                      exact ⟨rfl, HB8⟩
                    · go_wp2_with fail
                      go_ret
                      exact ⟨rfl, hBw⟩

end Go.Proofs.Qxb6616127a
