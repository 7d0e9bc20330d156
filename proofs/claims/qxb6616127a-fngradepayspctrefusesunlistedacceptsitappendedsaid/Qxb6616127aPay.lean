/-
  GradePaysPct, gradeOf.
-/
import Derived.Test.Qxb6616127aDec
namespace Go.Proofs.Qxb6616127a
open Go.RowKit

/-- The slice value v holds grades: each its text, its percent's coefficient and exponent. -/
def GradesAt (w : World) (v : Value) (gs : List (ByteArray × Int × Int)) : Prop :=
  ∃ a cap, v = .slice a gs.length cap ∧ ∀ t, t < gs.length → ∃ b o p, a = some ⟨b, o, none⟩ ∧
    w.cell? ⟨b, o + t * 3, none⟩ = some (.string (gs.getD t (ByteArray.empty, 0, 0)).1) ∧
    w.cell? ⟨b, o + t * 3 + 1, none⟩ = some p ∧ w.cell? ⟨b, o + t * 3 + 2, none⟩ = some (.int .i32 (gs.getD t (ByteArray.empty, 0, 0)).2.2) ∧ DecVal w p (gs.getD t (ByteArray.empty, 0, 0)).2.1

theorem GradesAt.later {w w' : World} {v : Value} {gs : List (ByteArray × Int × Int)} (h : GradesAt w v gs) (hb : Below w.heap.size w w') : GradesAt w' v gs := by
  obtain ⟨a, cap, hv, hc⟩ := h
  refine ⟨a, cap, hv, fun t ht => ?_⟩
  obtain ⟨b, o, p, ha, h1, h2, h3, h4⟩ := hc t ht
  exact ⟨b, o, p, ha, (hb.cell (World.block_lt_of_cell? w _ h1)).trans h1, (hb.cell (World.block_lt_of_cell? w _ h2)).trans h2, (hb.cell (World.block_lt_of_cell? w _ h3)).trans h3, h4.later hb⟩

theorem DecVal.form {w : World} {p : Value} {c : Int} (h : DecVal w p c) : ∃ q, p = .pointer q := by
  rcases h with ⟨rfl, _⟩ | ⟨_, _, rfl, _⟩
  · exact ⟨_, rfl⟩
  · exact ⟨_, rfl⟩

/-- Two stores into one block, and a new block behind. -/
theorem two_set_cells {w : World} {W : Nat} {u v c0 c1 : Value} (O : Obj) (h0 : w.cell? ⟨W, 0, none⟩ = some c0) (h1 : w.cell? ⟨W, 1, none⟩ = some c1) :
    (((w.setCell ⟨W, 0, none⟩ u).setCell ⟨W, 1, none⟩ v).alloc O).cell? ⟨W, 0, none⟩ = some u ∧ (((w.setCell ⟨W, 0, none⟩ u).setCell ⟨W, 1, none⟩ v).alloc O).cell? ⟨W, 1, none⟩ = some v := by
  have k0 : (w.setCell ⟨W, 0, none⟩ u).cell? ⟨W, 0, none⟩ = some u := World.cell?_setCell_same w _ _ h0
  have k1 : (w.setCell ⟨W, 0, none⟩ u).cell? ⟨W, 1, none⟩ = some c1 := (World.cell?_setCell_other w _ _ _ (by simp)).trans h1
  have m0 : ((w.setCell ⟨W, 0, none⟩ u).setCell ⟨W, 1, none⟩ v).cell? ⟨W, 0, none⟩ = some u := (World.cell?_setCell_other _ _ _ _ (by simp)).trans k0
  have m1 : ((w.setCell ⟨W, 0, none⟩ u).setCell ⟨W, 1, none⟩ v).cell? ⟨W, 1, none⟩ = some v := World.cell?_setCell_same _ _ _ k1
  have hb : Below ((w.setCell ⟨W, 0, none⟩ u).setCell ⟨W, 1, none⟩ v).heap.size ((w.setCell ⟨W, 0, none⟩ u).setCell ⟨W, 1, none⟩ v) (((w.setCell ⟨W, 0, none⟩ u).setCell ⟨W, 1, none⟩ v).alloc O) := (Below.refl _ _).alloc (Nat.le_refl _) _
  exact ⟨(hb.cell (World.block_lt_of_cell? _ _ m0)).trans m0, (hb.cell (World.block_lt_of_cell? _ _ m1)).trans m1⟩

/-- What a grade pays: the first with its text. -/
def payOf (gs : List (ByteArray × Int × Int)) (g : ByteArray) : Option (Int × Int) := (gs.find? (fun r => r.1.data.toList == g.data.toList)).map (·.2)

theorem pay_hit (gs : List (ByteArray × Int × Int)) (g : ByteArray) (k : Nat) (hk : k < gs.length) (h : ((gs.getD k (ByteArray.empty, 0, 0)).1.data.toList == g.data.toList) = true) : payOf (gs.drop k) g = some (gs.getD k (ByteArray.empty, 0, 0)).2 := by
  have e : gs.getD k (ByteArray.empty, 0, 0) = gs[k] := by simp [List.getD, hk]
  rw [e] at h ⊢
  unfold payOf
  rw [List.drop_eq_getElem_cons hk, List.find?_cons, h]
  rfl

theorem pay_miss (gs : List (ByteArray × Int × Int)) (g : ByteArray) (k : Nat) (hk : k < gs.length) (h : ((gs.getD k (ByteArray.empty, 0, 0)).1.data.toList == g.data.toList) = false) : payOf (gs.drop k) g = payOf (gs.drop (k + 1)) g := by
  have e : gs.getD k (ByteArray.empty, 0, 0) = gs[k] := by simp [List.getD, hk]
  rw [e] at h
  unfold payOf
  rw [List.drop_eq_getElem_cons hk, List.find?_cons, h]

def PayEnd (R : Option (Int × Int)) (e : Ending) (w w' : World) : Prop :=
  ∃ p, e = .returned (.tuple #[.agg #[p, .int .i32 ((R.map Prod.snd).getD 0)], .bool R.isSome]) ∧ Below w.heap.size w w' ∧ DecVal w' p ((R.map Prod.fst).getD 0)

set_option maxHeartbeats 1000000 in
set_option maxRecDepth 100000 in
theorem pay_any (tb : Nat) (a : Option Addr) (n cap : Nat) (gs : List (ByteArray × Int × Int)) (g : ByteArray) (w : World) (hn : n ≤ 1048576) (hgn : gs.length = n) (ht : w.cell? ⟨tb, 0, none⟩ = some (.slice a n cap)) (hG : GradesAt w (.slice a n cap) gs) :
    Calls Try.prog 19 #[.pointer (some ⟨tb, 0, none⟩), .string g] w fun e w' => PayEnd (payOf gs g) e w w' := by
  obtain ⟨R, hR⟩ : ∃ R, payOf gs g = R := ⟨_, rfl⟩
  rw [hR]
  have HR : Hid (payOf (gs.drop 0) g = R) := hR
  have HG : Hid (∀ t, t < n → ∃ b o p, a = some ⟨b, o, none⟩ ∧ w.cell? ⟨b, o + t * 3, none⟩ = some (.string (gs.getD t (ByteArray.empty, 0, 0)).1) ∧
    w.cell? ⟨b, o + t * 3 + 1, none⟩ = some p ∧ w.cell? ⟨b, o + t * 3 + 2, none⟩ = some (.int .i32 (gs.getD t (ByteArray.empty, 0, 0)).2.2) ∧ DecVal w p (gs.getD t (ByteArray.empty, 0, 0)).2.1) := by
    obtain ⟨a', c', hv, hc⟩ := hG
    obtain ⟨rfl, rfl, _⟩ : a = a' ∧ n = gs.length ∧ cap = c' := by simpa using hv
    exact hc
  have HN : Hid (gs.length = n) := hgn
  clear hR hG hgn
  have htl : tb < w.heap.size := World.block_lt_of_cell? w _ ht
  obtain ⟨W0, hW0⟩ : ∃ W0, W0 = w.alloc (.cells #[.pointer none, .int .i32 0] 52) := ⟨_, rfl⟩
  have hb0 : Below w.heap.size w W0 := by rw [hW0]; exact (Below.refl _ _).alloc (Nat.le_refl _) _
  have hs0 : W0.heap.size = w.heap.size + 1 := by rw [hW0]; simp
  have q0 : W0.cell? ⟨w.heap.size, 0, none⟩ = some (.pointer none) := by rw [hW0]; simp
  have q1 : W0.cell? ⟨w.heap.size, 1, none⟩ = some (.int .i32 0) := by rw [hW0]; simp
  have q2 : W0.frozen? ⟨w.heap.size, 0, none⟩ = false := by rw [hW0]; simp
  have q3 : W0.frozen? ⟨w.heap.size, 1, none⟩ = false := by rw [hW0]; simp
  have HS0 : Hid (W0.heap.size = w.heap.size + 1) := hs0
  clear hs0
  go_enter Try.func19, Try.ntmps19
  go_wp2
  rw [← hW0]
  clear hW0
  go_loopw [13] (fun i wr => ∃ k : Nat, k ≤ n ∧ i = .int .i64 k ∧ Hid (payOf (gs.drop k) g = R) ∧ Below (w.heap.size + 1) W0 wr) (fun i _ => n - (intOf i).toNat)
  case atStart => exact ⟨0, Nat.zero_le _, rfl, HR, Below.refl _ _⟩
  case round =>
    obtain ⟨k, hk, rfl, HX, hb⟩ := hrel
    clear HR
    have r0 := (hb.cell (p := ⟨w.heap.size, 0, none⟩) (by show w.heap.size < _; omega)).trans q0
    have r1 := (hb.cell (p := ⟨w.heap.size, 1, none⟩) (by show w.heap.size < _; omega)).trans q1
    have r2 := (hb.frozen (p := ⟨w.heap.size, 0, none⟩) (by show w.heap.size < _; omega)).trans q2
    have r3 := (hb.frozen (p := ⟨w.heap.size, 1, none⟩) (by show w.heap.size < _; omega)).trans q3
    have hsz : w.heap.size < wr.heap.size := by have := hb.size; have := HS0.out; omega
    have hbw : Below w.heap.size w wr := hb0.trans (hb.mono (by omega))
    clear q0 q1 q2 q3
    by_cases hlt : k < n
    · obtain ⟨b, o, p, rfl, g0, g1, g2, hd⟩ := HG.out k hlt
      have hkl : k < gs.length := by rw [HN.out]; exact hlt
      have e0 := (hbw.cell (World.block_lt_of_cell? w _ g0)).trans g0
      have e1 := (hbw.cell (World.block_lt_of_cell? w _ g1)).trans g1
      have e2 := (hbw.cell (World.block_lt_of_cell? w _ g2)).trans g2
      obtain ⟨r, hr⟩ : ∃ r, r = gs.getD k (ByteArray.empty, 0, 0) := ⟨_, rfl⟩
      rw [← hr] at e0 e2 hd
      obtain ⟨q, rfl⟩ := hd.form
      have HD : Hid (DecVal w (.pointer q) r.2.1) := hd
      clear g0 g1 g2 hd
      cases hcmp : (r.1.data.toList == g.data.toList) with
      | true =>
        have hx := HX.out
        rw [pay_hit gs g k hkl (by rw [← hr]; exact hcmp), ← hr] at hx
        have hc2 : (r.1.toList == g.toList) = true := by rw [ByteArray.toList_eq, ByteArray.toList_eq]; exact hcmp
        have HXR : Hid (some r.2 = R) := hx
        clear hx HX hr hcmp hb
        have hbf : ∀ (O : Obj) (u v : Value), Below w.heap.size w (((wr.setCell ⟨w.heap.size, 0, none⟩ u).setCell ⟨w.heap.size, 1, none⟩ v).alloc O) := fun O u v => ((hbw.setCell (Nat.le_refl _) u).setCell (Nat.le_refl _) v).alloc (by simp [World.setCell]; omega) O
        obtain ⟨y0, y1⟩ := two_set_cells (u := .pointer q) (v := .int .i32 r.2.2) (.cells #[.string r.1, .pointer q, .int .i32 r.2.2] 57) r0 r1
        have HBF : Hid _ := hbf
        clear hbf
        go_wp2
        refine bodyPost_ret (v := .tuple #[.agg #[.pointer q, .int .i32 r.2.2], .bool true]) (by simp [results, Try.results19, go_sem, y0, y1]) rfl ?_
        rw [← HXR.out]
        exact ⟨.pointer q, rfl, HBF.out _ _ _, HD.out.later (HBF.out _ _ _)⟩
      | false =>
        have hx := HX.out
        rw [pay_miss gs g k hkl (by rw [← hr]; exact hcmp)] at hx
        have hc2 : (r.1.toList == g.toList) = false := by rw [ByteArray.toList_eq, ByteArray.toList_eq]; exact hcmp
        have HXR : Hid (payOf (gs.drop (k + 1)) g = R) := hx
        clear hx HX hr hcmp
        go_wp2
        go_roundw
        case rel => exact ⟨k + 1, by omega, by go_num, HXR, hb.alloc (by omega) _⟩
        case measure => simp [intOf]; omega
    · have hx : R = none := by
        rw [← HX.out, List.drop_eq_nil_of_le (by rw [HN.out]; omega)]
        rfl
      subst hx
      have hbf : Below w.heap.size w ((wr.setCell ⟨w.heap.size, 0, none⟩ (.pointer none)).setCell ⟨w.heap.size, 1, none⟩ (.int .i32 0)) := (hbw.setCell (Nat.le_refl _) _).setCell (Nat.le_refl _) _
      have HBF : Hid _ := hbf
      clear hbf
      go_wp2
      refine bodyPost_ret (v := .tuple #[.agg #[.pointer none, .int .i32 0], .bool false]) (by simp [results, Try.results19, go_sem, r0, r1]) rfl ?_
      exact ⟨.pointer none, rfl, HBF.out, .inl ⟨rfl, rfl⟩⟩

def GradeEnd (R : Option (Int × Int)) (e : Ending) (w w' : World) : Prop :=
  e = .returned (.tuple #[.int .i64 ((R.map Prod.fst).getD 0), .int .i32 ((R.map Prod.snd).getD 0), .bool R.isSome]) ∧ Below w.heap.size w w'

theorem payOf_range (gs : List (ByteArray × Int × Int)) (g : ByteArray) (h : ∀ r ∈ gs, -9223372036854775808 ≤ r.2.1 ∧ r.2.1 ≤ 9223372036854775807) :
    -9223372036854775808 ≤ ((payOf gs g).map Prod.fst).getD 0 ∧ ((payOf gs g).map Prod.fst).getD 0 ≤ 9223372036854775807 := by
  unfold payOf
  cases hf : gs.find? (fun r => r.1.data.toList == g.data.toList) with
  | none => simp
  | some r => exact h r (List.mem_of_find?_eq_some hf)

set_option maxHeartbeats 1000000 in
theorem grade_any (tb : Nat) (a : Option Addr) (n cap : Nat) (gs : List (ByteArray × Int × Int)) (g : ByteArray) (w : World) (hn : n ≤ 1048576) (hgn : gs.length = n) (hr : ∀ r ∈ gs, -9223372036854775808 ≤ r.2.1 ∧ r.2.1 ≤ 9223372036854775807)
    (ht : w.cell? ⟨tb, 0, none⟩ = some (.slice a n cap)) (hG : GradesAt w (.slice a n cap) gs) :
    Calls Try.prog 9 #[.pointer (some ⟨tb, 0, none⟩), .string g] w fun e w' => GradeEnd (payOf gs g) e w w' := by
  have HR := payOf_range gs g hr
  have hcall := pay_any tb a n cap gs g w hn hgn ht hG
  generalize payOf gs g = R at hcall HR ⊢
  have HC : Hid (Calls Try.prog 19 #[.pointer (some ⟨tb, 0, none⟩), .string g] w fun e w' => PayEnd R e w w') := hcall
  have HRR : Hid _ := HR
  clear hcall HR hG ht hr
  go_enter Try.func9, Try.ntmps9
  go_wp2_with fail
  refine HC.out.mono ?_
  rintro e w1 ⟨p, rfl, hb1, hd⟩
  obtain ⟨q, rfl⟩ := hd.form
  obtain ⟨x, hx⟩ : ∃ x, x = (R.map Prod.snd).getD 0 := ⟨_, rfl⟩
  obtain ⟨c, hc⟩ : ∃ c, c = (R.map Prod.fst).getD 0 := ⟨_, rfl⟩
  rw [← hx]
  rw [← hc] at hd
  have HD : Hid (DecVal w1 (.pointer q) c) := hd
  have HCR : Hid (-9223372036854775808 ≤ c ∧ c ≤ 9223372036854775807) := by rw [hc]; exact HRR.out
  have HE : Hid (c = (R.map Prod.fst).getD 0 ∧ x = (R.map Prod.snd).getD 0) := ⟨hc, hx⟩
  clear HC hd hx hc HRR
  go_wp2_with fail
  refine (parts_any (.pointer q) c x _ HCR.out (HD.out.later ((Below.refl _ _).alloc (Nat.le_refl _) _))).mono ?_
  rintro e w2 ⟨rfl, hb2⟩
  have hf : Below w.heap.size w w2 := below_after (below_after hb1 ((Below.refl _ _).alloc (Nat.le_refl _) _)) hb2
  clear hb1 hb2
  go_wp2_with fail
  go_ret3
  have hg : GradeEnd R (.returned (.tuple #[.int .i64 c, .int .i32 x, .bool R.isSome])) w w2 := ⟨by rw [HE.out.1, HE.out.2], hf⟩
  exact hg

end Go.Proofs.Qxb6616127a
