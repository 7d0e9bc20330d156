/-
  FnEchoInvokeRoundTripAndArgumentCount: the walk.
-/
import Derived.Test.Qxb6616130aFmtTotal
namespace Go.Proofs.Qxb6616130aFmt
open Go.RowKit Go.Extern.Stop Go.Stop Go.Extern

/-- The block B holds the two values u, v. -/
def Two (w : World) (B : Nat) (u v : Value) : Prop := w.cell? ⟨B, 0, none⟩ = some u ∧ w.cell? ⟨B, 1, none⟩ = some v

theorem Two.later {w w' : World} {B : Nat} {u v : Value} (h : Two w B u v) (hb : Below w.heap.size w w') : Two w' B u v :=
  ⟨(hb.cell (World.block_lt_of_cell? w _ h.1)).trans h.1, (hb.cell (World.block_lt_of_cell? w _ h.2)).trans h.2⟩

theorem Two.lt {w : World} {B : Nat} {u v : Value} (h : Two w B u v) : B < w.heap.size := World.block_lt_of_cell? w _ h.1

/-- The world at a call, named. -/
theorem calls_named {P : Program} {f : FuncId} {args : Array Value} {w : World} {Q : Ending → World → Prop} (h : ∀ W, W = w → Calls P f args W Q) : Calls P f args w Q := h w rfl

theorem answers_later {F : Interp} {w w' : World} (h : F.answers w.tape) (hb : Below w.heap.size w w') : F.answers w'.tape := by rw [hb.tape]; exact h

set_option maxRecDepth 1000000 in
set_option maxHeartbeats 8000000 in
theorem main_any (F : Interp) (x0 x1 u0 u1 : Option Addr) (n0 c0 n1 c1 m0 e0 m1 e1 : Nat) (zs us ps qs : List Int) (w : World) (hF : F.answers w.tape)
    (h0 : n0 ≤ maxLen) (h1 : n1 ≤ maxLen) (h2 : m0 ≤ maxLen) (h3 : m1 ≤ maxLen)
    (hx0 : BytesAt w (.slice x0 n0 c0) zs) (hx1 : BytesAt w (.slice x1 n1 c1) us) (hu0 : BytesAt w (.slice u0 m0 e0) ps) (hu1 : BytesAt w (.slice u1 m1 e1) qs) :
    Calls Tryf.prog 3 #[.agg #[.slice x0 n0 c0, .slice x1 n1 c1], .agg #[.slice u0 m0 e0, .slice u1 m1 e1]] w fun e w' => e = .returned (.bool true) ∧ Below w.heap.size w w' := by
  have HF : Hid (F.answers w.tape) := hF
  have A0 : Hid (BytesAt w (.slice x0 n0 c0) zs) := hx0
  have A1 : Hid (BytesAt w (.slice x1 n1 c1) us) := hx1
  have A2 : Hid (BytesAt w (.slice u0 m0 e0) ps) := hu0
  have A3 : Hid (BytesAt w (.slice u1 m1 e1) qs) := hu1
  have hl0 : zs.length = n0 := hx0.form.1.symm
  have hl1 : us.length = n1 := hx1.form.1.symm
  have hl2 : ps.length = m0 := hu0.form.1.symm
  have hl3 : qs.length = m1 := hu1.form.1.symm
  clear hF hx0 hx1 hu0 hu1
  go_enter Tryf.func3, Tryf.ntmps3
  go_wp2_with fail
  refine calls_named ?_
  intro W1 hW1
  have B0 : Hid (Below w.heap.size w W1) := by rw [hW1]; exact ((Below.refl _ _).alloc (Nat.le_refl _) _).alloc (by simp) _
  obtain ⟨S0, hS0⟩ : ∃ S0, S0 = w.heap.size := ⟨_, rfl⟩
  obtain ⟨S1, hS1⟩ : ∃ S1, S1 = w.heap.size + 1 := ⟨_, rfl⟩
  have T0 : Hid (Two W1 S0 (.slice x0 n0 c0) (.slice x1 n1 c1)) := by rw [hW1, hS0]; exact ⟨by go_simp, by go_simp⟩
  have T1 : Hid (Two W1 S1 (.slice u0 m0 e0) (.slice u1 m1 e1)) := by rw [hW1, hS1]; exact ⟨by go_simp, by go_simp⟩
  clear hW1
  refine (total_any x0 x1 u0 u1 n0 c0 n1 c1 m0 e0 m1 e1 W1 h0 h1 h2 h3).mono ?_
  rintro e wA ⟨B, rfl, hb⟩
  have B0' : Hid (Below w.heap.size w wA) := below_after B0.out hb
  have T0' : Hid (Two wA S0 (.slice x0 n0 c0) (.slice x1 n1 c1)) := T0.out.later hb
  have T1' : Hid (Two wA S1 (.slice u0 m0 e0) (.slice u1 m1 e1)) := T1.out.later hb
  clear hb B0 T0 T1
  rw [← hS1, ← hS0]
  clear hS0 hS1
  unfold maxLen at h0 h1 h2 h3
  cases B with
  | false =>
    go_wp2_with fail
    go_ret
    exact ⟨rfl, B0'.out⟩
  | true =>
    obtain ⟨s00, s01⟩ := T0'.out
    obtain ⟨s10, s11⟩ := T1'.out
    by_cases k0 : 262144 < n0
    · go_wp2_with fail
      go_ret
      exact ⟨rfl, B0'.out⟩
    by_cases k1 : 262144 < n1
    · go_wp2_with fail
      go_ret
      exact ⟨rfl, B0'.out⟩
    by_cases k2 : 262144 < m0
    · go_wp2_with fail
      go_ret
      exact ⟨rfl, B0'.out⟩
    by_cases k3 : 262144 < m1
    · go_wp2_with fail
      go_ret
      exact ⟨rfl, B0'.out⟩
    clear h0 h1 h2 h3
    go_wp2_with fail
    clear s00 s01 s10 s11
    refine (valueOf_any x0 x1 n0 c0 n1 c1 zs us wA (by omega) (by omega) (A0.out.later B0'.out) (A1.out.later B0'.out)).mono ?_
    rintro e wB ⟨y0, y1, d0, d1, rfl, en0, en1, hbB, gy0, gy1⟩
    have C1 : Hid (Below w.heap.size w wB) := below_after B0'.out hbB
    have T0_1 : Hid (Two wB S0 (.slice x0 n0 c0) (.slice x1 n1 c1)) := Two.later T0'.out hbB
    have T1_1 : Hid (Two wB S1 (.slice u0 m0 e0) (.slice u1 m1 e1)) := Two.later T1'.out hbB
    clear B0' T0' T1' hbB
    rw [hl0, hl1]
    rw [hl0] at gy0
    rw [hl1] at gy1
    have Y0 : Hid (BytesAt wB (.slice y0 n0 d0) zs) := gy0
    have Y1 : Hid (BytesAt wB (.slice y1 n1 d1) us) := gy1
    clear gy0 gy1
    obtain ⟨oT10, oT11⟩ := T1_1.out
    have lT1 : S1 < wB.heap.size := T1_1.out.lt
    have aT1 : S1 ≠ wB.heap.size := by omega
    have bT1 : S1 ≠ wB.heap.size + 1 := by omega
    go_wp2_with fail
    refine calls_named ?_
    intro W2 hW2
    have hbW2 : Below wB.heap.size wB W2 := by
      rw [hW2]
      repeat' (first | exact Below.refl _ _ | refine Below.drew ?_ | refine Below.setCell ?_ (by simp) _ | refine Below.alloc ?_ (by simp) _)
    obtain ⟨V, hV⟩ : ∃ V, V = wB.heap.size := ⟨_, rfl⟩
    have T2 : Hid (Two W2 V (.slice y0 n0 d0) (.slice y1 n1 d1)) := by rw [hW2, hV]; exact ⟨by go_simp, by go_simp⟩
    clear hW2 oT10 oT11 lT1 aT1 bT1
    have C2 : Hid (Below w.heap.size w W2) := below_after C1.out hbW2
    have T0_2 : Hid (Two W2 S0 (.slice x0 n0 c0) (.slice x1 n1 c1)) := Two.later T0_1.out hbW2
    have T1_2 : Hid (Two W2 S1 (.slice u0 m0 e0) (.slice u1 m1 e1)) := Two.later T1_1.out hbW2
    have Y0_2 : Hid (BytesAt W2 (.slice y0 n0 d0) zs) := BytesAt.later Y0.out hbW2
    have Y1_2 : Hid (BytesAt W2 (.slice y1 n1 d1) us) := BytesAt.later Y1.out hbW2
    clear C1 T0_1 T1_1 Y0 Y1 hbW2
    rw [← hV]
    clear hV
    refine (valueOf_any u0 u1 m0 e0 m1 e1 ps qs W2 (by omega) (by omega) (A2.out.later C2.out) (A3.out.later C2.out)).mono ?_
    rintro e wC ⟨p0, p1, f0, f1, rfl, _, _, hbC, _, _⟩
    have C3 : Hid (Below w.heap.size w wC) := below_after C2.out hbC
    have T0_3 : Hid (Two wC S0 (.slice x0 n0 c0) (.slice x1 n1 c1)) := Two.later T0_2.out hbC
    have T1_3 : Hid (Two wC S1 (.slice u0 m0 e0) (.slice u1 m1 e1)) := Two.later T1_2.out hbC
    have T2_3 : Hid (Two wC V (.slice y0 n0 d0) (.slice y1 n1 d1)) := Two.later T2.out hbC
    have Y0_3 : Hid (BytesAt wC (.slice y0 n0 d0) zs) := BytesAt.later Y0_2.out hbC
    have Y1_3 : Hid (BytesAt wC (.slice y1 n1 d1) us) := BytesAt.later Y1_2.out hbC
    clear C2 T0_2 T1_2 T2 Y0_2 Y1_2 hbC
    rw [hl2, hl3]
    obtain ⟨oT20, oT21⟩ := T2_3.out
    have lT2 : V < wC.heap.size := T2_3.out.lt
    have aT2 : V ≠ wC.heap.size := by omega
    have bT2 : V ≠ wC.heap.size + 1 := by omega
    go_wp2_with fail
    refine calls_named ?_
    intro W3 hW3
    have hbW3 : Below wC.heap.size wC W3 := by
      rw [hW3]
      repeat' (first | exact Below.refl _ _ | refine Below.drew ?_ | refine Below.setCell ?_ (by simp) _ | refine Below.alloc ?_ (by simp) _)
    obtain ⟨U, hU⟩ : ∃ U, U = wC.heap.size := ⟨_, rfl⟩
    have T3 : Hid (Two W3 U (.slice p0 m0 f0) (.slice p1 m1 f1)) := by rw [hW3, hU]; exact ⟨by go_simp, by go_simp⟩
    obtain ⟨G3, hG3⟩ : ∃ G3, G3 = wC.heap.size + 1 := ⟨_, rfl⟩
    have K3 : Hid (Two W3 G3 (.slice y0 n0 d0) (.slice y1 n1 d1)) := by rw [hW3, hG3]; exact ⟨by go_simp, by go_simp⟩
    clear hW3 oT20 oT21 lT2 aT2 bT2
    have C4 : Hid (Below w.heap.size w W3) := below_after C3.out hbW3
    have T0_4 : Hid (Two W3 S0 (.slice x0 n0 c0) (.slice x1 n1 c1)) := Two.later T0_3.out hbW3
    have T1_4 : Hid (Two W3 S1 (.slice u0 m0 e0) (.slice u1 m1 e1)) := Two.later T1_3.out hbW3
    have T2_4 : Hid (Two W3 V (.slice y0 n0 d0) (.slice y1 n1 d1)) := Two.later T2_3.out hbW3
    have Y0_4 : Hid (BytesAt W3 (.slice y0 n0 d0) zs) := BytesAt.later Y0_3.out hbW3
    have Y1_4 : Hid (BytesAt W3 (.slice y1 n1 d1) us) := BytesAt.later Y1_3.out hbW3
    clear C3 T0_3 T1_3 T2_3 Y0_3 Y1_3 hbW3
    rw [← hG3, ← hU]
    clear hU hG3
    refine (echo_one G3 1 y0 y1 n0 d0 n1 d1 W3 K3.out.1 K3.out.2).mono ?_
    rintro e wD ⟨rfl, hbD⟩
    clear K3
    clear T1_4
    have C5 : Hid (Below w.heap.size w wD) := below_after C4.out hbD
    have T0_5 : Hid (Two wD S0 (.slice x0 n0 c0) (.slice x1 n1 c1)) := Two.later T0_4.out hbD
    have T2_5 : Hid (Two wD V (.slice y0 n0 d0) (.slice y1 n1 d1)) := Two.later T2_4.out hbD
    have T3_5 : Hid (Two wD U (.slice p0 m0 f0) (.slice p1 m1 f1)) := Two.later T3.out hbD
    have Y0_5 : Hid (BytesAt wD (.slice y0 n0 d0) zs) := BytesAt.later Y0_4.out hbD
    have Y1_5 : Hid (BytesAt wD (.slice y1 n1 d1) us) := BytesAt.later Y1_4.out hbD
    clear C4 T0_4 T2_4 T3 Y0_4 Y1_4 hbD
    go_wp2_with fail
    refine calls_named ?_
    intro W4 hW4
    have hbW4 : Below wD.heap.size wD W4 := by
      rw [hW4]
      repeat' (first | exact Below.refl _ _ | refine Below.drew ?_ | refine Below.setCell ?_ (by simp) _ | refine Below.alloc ?_ (by simp) _)
    obtain ⟨X1, hX1⟩ : ∃ X1, X1 = wD.heap.size := ⟨_, rfl⟩
    have T4 : Hid (Two W4 X1 (.slice y0 n0 d0) (.slice y1 n1 d1)) := by rw [hW4, hX1]; exact ⟨by go_simp, by go_simp⟩
    obtain ⟨G4, hG4⟩ : ∃ G4, G4 = wD.heap.size + 1 := ⟨_, rfl⟩
    have K4 : Hid (Two W4 G4 (.slice y0 n0 d0) (.slice y1 n1 d1)) := by rw [hW4, hG4]; exact ⟨by go_simp, by go_simp⟩
    clear hW4 
    have C6 : Hid (Below w.heap.size w W4) := below_after C5.out hbW4
    have T0_6 : Hid (Two W4 S0 (.slice x0 n0 c0) (.slice x1 n1 c1)) := Two.later T0_5.out hbW4
    have T2_6 : Hid (Two W4 V (.slice y0 n0 d0) (.slice y1 n1 d1)) := Two.later T2_5.out hbW4
    have T3_6 : Hid (Two W4 U (.slice p0 m0 f0) (.slice p1 m1 f1)) := Two.later T3_5.out hbW4
    have Y0_6 : Hid (BytesAt W4 (.slice y0 n0 d0) zs) := BytesAt.later Y0_5.out hbW4
    have Y1_6 : Hid (BytesAt W4 (.slice y1 n1 d1) us) := BytesAt.later Y1_5.out hbW4
    clear C5 T0_5 T2_5 T3_5 Y0_5 Y1_5 hbW4
    rw [← hG4, ← hX1]
    clear hX1 hG4
    refine (echo_one G4 1 y0 y1 n0 d0 n1 d1 W4 K4.out.1 K4.out.2).mono ?_
    rintro e wE ⟨rfl, hbE⟩
    clear K4
    have C7 : Hid (Below w.heap.size w wE) := below_after C6.out hbE
    have T0_7 : Hid (Two wE S0 (.slice x0 n0 c0) (.slice x1 n1 c1)) := Two.later T0_6.out hbE
    have T2_7 : Hid (Two wE V (.slice y0 n0 d0) (.slice y1 n1 d1)) := Two.later T2_6.out hbE
    have T3_7 : Hid (Two wE U (.slice p0 m0 f0) (.slice p1 m1 f1)) := Two.later T3_6.out hbE
    have T4_7 : Hid (Two wE X1 (.slice y0 n0 d0) (.slice y1 n1 d1)) := Two.later T4.out hbE
    have Y0_7 : Hid (BytesAt wE (.slice y0 n0 d0) zs) := BytesAt.later Y0_6.out hbE
    have Y1_7 : Hid (BytesAt wE (.slice y1 n1 d1) us) := BytesAt.later Y1_6.out hbE
    clear C6 T0_6 T2_6 T3_6 T4 Y0_6 Y1_6 hbE
    obtain ⟨oT20, oT21⟩ := T2_7.out
    have lT2 : V < wE.heap.size := T2_7.out.lt
    have aT2 : V ≠ wE.heap.size := by omega
    have bT2 : V ≠ wE.heap.size + 1 := by omega
    obtain ⟨oT30, oT31⟩ := T3_7.out
    have lT3 : U < wE.heap.size := T3_7.out.lt
    have aT3 : U ≠ wE.heap.size := by omega
    have bT3 : U ≠ wE.heap.size + 1 := by omega
    go_wp2_with fail
    refine calls_named ?_
    intro W5 hW5
    have hbW5 : Below wE.heap.size wE W5 := by
      rw [hW5]
      repeat' (first | exact Below.refl _ _ | refine Below.drew ?_ | refine Below.setCell ?_ (by simp) _ | refine Below.alloc ?_ (by simp) _)
    obtain ⟨X2, hX2⟩ : ∃ X2, X2 = wE.heap.size := ⟨_, rfl⟩
    have T5 : Hid (Two W5 X2 (.slice y0 n0 d0) (.slice y1 n1 d1)) := by rw [hW5, hX2]; exact ⟨by go_simp, by go_simp⟩
    clear hW5 oT20 oT21 lT2 aT2 bT2 oT30 oT31 lT3 aT3 bT3
    have C8 : Hid (Below w.heap.size w W5) := below_after C7.out hbW5
    have T0_8 : Hid (Two W5 S0 (.slice x0 n0 c0) (.slice x1 n1 c1)) := Two.later T0_7.out hbW5
    have T2_8 : Hid (Two W5 V (.slice y0 n0 d0) (.slice y1 n1 d1)) := Two.later T2_7.out hbW5
    have T3_8 : Hid (Two W5 U (.slice p0 m0 f0) (.slice p1 m1 f1)) := Two.later T3_7.out hbW5
    have T4_8 : Hid (Two W5 X1 (.slice y0 n0 d0) (.slice y1 n1 d1)) := Two.later T4_7.out hbW5
    have Y0_8 : Hid (BytesAt W5 (.slice y0 n0 d0) zs) := BytesAt.later Y0_7.out hbW5
    have Y1_8 : Hid (BytesAt W5 (.slice y1 n1 d1) us) := BytesAt.later Y1_7.out hbW5
    clear C7 T0_7 T2_7 T3_7 T4_7 Y0_7 Y1_7 hbW5
    rw [← hX2]
    clear hX2
    refine (echo_bad F _ 2 2 W5 (answers_later HF.out C8.out) (by omega)).mono ?_
    rintro e wF ⟨bq, rfl, hbF⟩
    clear T2_8
    clear T3_8
    have C9 : Hid (Below w.heap.size w wF) := below_after C8.out hbF
    have T0_9 : Hid (Two wF S0 (.slice x0 n0 c0) (.slice x1 n1 c1)) := Two.later T0_8.out hbF
    have T4_9 : Hid (Two wF X1 (.slice y0 n0 d0) (.slice y1 n1 d1)) := Two.later T4_8.out hbF
    have T5_9 : Hid (Two wF X2 (.slice y0 n0 d0) (.slice y1 n1 d1)) := Two.later T5.out hbF
    have Y0_9 : Hid (BytesAt wF (.slice y0 n0 d0) zs) := BytesAt.later Y0_8.out hbF
    have Y1_9 : Hid (BytesAt wF (.slice y1 n1 d1) us) := BytesAt.later Y1_8.out hbF
    clear C8 T0_8 T4_8 T5 Y0_8 Y1_8 hbF
    go_wp2_with fail
    refine calls_named ?_
    intro W6 hW6
    have hbW6 : Below wF.heap.size wF W6 := by
      rw [hW6]
      repeat' (first | exact Below.refl _ _ | refine Below.drew ?_ | refine Below.setCell ?_ (by simp) _ | refine Below.alloc ?_ (by simp) _)
    obtain ⟨X3, hX3⟩ : ∃ X3, X3 = wF.heap.size := ⟨_, rfl⟩
    have T6 : Hid (Two W6 X3 (.slice none 0 0) (.slice none 0 0)) := by rw [hW6, hX3]; exact ⟨by go_simp, by go_simp⟩
    clear hW6 
    have C10 : Hid (Below w.heap.size w W6) := below_after C9.out hbW6
    have T0_10 : Hid (Two W6 S0 (.slice x0 n0 c0) (.slice x1 n1 c1)) := Two.later T0_9.out hbW6
    have T4_10 : Hid (Two W6 X1 (.slice y0 n0 d0) (.slice y1 n1 d1)) := Two.later T4_9.out hbW6
    have T5_10 : Hid (Two W6 X2 (.slice y0 n0 d0) (.slice y1 n1 d1)) := Two.later T5_9.out hbW6
    have Y0_10 : Hid (BytesAt W6 (.slice y0 n0 d0) zs) := BytesAt.later Y0_9.out hbW6
    have Y1_10 : Hid (BytesAt W6 (.slice y1 n1 d1) us) := BytesAt.later Y1_9.out hbW6
    clear C9 T0_9 T4_9 T5_9 Y0_9 Y1_9 hbW6
    rw [← hX3]
    clear hX3
    refine (echo_bad F none 0 0 W6 (answers_later HF.out C10.out) (by omega)).mono ?_
    rintro e wG ⟨br, rfl, hbG⟩
    have C11 : Hid (Below w.heap.size w wG) := below_after C10.out hbG
    have T0_11 : Hid (Two wG S0 (.slice x0 n0 c0) (.slice x1 n1 c1)) := Two.later T0_10.out hbG
    have T4_11 : Hid (Two wG X1 (.slice y0 n0 d0) (.slice y1 n1 d1)) := Two.later T4_10.out hbG
    have T5_11 : Hid (Two wG X2 (.slice y0 n0 d0) (.slice y1 n1 d1)) := Two.later T5_10.out hbG
    have T6_11 : Hid (Two wG X3 (.slice none 0 0) (.slice none 0 0)) := Two.later T6.out hbG
    have Y0_11 : Hid (BytesAt wG (.slice y0 n0 d0) zs) := BytesAt.later Y0_10.out hbG
    have Y1_11 : Hid (BytesAt wG (.slice y1 n1 d1) us) := BytesAt.later Y1_10.out hbG
    clear C10 T0_10 T4_10 T5_10 T6 Y0_10 Y1_10 hbG
    obtain ⟨oT40, oT41⟩ := T4_11.out
    have lT4 : X1 < wG.heap.size := T4_11.out.lt
    have aT4 : X1 ≠ wG.heap.size := by omega
    have bT4 : X1 ≠ wG.heap.size + 1 := by omega
    obtain ⟨oT00, oT01⟩ := T0_11.out
    have lT0 : S0 < wG.heap.size := T0_11.out.lt
    have aT0 : S0 ≠ wG.heap.size := by omega
    have bT0 : S0 ≠ wG.heap.size + 1 := by omega
    go_wp2_with fail
    refine calls_named ?_
    intro W7 hW7
    have hbW7 : Below wG.heap.size wG W7 := by
      rw [hW7]
      repeat' (first | exact Below.refl _ _ | refine Below.drew ?_ | refine Below.setCell ?_ (by simp) _ | refine Below.alloc ?_ (by simp) _)
    obtain ⟨X4, hX4⟩ : ∃ X4, X4 = wG.heap.size := ⟨_, rfl⟩
    have T7 : Hid (Two W7 X4 (.slice none 0 0) (.slice none 0 0)) := by rw [hW7, hX4]; exact ⟨by go_simp, by go_simp⟩
    clear hW7 oT40 oT41 lT4 aT4 bT4 oT00 oT01 lT0 aT0 bT0
    have C12 : Hid (Below w.heap.size w W7) := below_after C11.out hbW7
    have T0_12 : Hid (Two W7 S0 (.slice x0 n0 c0) (.slice x1 n1 c1)) := Two.later T0_11.out hbW7
    have T4_12 : Hid (Two W7 X1 (.slice y0 n0 d0) (.slice y1 n1 d1)) := Two.later T4_11.out hbW7
    have T5_12 : Hid (Two W7 X2 (.slice y0 n0 d0) (.slice y1 n1 d1)) := Two.later T5_11.out hbW7
    have T6_12 : Hid (Two W7 X3 (.slice none 0 0) (.slice none 0 0)) := Two.later T6_11.out hbW7
    have Y0_12 : Hid (BytesAt W7 (.slice y0 n0 d0) zs) := BytesAt.later Y0_11.out hbW7
    have Y1_12 : Hid (BytesAt W7 (.slice y1 n1 d1) us) := BytesAt.later Y1_11.out hbW7
    clear C11 T0_11 T4_11 T5_11 T6_11 Y0_11 Y1_11 hbW7
    rw [← hX4]
    clear hX4
    refine (isValue_any y0 y1 x0 x1 n0 d0 n1 d1 c0 c1 zs us W7 (by omega) (by omega) en0 en1 Y0_12.out Y1_12.out (A0.out.later C12.out) (A1.out.later C12.out)).mono ?_
    rintro e wH ⟨rfl, hbH⟩
    clear T4_12
    have C13 : Hid (Below w.heap.size w wH) := below_after C12.out hbH
    have T0_13 : Hid (Two wH S0 (.slice x0 n0 c0) (.slice x1 n1 c1)) := Two.later T0_12.out hbH
    have T5_13 : Hid (Two wH X2 (.slice y0 n0 d0) (.slice y1 n1 d1)) := Two.later T5_12.out hbH
    have T6_13 : Hid (Two wH X3 (.slice none 0 0) (.slice none 0 0)) := Two.later T6_12.out hbH
    have T7_13 : Hid (Two wH X4 (.slice none 0 0) (.slice none 0 0)) := Two.later T7.out hbH
    have Y0_13 : Hid (BytesAt wH (.slice y0 n0 d0) zs) := BytesAt.later Y0_12.out hbH
    have Y1_13 : Hid (BytesAt wH (.slice y1 n1 d1) us) := BytesAt.later Y1_12.out hbH
    clear C12 T0_12 T5_12 T6_12 T7 Y0_12 Y1_12 hbH
    obtain ⟨oT50, oT51⟩ := T5_13.out
    have lT5 : X2 < wH.heap.size := T5_13.out.lt
    have aT5 : X2 ≠ wH.heap.size := by omega
    have bT5 : X2 ≠ wH.heap.size + 1 := by omega
    obtain ⟨oT00, oT01⟩ := T0_13.out
    have lT0 : S0 < wH.heap.size := T0_13.out.lt
    have aT0 : S0 ≠ wH.heap.size := by omega
    have bT0 : S0 ≠ wH.heap.size + 1 := by omega
    go_wp2_with fail
    refine (isValue_any y0 y1 x0 x1 n0 d0 n1 d1 c0 c1 zs us wH (by omega) (by omega) en0 en1 Y0_13.out Y1_13.out (A0.out.later C13.out) (A1.out.later C13.out)).mono ?_
    rintro e wI ⟨rfl, hbI⟩
    clear oT50 oT51 lT5 aT5 bT5 oT00 oT01 lT0 aT0 bT0
    clear T5_13
    clear T0_13
    have C14 : Hid (Below w.heap.size w wI) := below_after C13.out hbI
    have T6_14 : Hid (Two wI X3 (.slice none 0 0) (.slice none 0 0)) := Two.later T6_13.out hbI
    have T7_14 : Hid (Two wI X4 (.slice none 0 0) (.slice none 0 0)) := Two.later T7_13.out hbI
    have Y0_14 : Hid (BytesAt wI (.slice y0 n0 d0) zs) := BytesAt.later Y0_13.out hbI
    have Y1_14 : Hid (BytesAt wI (.slice y1 n1 d1) us) := BytesAt.later Y1_13.out hbI
    clear C13 T6_13 T7_13 Y0_13 Y1_13 hbI
    obtain ⟨oT60, oT61⟩ := T6_14.out
    have lT6 : X3 < wI.heap.size := T6_14.out.lt
    have aT6 : X3 ≠ wI.heap.size := by omega
    have bT6 : X3 ≠ wI.heap.size + 1 := by omega
    go_wp2_with fail
    refine (isZero_any wI).mono ?_
    rintro e wJ ⟨rfl, hbJ⟩
    clear oT60 oT61 lT6 aT6 bT6
    clear T6_14
    have C15 : Hid (Below w.heap.size w wJ) := below_after C14.out hbJ
    have T7_15 : Hid (Two wJ X4 (.slice none 0 0) (.slice none 0 0)) := Two.later T7_14.out hbJ
    have Y0_15 : Hid (BytesAt wJ (.slice y0 n0 d0) zs) := BytesAt.later Y0_14.out hbJ
    have Y1_15 : Hid (BytesAt wJ (.slice y1 n1 d1) us) := BytesAt.later Y1_14.out hbJ
    clear C14 T7_14 Y0_14 Y1_14 hbJ
    obtain ⟨oT70, oT71⟩ := T7_15.out
    have lT7 : X4 < wJ.heap.size := T7_15.out.lt
    have aT7 : X4 ≠ wJ.heap.size := by omega
    have bT7 : X4 ≠ wJ.heap.size + 1 := by omega
    go_wp2_with fail
    refine (isZero_any wJ).mono ?_
    rintro e wK ⟨rfl, hbK⟩
    clear oT70 oT71 lT7 aT7 bT7
    have C16 : Hid (Below w.heap.size w wK) := below_after C15.out hbK
    have T7_16 : Hid (Two wK X4 (.slice none 0 0) (.slice none 0 0)) := Two.later T7_15.out hbK
    have Y0_16 : Hid (BytesAt wK (.slice y0 n0 d0) zs) := BytesAt.later Y0_15.out hbK
    have Y1_16 : Hid (BytesAt wK (.slice y1 n1 d1) us) := BytesAt.later Y1_15.out hbK
    clear C15 T7_15 Y0_15 Y1_15 hbK
    go_wp2_with fail
    go_ret
    exact ⟨rfl, C16.out⟩

end Go.Proofs.Qxb6616130aFmt
