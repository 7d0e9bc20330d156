/-
  FnIsSpaceEndsQuotedWord: the walk.
-/
import Derived.Test.Qxb6616016aSame
import Derived.Test.Qxb6616016aThen
namespace Go.Proofs.Qxb6616016a
open Go.RowKit

theorem WordsAt.later {w w' : World} {V : Value} {ws : List (List Int)} (h : WordsAt w V ws) (hb : Below w.heap.size w w') : WordsAt w' V ws := by
  obtain ⟨a, cap, hv, hc⟩ := h
  refine ⟨a, cap, hv, fun t ht => ?_⟩
  obtain ⟨b, o, x, ha, hcell, hx⟩ := hc t ht
  exact ⟨b, o, x, ha, (hb.cell (World.block_lt_of_cell? w _ hcell)).trans hcell, hx.later hb⟩

def wantW (ws vs : List Int) : List (List Int) := ws :: (if vs = [] then [] else [vs])

theorem wantW_len (ws vs : List Int) : (wantW ws vs).length ≤ 1048576 := by unfold wantW; split <;> simp
theorem wantW_at (ws vs : List Int) (h1 : ws.length ≤ 65536) (h2 : vs.length ≤ 65536) : ∀ k, k < (wantW ws vs).length → ((wantW ws vs).getD k []).length ≤ 1048576 := by
  intro k hk
  unfold wantW at hk ⊢
  split at hk
  · rename_i h0
    rw [if_pos h0]
    match k, hk with
    | 0, _ => show ws.length ≤ _; omega
  · rename_i h0
    rw [if_neg h0]
    match k, hk with
    | 0, _ => show ws.length ≤ _; omega
    | 1, _ => show vs.length ≤ _; omega

theorem two_big (c : Int) (a b : Option Addr) (n ca m cb : Nat) (w : World) (hn : n ≤ 9223372036854775807) (hm : m ≤ 9223372036854775807) (h : 65536 < n ∨ 65536 < m) :
    Calls Try.prog 3 #[.int .u8 c, .slice a n ca, .slice b m cb] w fun e w' => e = .returned (.bool true) ∧ Below w.heap.size w w' := by
  by_cases h1 : 1048576 < n
  · go_enter Try.func3, Try.ntmps3
    go_wp2
    go_ret
    exact ⟨rfl, Below.refl _ _⟩
  · by_cases h2 : 1048576 < m
    · go_enter Try.func3, Try.ntmps3
      go_wp2
      go_ret
      exact ⟨rfl, Below.refl _ _⟩
    · by_cases h3 : 1048576 < n + m
      · have h3' : (1048576 : Int) < (n : Int) + (m : Int) := by omega
        go_enter Try.func3, Try.ntmps3
        go_wp2
        go_ret
        exact ⟨rfl, Below.refl _ _⟩
      · have h3' : ¬ (1048576 : Int) < (n : Int) + (m : Int) := by omega
        by_cases h4 : 65536 < n
        · go_enter Try.func3, Try.ntmps3
          go_wp2
          go_ret
          exact ⟨rfl, Below.refl _ _⟩
        · have h5 : 65536 < m := by omega
          go_enter Try.func3, Try.ntmps3
          go_wp2
          go_ret
          exact ⟨rfl, Below.refl _ _⟩

/-- 'append' to a row of words. -/
theorem words_two {w : World} {V : Value} {B : Nat} {x y : Value} {ws vs : List Int} (h : w.ownsRow B 22 1 V 2 [x, y]) (hx : BytesAt w x ws) (hy : BytesAt w y vs) (h0 : vs ≠ []) : WordsAt w V (wantW ws vs) := by
  unfold wantW
  rw [if_neg h0]
  rcases h.2 with ⟨_, h2⟩ | ⟨g, cap, cur, rfl, _⟩
  · omega
  · have hc := h.cells rfl
    refine ⟨_, cap, rfl, fun j hj => ?_⟩
    match j, hj with
    | 0, _ => exact ⟨g, 0, x, rfl, by have := hc 0 x rfl; rw [Addr.add_lit] at this; exact this, hx⟩
    | 1, _ => exact ⟨g, 0, y, rfl, by have := hc 1 y rfl; rw [Addr.add_lit] at this; exact this, hy⟩

theorem words_one {w : World} {g : Nat} {x : Value} {ws : List Int} (h : w.cell? ⟨g, 0, none⟩ = some x) (hx : BytesAt w x ws) : WordsAt w (.slice (some ⟨g, 0, none⟩) 1 1) (wantW ws []) :=
  ⟨_, 1, rfl, fun j hj => by
    match j, hj with
    | 0, _ => exact ⟨g, 0, x, rfl, h, hx⟩⟩

theorem own_one (w : World) (x : Value) : (w.alloc (.cells #[x] 22)).ownsRow w.heap.size 22 1 (.slice (some ⟨w.heap.size, 0, none⟩) 1 1) 1 [x] :=
  ⟨rfl, .inr ⟨_, 1, #[x], rfl, Nat.le_refl _, heap_alloc_new w _, Nat.le_refl _, by unfold maxLen; omega, rfl, rfl⟩⟩

set_option maxHeartbeats 2000000 in
set_option maxRecDepth 100000 in
theorem two_main (c : Int) (a b : Option Addr) (n ca m cb : Nat) (ws vs : List Int) (w : World) (hws : ws.length = n) (hvs : vs.length = m) (h1 : n ≤ 65536) (h2 : m ≤ 65536)
    (na : a = none → n = 0 ∧ ca = 0) (nb : b = none → m = 0 ∧ cb = 0) (hx : BytesAt w (.slice a n ca) ws) (hy : BytesAt w (.slice b m cb) vs) :
    Calls Try.prog 3 #[.int .u8 c, .slice a n ca, .slice b m cb] w fun e w' => e = .returned (.bool true) ∧ Below w.heap.size w w' := by
  have HX : Hid (BytesAt w (.slice a n ca) ws) := hx
  have HY : Hid (BytesAt w (.slice b m cb) vs) := hy
  have NA : Hid (a = none → n = 0 ∧ ca = 0) := na
  have NB : Hid (b = none → m = 0 ∧ cb = 0) := nb
  have LN : Hid (ws.length = n) := hws
  have LM : Hid (vs.length = m) := hvs
  have cellsX : Hid (∀ t, t < n → ∃ b' o', a = some ⟨b', o', none⟩ ∧ w.cell? ⟨b', o' + t, none⟩ = some (.int .u8 (ws.getD t 0))) := by
    obtain ⟨a', c', hv, hc⟩ := hx
    obtain ⟨rfl, rfl, _⟩ : a = a' ∧ n = ws.length ∧ ca = c' := by simpa using hv
    exact hc
  have cellsY : Hid (∀ t, t < m → ∃ b' o', b = some ⟨b', o', none⟩ ∧ w.cell? ⟨b', o' + t, none⟩ = some (.int .u8 (vs.getD t 0))) := by
    obtain ⟨a', c', hv, hc⟩ := hy
    obtain ⟨rfl, rfl, _⟩ : b = a' ∧ m = vs.length ∧ cb = c' := by simpa using hv
    exact hc
  have h3 : (n : Int) + (m : Int) ≤ 1048576 := by omega
  clear hx hy na nb hws hvs
  obtain ⟨inf, hi, hz0, hz1, hz2⟩ := info_parts Try.info22
  go_enter Try.func3, Try.ntmps3
  go_wp2
  go_loop [7] (fun i => ∃ k : Nat, k ≤ n ∧ i = .int .i64 k ∧ Hid (∀ t, t < k → ws.getD t 0 ≠ 34 ∧ ws.getD t 0 ≠ 92)) (fun i => n - (intOf i).toNat)
  case atStart => exact ⟨0, Nat.zero_le _, rfl, fun t ht => absurd ht (by omega)⟩
  case round =>
    obtain ⟨k, hk, rfl, HK⟩ := hrel
    by_cases hlt : k < n
    · obtain ⟨b', o', rfl, g0⟩ := cellsX.out k hlt
      obtain ⟨x, hxd⟩ : ∃ x, x = ws.getD k 0 := ⟨_, rfl⟩
      rw [← hxd] at g0
      have HD : Hid (x = ws.getD k 0) := hxd
      clear hxd
      by_cases h34 : x = 34
      · subst h34
        go_wp2
        go_ret
        exact ⟨rfl, Below.refl _ _⟩
      · by_cases h92 : x = 92
        · subst h92
          go_wp2
          go_ret
          exact ⟨rfl, Below.refl _ _⟩
        · have k1 : (x == 34) = false := by simpa using h34
          have k2 : (x == 92) = false := by simpa using h92
          go_wp2
          go_round
          case rel => exact ⟨k + 1, by omega, by go_num, fun t ht => by
            by_cases e : t = k
            · subst e; rw [← HD.out]; exact ⟨h34, h92⟩
            · exact HK.out t (by omega)⟩
          case measure => simp [intOf]; omega
    · have hkn : k = n := by omega
      subst hkn
      clear hlt hk
      go_wp2
      go_loop [8] (fun i => ∃ j : Nat, j ≤ m ∧ i = .int .i64 j ∧ Hid (∀ t, t < j → bareB (vs.getD t 0) = true)) (fun i => m - (intOf i).toNat)
      case atStart => exact ⟨0, Nat.zero_le _, rfl, fun t ht => absurd ht (by omega)⟩
      case round =>
        obtain ⟨j, hj, rfl, HJ⟩ := hrel
        by_cases hlt : j < m
        · obtain ⟨b', o', rfl, g0⟩ := cellsY.out j hlt
          obtain ⟨x, hxd⟩ : ∃ x, x = vs.getD j 0 := ⟨_, rfl⟩
          rw [← hxd] at g0
          have HD : Hid (x = vs.getD j 0) := hxd
          clear hxd
          cases hb : bareB x with
          | true =>
            go_wp2_with (go_at_call 6; refine (bareByte_any _ _).mono ?_; rintro e w' ⟨rfl, rfl⟩)
            go_round
            case rel => exact ⟨j + 1, by omega, by go_num, fun t ht => by
              by_cases e : t = j
              · subst e; rw [← HD.out]; exact hb
              · exact HJ.out t (by omega)⟩
            case measure => simp [intOf]; omega
          | false =>
            go_wp2_with (go_at_call 6; refine (bareByte_any _ _).mono ?_; rintro e w' ⟨rfl, rfl⟩)
            go_ret
            exact ⟨rfl, Below.refl _ _⟩
        · have hjm : j = m := by omega
          subst hjm
          clear hlt hj cellsX cellsY
          have hw34 : ∀ x ∈ ws, x ≠ 34 ∧ x ≠ 92 := by
            intro x hx
            obtain ⟨t, ht, rfl⟩ := List.getElem_of_mem hx
            have := HK.out t (by rw [← LN.out]; exact ht)
            simpa [List.getD, ht] using this
          have hvb : ∀ x ∈ vs, bareB x = true := by
            intro x hx
            obtain ⟨t, ht, rfl⟩ := List.getElem_of_mem hx
            have := HJ.out t (by rw [← LM.out]; exact ht)
            simpa [List.getD, ht] using this
          have LAW : Hid (∀ d : Int, spAt (34 :: (ws ++ 34 :: d :: vs)) (k + j + 3 + 1) 0 [] = if spB d = true then some (wantW ws vs) else none) := by
            intro d
            have := law_two d ws vs hw34 hvb _ rfl
            rw [show (34 :: (ws ++ 34 :: d :: vs)).length = k + j + 3 by rw [← LN.out, ← LM.out]; simp; omega] at this
            exact this
          have LEN : Hid (∀ d : Int, (34 :: (ws ++ 34 :: d :: vs)).length = k + j + 3) := fun d => by rw [← LN.out, ← LM.out]; simp; omega
          clear HK HJ hw34 hvb
          by_cases hj0 : j = 0
          · subst hj0
            have hv0 : vs = [] := List.eq_nil_of_length_eq_zero LM.out
            go_wp2_with fail
            obtain ⟨wX, hwX⟩ : ∃ wX, wX = w.alloc (.cells #[.slice a k ca] 22) := ⟨_, rfl⟩
            rw [← hwX]
            have hbX : Below w.heap.size w wX := by rw [hwX]; exact (Below.refl _ _).alloc (Nat.le_refl _) _
            have hWX : WordsAt wX (.slice (some ⟨w.heap.size, 0, none⟩) 1 1) (wantW ws vs) := by
              rw [hv0]
              exact words_one (by rw [hwX]; exact cell_one_new w (.slice a k ca) 22 0 _ rfl) (HX.out.later hbX)
            clear hwX hv0

            have hX1 := HX.out.later hbX
            have hY1 := HY.out.later hbX
            have H1 : Hid (BytesAt wX (.slice a k ca) ws) := hX1
            have H2 : Hid (BytesAt wX (.slice b 0 cb) vs) := hY1
            have HWX : Hid (WordsAt wX (.slice (some ⟨w.heap.size, 0, none⟩) 1 1) (wantW ws vs)) := hWX
            clear hX1 hY1 hWX HX HY
            refine (then_any a k ca b 0 cb ws vs 32 wX LN.out LM.out h1 h2 NA.out (fun h => ⟨rfl, (NB.out h).2⟩) H1.out H2.out).mono ?_
            rintro e wY ⟨rfl, hbY, hownY⟩
            have hsY := (hownY.lt _ rfl).2
            have hcall := zsplit_any wX.heap.size 0 (k + 0 + 3) (k + 0 + 3) (34 :: (ws ++ 34 :: 32 :: vs)) wY (LEN.out 32) (by omega) hsY (fun t ht => cells_of_own (B := wX.heap.size) (n := k + 0 + 3) (by rw [LEN.out 32]; exact hownY) t (by rw [LEN.out 32]; exact ht))
            rw [LAW.out 32, if_pos (by decide)] at hcall
            have HC : Hid (Calls Try.prog 7 #[.slice (some ⟨wX.heap.size, 0, none⟩) (k + 0 + 3) (k + 0 + 3)] wY fun e w' => SEnd (some (wantW ws vs)) e wY w') := hcall
            clear hcall hownY hsY
            go_wp2_with fail
            refine HC.out.mono ?_
            rintro e wZ ⟨V1, rfl, hbZ, hV1⟩
            have HV1 : Hid (WordsAt wZ V1 (wantW ws vs)) := hV1
            clear hV1 HC
            have hbXZ : Below wX.heap.size wX wZ := hbY.trans (hbZ.mono hbY.size)
            have H3 : Hid (BytesAt wZ (.slice a k ca) ws) := H1.out.later hbXZ
            have H4 : Hid (BytesAt wZ (.slice b 0 cb) vs) := H2.out.later hbXZ
            have HWZ : Hid (WordsAt wZ (.slice (some ⟨w.heap.size, 0, none⟩) 1 1) (wantW ws vs)) := HWX.out.later hbXZ
            have hbwZ : Below w.heap.size w wZ := hbX.trans (hbXZ.mono hbX.size)
            clear H1 H2 HWX hbY hbZ hbX hbXZ
            go_wp2_with fail
            refine (then_any a k ca b 0 cb ws vs c wZ LN.out LM.out h1 h2 NA.out (fun h => ⟨rfl, (NB.out h).2⟩) H3.out H4.out).mono ?_
            rintro e wU ⟨rfl, hbU, hownU⟩
            have hsU := (hownU.lt _ rfl).2
            have hcall := zsplit_any wZ.heap.size 0 (k + 0 + 3) (k + 0 + 3) (34 :: (ws ++ 34 :: c :: vs)) wU (LEN.out c) (by omega) hsU (fun t ht => cells_of_own (B := wZ.heap.size) (n := k + 0 + 3) (by rw [LEN.out c]; exact hownU) t (by rw [LEN.out c]; exact ht))
            rw [LAW.out c] at hcall
            have HV2 : Hid (WordsAt wU V1 (wantW ws vs)) := HV1.out.later hbU
            have HWU : Hid (WordsAt wU (.slice (some ⟨w.heap.size, 0, none⟩) 1 1) (wantW ws vs)) := HWZ.out.later hbU
            have hbwU : Below w.heap.size w wU := hbwZ.trans (hbU.mono hbwZ.size)
            clear hownU hsU HV1 HWZ hbU hbwZ H3 H4
            cases hsp : spB c with
            | true =>
              rw [if_pos hsp] at hcall
              have HC : Hid (Calls Try.prog 7 #[.slice (some ⟨wZ.heap.size, 0, none⟩) (k + 0 + 3) (k + 0 + 3)] wU fun e w' => SEnd (some (wantW ws vs)) e wU w') := hcall
              clear hcall
              go_wp2_with fail
              refine HC.out.mono ?_
              rintro e wV ⟨V2, rfl, hbV, hV2⟩
              have HV3 : Hid (WordsAt wV V2 (wantW ws vs)) := hV2
              have HV4 : Hid (WordsAt wV V1 (wantW ws vs)) := HV2.out.later hbV
              have HWV : Hid (WordsAt wV (.slice (some ⟨w.heap.size, 0, none⟩) 1 1) (wantW ws vs)) := HWU.out.later hbV
              have hbwV : Below w.heap.size w wV := hbwU.trans (hbV.mono hbwU.size)
              clear HC hV2 HV2 HWU hbwU hbV
              go_wp2_with fail
              refine (same_any _ _ (wantW ws vs) wV (wantW_len _ _) (wantW_at _ _ (by rw [LN.out]; exact h1) (by rw [LM.out]; exact h2)) HV4.out HWV.out).mono ?_
              rintro e w6 ⟨rfl, q, rfl⟩
              go_wp2_with (go_at_call 10; refine (zspace_any _ _).mono ?_; rintro e w' ⟨rfl, rfl⟩)
              refine (same_any _ _ (wantW ws vs) (wV.drewN q) (wantW_len _ _) (wantW_at _ _ (by rw [LN.out]; exact h1) (by rw [LM.out]; exact h2)) (HV3.out.later (below_drewN (Below.refl _ _) _)) (HWV.out.later (below_drewN (Below.refl _ _) _))).mono ?_
              rintro e w6 ⟨rfl, q2, rfl⟩
              go_wp2_with fail
              go_ret
              exact ⟨rfl, below_drewN hbwV _⟩
            | false =>
              rw [if_neg (by simp [hsp])] at hcall
              have HC : Hid (Calls Try.prog 7 #[.slice (some ⟨wZ.heap.size, 0, none⟩) (k + 0 + 3) (k + 0 + 3)] wU fun e w' => SEnd none e wU w') := hcall
              clear hcall
              go_wp2_with fail
              refine HC.out.mono ?_
              rintro e wV ⟨rfl, hbV⟩
              have HV4 : Hid (WordsAt wV V1 (wantW ws vs)) := HV2.out.later hbV
              have HWV : Hid (WordsAt wV (.slice (some ⟨w.heap.size, 0, none⟩) 1 1) (wantW ws vs)) := HWU.out.later hbV
              have hbwV : Below w.heap.size w wV := hbwU.trans (hbV.mono hbwU.size)
              clear HC HV2 HWU hbwU hbV
              go_wp2_with fail
              refine (same_any _ _ (wantW ws vs) wV (wantW_len _ _) (wantW_at _ _ (by rw [LN.out]; exact h1) (by rw [LM.out]; exact h2)) HV4.out HWV.out).mono ?_
              rintro e w6 ⟨rfl, q, rfl⟩
              go_wp2_with (go_at_call 10; refine (zspace_any _ _).mono ?_; rintro e w' ⟨rfl, rfl⟩)
              go_ret
              exact ⟨rfl, below_drewN hbwV q⟩
          · have hv0 : vs ≠ [] := by rintro rfl; exact hj0 LM.out.symm
            have hjp : (0 : Int) < (j : Int) := by omega
            go_wp2_with (at_builtin; refine wpList_append_own _ rfl (.tmp 62) (.tmp 64) 25 rfl w.heap.size 22 inf (.slice none 0 0) 1 24 Try.underlying25 hi hz0 hz1 hz2 rfl (by decide) _ 1 _ rfl ((own_one w (.slice a k ca)).alloc _) ⟨w.heap.size + 1, 0, none⟩ 1 1 [.slice b j cb] rfl rfl (by have := cell_one_new (w.alloc (.cells #[.slice a k ca] 22)) (.slice b j cb) 22; simpa using this) (by simp [Value.oneCell']) (by unfold maxLen; omega) (by omega) (by simp; omega) ?_; intro V wX hownX hgrowX _)
            have hbX : Below w.heap.size w wX := (((Below.refl _ _).alloc (Nat.le_refl _) _).alloc (by simp) _).grown hgrowX (by simp; omega) (fun k hk => by cases hk; exact Nat.le_refl _)
            have hWX : WordsAt wX V (wantW ws vs) := words_two hownX (HX.out.later hbX) (HY.out.later hbX) hv0
            clear hownX hgrowX hv0

            have hX1 := HX.out.later hbX
            have hY1 := HY.out.later hbX
            have H1 : Hid (BytesAt wX (.slice a k ca) ws) := hX1
            have H2 : Hid (BytesAt wX (.slice b j cb) vs) := hY1
            have HWX : Hid (WordsAt wX V (wantW ws vs)) := hWX
            clear hX1 hY1 hWX HX HY
            refine (then_any a k ca b j cb ws vs 32 wX LN.out LM.out h1 h2 NA.out NB.out H1.out H2.out).mono ?_
            rintro e wY ⟨rfl, hbY, hownY⟩
            have hsY := (hownY.lt _ rfl).2
            have hcall := zsplit_any wX.heap.size 0 (k + j + 3) (k + j + 3) (34 :: (ws ++ 34 :: 32 :: vs)) wY (LEN.out 32) (by omega) hsY (fun t ht => cells_of_own (B := wX.heap.size) (n := k + j + 3) (by rw [LEN.out 32]; exact hownY) t (by rw [LEN.out 32]; exact ht))
            rw [LAW.out 32, if_pos (by decide)] at hcall
            have HC : Hid (Calls Try.prog 7 #[.slice (some ⟨wX.heap.size, 0, none⟩) (k + j + 3) (k + j + 3)] wY fun e w' => SEnd (some (wantW ws vs)) e wY w') := hcall
            clear hcall hownY hsY
            go_wp2_with fail
            refine HC.out.mono ?_
            rintro e wZ ⟨V1, rfl, hbZ, hV1⟩
            have HV1 : Hid (WordsAt wZ V1 (wantW ws vs)) := hV1
            clear hV1 HC
            have hbXZ : Below wX.heap.size wX wZ := hbY.trans (hbZ.mono hbY.size)
            have H3 : Hid (BytesAt wZ (.slice a k ca) ws) := H1.out.later hbXZ
            have H4 : Hid (BytesAt wZ (.slice b j cb) vs) := H2.out.later hbXZ
            have HWZ : Hid (WordsAt wZ V (wantW ws vs)) := HWX.out.later hbXZ
            have hbwZ : Below w.heap.size w wZ := hbX.trans (hbXZ.mono hbX.size)
            clear H1 H2 HWX hbY hbZ hbX hbXZ
            go_wp2_with fail
            refine (then_any a k ca b j cb ws vs c wZ LN.out LM.out h1 h2 NA.out NB.out H3.out H4.out).mono ?_
            rintro e wU ⟨rfl, hbU, hownU⟩
            have hsU := (hownU.lt _ rfl).2
            have hcall := zsplit_any wZ.heap.size 0 (k + j + 3) (k + j + 3) (34 :: (ws ++ 34 :: c :: vs)) wU (LEN.out c) (by omega) hsU (fun t ht => cells_of_own (B := wZ.heap.size) (n := k + j + 3) (by rw [LEN.out c]; exact hownU) t (by rw [LEN.out c]; exact ht))
            rw [LAW.out c] at hcall
            have HV2 : Hid (WordsAt wU V1 (wantW ws vs)) := HV1.out.later hbU
            have HWU : Hid (WordsAt wU V (wantW ws vs)) := HWZ.out.later hbU
            have hbwU : Below w.heap.size w wU := hbwZ.trans (hbU.mono hbwZ.size)
            clear hownU hsU HV1 HWZ hbU hbwZ H3 H4
            cases hsp : spB c with
            | true =>
              rw [if_pos hsp] at hcall
              have HC : Hid (Calls Try.prog 7 #[.slice (some ⟨wZ.heap.size, 0, none⟩) (k + j + 3) (k + j + 3)] wU fun e w' => SEnd (some (wantW ws vs)) e wU w') := hcall
              clear hcall
              go_wp2_with fail
              refine HC.out.mono ?_
              rintro e wV ⟨V2, rfl, hbV, hV2⟩
              have HV3 : Hid (WordsAt wV V2 (wantW ws vs)) := hV2
              have HV4 : Hid (WordsAt wV V1 (wantW ws vs)) := HV2.out.later hbV
              have HWV : Hid (WordsAt wV V (wantW ws vs)) := HWU.out.later hbV
              have hbwV : Below w.heap.size w wV := hbwU.trans (hbV.mono hbwU.size)
              clear HC hV2 HV2 HWU hbwU hbV
              go_wp2_with fail
              refine (same_any _ _ (wantW ws vs) wV (wantW_len _ _) (wantW_at _ _ (by rw [LN.out]; exact h1) (by rw [LM.out]; exact h2)) HV4.out HWV.out).mono ?_
              rintro e w6 ⟨rfl, q, rfl⟩
              go_wp2_with (go_at_call 10; refine (zspace_any _ _).mono ?_; rintro e w' ⟨rfl, rfl⟩)
              refine (same_any _ _ (wantW ws vs) (wV.drewN q) (wantW_len _ _) (wantW_at _ _ (by rw [LN.out]; exact h1) (by rw [LM.out]; exact h2)) (HV3.out.later (below_drewN (Below.refl _ _) _)) (HWV.out.later (below_drewN (Below.refl _ _) _))).mono ?_
              rintro e w6 ⟨rfl, q2, rfl⟩
              go_wp2_with fail
              go_ret
              exact ⟨rfl, below_drewN hbwV _⟩
            | false =>
              rw [if_neg (by simp [hsp])] at hcall
              have HC : Hid (Calls Try.prog 7 #[.slice (some ⟨wZ.heap.size, 0, none⟩) (k + j + 3) (k + j + 3)] wU fun e w' => SEnd none e wU w') := hcall
              clear hcall
              go_wp2_with fail
              refine HC.out.mono ?_
              rintro e wV ⟨rfl, hbV⟩
              have HV4 : Hid (WordsAt wV V1 (wantW ws vs)) := HV2.out.later hbV
              have HWV : Hid (WordsAt wV V (wantW ws vs)) := HWU.out.later hbV
              have hbwV : Below w.heap.size w wV := hbwU.trans (hbV.mono hbwU.size)
              clear HC HV2 HWU hbwU hbV
              go_wp2_with fail
              refine (same_any _ _ (wantW ws vs) wV (wantW_len _ _) (wantW_at _ _ (by rw [LN.out]; exact h1) (by rw [LM.out]; exact h2)) HV4.out HWV.out).mono ?_
              rintro e w6 ⟨rfl, q, rfl⟩
              go_wp2_with (go_at_call 10; refine (zspace_any _ _).mono ?_; rintro e w' ⟨rfl, rfl⟩)
              go_ret
              exact ⟨rfl, below_drewN hbwV q⟩

theorem two_any (c : Int) (a b : Option Addr) (n ca m cb : Nat) (ws vs : List Int) (w : World) (hws : ws.length = n) (hvs : vs.length = m) (hn : n ≤ 9223372036854775807) (hm : m ≤ 9223372036854775807)
    (na : a = none → n = 0 ∧ ca = 0) (nb : b = none → m = 0 ∧ cb = 0) (hx : BytesAt w (.slice a n ca) ws) (hy : BytesAt w (.slice b m cb) vs) :
    Calls Try.prog 3 #[.int .u8 c, .slice a n ca, .slice b m cb] w fun e w' => e = .returned (.bool true) ∧ Below w.heap.size w w' := by
  by_cases h : 65536 < n ∨ 65536 < m
  · exact two_big c a b n ca m cb w hn hm h
  · exact two_main c a b n ca m cb ws vs w hws hvs (by omega) (by omega) na nb hx hy

end Go.Proofs.Qxb6616016a
