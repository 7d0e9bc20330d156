/-
  appendWord: what it computes is 'awAt'.
-/
import Derived.Test.Qxb6616016aQuoted
namespace Go.Proofs.Qxb6616016a
open Go.RowKit

set_option maxHeartbeats 2000000 in
set_option maxRecDepth 100000 in
theorem aw_any (b o cap n B g i0 : Nat) (L xs0 : List Int) (w : World) (hL : L.length = n) (hn : n ≤ 1048576) (hbg : b ≠ g) (hi0 : i0 ≤ n) (hx0 : xs0.length ≤ i0)
    (hc : ∀ t, t < n → w.cell? ⟨b, o + t, none⟩ = some (.int .u8 (L.getD t 0))) (hown0 : w.ownsRow B 5 1 (rowOf g n xs0.length) xs0.length (U8 xs0)) :
    Calls Try.prog 16 #[rowOf g n xs0.length, .slice (some ⟨b, o, none⟩) n cap, .int .i64 i0] w fun e w' => QEnd B g n (awAt L (n + 1) i0 xs0) e w w' := by
  obtain ⟨R, hR⟩ : ∃ R, awAt L (n + 1) i0 xs0 = R := ⟨_, rfl⟩
  rw [hR]
  have HR : Hid (awAt L (n + 1) i0 xs0 = R) := hR
  clear hR
  obtain ⟨inf, hi, hz0, hz1, hz2⟩ := info_parts Try.info5
  go_enter Try.func16, Try.ntmps16
  go_wp2
  go_loopw [0, 2] (fun room si wr => ∃ (i f : Nat) (xs : List Int), i ≤ n ∧ n < i + f ∧ xs.length ≤ i ∧ si = .int .i64 i ∧ room = rowOf g n xs.length ∧
      wr.ownsRow B 5 1 (rowOf g n xs.length) xs.length (U8 xs) ∧ w.grownBy wr (some g) ∧ Hid (awAt L f i xs = R))
    (fun _ si _ => n - (intOf si).toNat)
  case atStart => exact ⟨i0, n + 1, xs0, hi0, by omega, hx0, rfl, rfl, hown0, World.grownBy.refl _ _, HR⟩
  case round =>
    obtain ⟨i, f, xs, hin, hf, hxl, rfl, rfl, hown, hgr, HX⟩ := hrel
    clear HR
    obtain ⟨f, rfl⟩ : ∃ f', f = f' + 1 := ⟨f - 1, by omega⟩
    have HX' := HX.out
    clear HX
    by_cases hlt : i < n
    · have hcr : ∀ t, t < n → wr.cell? ⟨b, o + t, none⟩ = some (.int .u8 (L.getD t 0)) := fun t ht => grownBy_cell hgr hbg (hc t ht)
      clear hc
      have g0 := hcr i hlt
      obtain ⟨c, hcd⟩ : ∃ c, c = L.getD i 0 := ⟨_, rfl⟩
      rw [← hcd] at g0
      rw [awAt, if_pos (by omega), ← hcd] at HX'
      clear hcd
      by_cases hs : c = 32 ∨ c = 9 ∨ c = 13 ∨ c = 10
      · rw [if_pos hs] at HX'
        have HY : Hid (some (xs, i) = R) := HX'
        clear HX' hcr
        rcases hs with rfl | rfl | rfl | rfl
        all_goals
          go_wp2
          go_ret3
          rw [← HY.out]
          exact ⟨rfl, hgr, hown⟩
      · rw [if_neg hs] at HX'
        by_cases hq : c = 34 ∨ c = 39
        · rw [if_pos hq, hL] at HX'
          have HY : Hid (aqAt L c (n + 1) (i + 1) xs = R) := HX'
          clear HX' hs
          have hcall := aq_any b o cap n B g (i + 1) L xs c hq wr hL hn hbg (by omega) (by omega) hcr hown
          rw [HY.out] at hcall
          clear hcr HY
          rw [show ((i + 1 : Nat) : Int) = (i : Int) + 1 by omega] at hcall
          have HC : Hid (Calls Try.prog 18 #[rowOf g n xs.length, .slice (some ⟨b, o, none⟩) n cap, .int .i64 ((i : Int) + 1), .int .u8 c] wr fun e w' => QEnd B g n R e wr w') := hcall
          clear hcall
          cases R with
          | none =>
            rcases hq with rfl | rfl
            all_goals
              go_wp2_with (go_at_call 18; refine HC.out.mono ?_; rintro e w1 ⟨rfl, hg1⟩)
              go_ret3
              exact ⟨rfl, grownBy_trans hgr hg1⟩
          | some p =>
            obtain ⟨ys, j⟩ := p
            rcases hq with rfl | rfl
            all_goals
              go_wp2_with (go_at_call 18; refine HC.out.mono ?_; rintro e w1 ⟨rfl, hg1, ho1⟩)
              go_ret3
              exact ⟨rfl, grownBy_trans hgr hg1, ho1⟩
        · rw [if_neg hq] at HX'
          have HY : Hid (awAt L f (i + 1) (xs ++ [c]) = R) := HX'
          clear HX' hcr
          have k1 : (c == 32) = false := by simp; omega
          have k2 : (c == 9) = false := by simp; omega
          have k3 : (c == 13) = false := by simp; omega
          have k4 : (c == 10) = false := by simp; omega
          have k5 : (c == 34) = false := by simp; omega
          have k6 : (c == 39) = false := by simp; omega
          clear hs hq
          go_wp2_with (at_builtin; refine wpList_append_fits _ rfl (.tmp 19) (.tmp 21) 22 rfl B 5 inf 1 Try.underlying22 hi hz1 g xs.length n _ rfl (hown.alloc _) ⟨wr.heap.size, 0, none⟩ 1 1 [.int .u8 c] rfl rfl (cell_one_new _ _ _) (by simp [Value.oneCell']) (by omega) ?_; intro w1 hown1 hgrow1)
          go_roundw
          case rel => exact ⟨i + 1, f, xs ++ [c], by omega, by omega, by simp; omega, by go_num, by simp, own_snoc hown1, grownBy_trans hgr (grownBy_trans (World.grownBy_alloc _ _ _) hgrow1), HY⟩
          case measure => simp [intOf]; omega
    · rw [awAt, if_neg (by omega)] at HX'
      have HY : Hid (some (xs, i) = R) := HX'
      clear HX' hc
      go_wp2
      go_ret3
      rw [← HY.out]
      exact ⟨rfl, hgr, hown⟩

end Go.Proofs.Qxb6616016a
