/-
  zzModelVarint.
-/
import Derived.Test.Qxb6616153aFmtBytes
import Derived.Laws.BitsAllLaws
import Derived.Lib.VarintBits
namespace Go.Proofs.Qxb6616153aFmt
open Go.RowKit

theorem valL_snoc : ∀ (xs : List UInt8) (b : UInt8), valL (xs ++ [b]) = valL xs + 128 ^ xs.length * (b.toNat % 128)
  | [], b => by simp [valL]
  | x :: r, b => by
    have ih := valL_snoc r b
    rw [List.cons_append, valL, valL, ih, List.length_cons, Nat.pow_succ]
    rw [Nat.mul_add, ← Nat.mul_assoc 128, Nat.mul_comm 128 (128 ^ r.length), Nat.add_assoc]

/-- What is folded stays small. -/
theorem fold_lt (l : List UInt8) (t j : Nat) (ht : t < l.length) (h9 : t ≤ 9) (hj1 : 1 ≤ j) (htop : t = 9 → (l.getD t 0).toNat ≤ 1) : valL ((l.take (t + 1)).drop j) < 144115188075855872 := by
  by_cases hjt : j ≤ t
  · by_cases h : t = 9
    · have e : l.take (t + 1) = l.take t ++ [l.getD t 0] := by
        rw [List.take_succ_eq_append_getElem ht]
        simp [List.getD, ht]
      have hb := htop h
      rw [e, List.drop_append_of_le_length (by simp; omega), valL_snoc]
      have h1 := valL_lt ((l.take t).drop j)
      have hlen : ((l.take t).drop j).length ≤ 8 := by simp; omega
      have h2 : 128 ^ ((l.take t).drop j).length ≤ 128 ^ 8 := Nat.pow_le_pow_right (by omega) hlen
      have h3 : (l.getD t 0).toNat % 128 ≤ 1 := Nat.le_trans (Nat.mod_le _ _) hb
      have h4 : 128 ^ ((l.take t).drop j).length * ((l.getD t 0).toNat % 128) ≤ 128 ^ 8 * 1 := Nat.mul_le_mul h2 h3
      have h5 : (128 : Nat) ^ 8 = 72057594037927936 := by decide
      omega
    · have h1 := valL_lt ((l.take (t + 1)).drop j)
      have hlen : ((l.take (t + 1)).drop j).length ≤ 8 := by simp; omega
      have h2 : 128 ^ ((l.take (t + 1)).drop j).length ≤ 128 ^ 8 := Nat.pow_le_pow_right (by omega) hlen
      have h5 : (128 : Nat) ^ 8 = 72057594037927936 := by decide
      omega
  · have : (l.take (t + 1)).drop j = [] := List.drop_eq_nil_of_le (by simp; omega)
    rw [this]
    simp [valL]

theorem fold_step (l : List UInt8) (t i : Nat) (ht : t < l.length) (hi : i ≤ t) : valL ((l.take (t + 1)).drop i) = 128 * valL ((l.take (t + 1)).drop (i + 1)) + (l.getD i 0).toNat % 128 := by
  have hl : i < (l.take (t + 1)).length := by simp; omega
  rw [List.drop_eq_getElem_cons hl, valL, Nat.add_comm]
  congr 2
  have : i < l.length := by omega
  simp [List.getD, this]

theorem or_low (a b : Nat) (ha : a < 144115188075855872) (hb : b < 128) : bits .or .u64 ((128 * a : Nat) : Int) (b : Int) = ((128 * a + b : Nat) : Int) := by
  rw [u64_or_nat _ _ (by omega) (by omega)]
  congr 1
  have := Nat.two_pow_add_eq_or_of_lt (i := 7) (b := b) (by simpa using hb) a
  simpa using this.symm

/-- zzModelVarint's three results. -/
def modelV (R : Option (Nat × Nat)) : Ending := match R with
  | some (v, k) => .returned (.tuple #[.int .u64 v, .int .i64 k, .bool true])
  | none => .returned (.tuple #[.int .u64 0, .int .i64 0, .bool false])

set_option maxRecDepth 1000000 in
set_option maxHeartbeats 2000000 in
theorem model_any (a : Option Addr) (n c : Nat) (l : List UInt8) (w : World) (hn : n ≤ 1048576) (hB : BytesAt w (.slice a n c) l) :
    Calls Tryf.prog 8 #[.slice a n c] w fun e w' => e = modelV (shortV l) ∧ w = w' := by
  obtain ⟨hl, _, hc⟩ := hB.form
  have HL : Hid (n = l.length) := hl
  have HC : Hid (∀ t, t < n → ∃ b o, a = some ⟨b, o, none⟩ ∧ w.cell? ⟨b, o + t, none⟩ = some (.int .u8 (l.getD t 0).toNat)) := hc
  clear hc hl hB
  go_enter Tryf.func8, Tryf.ntmps8
  by_cases h10 : 10 < n
  · skip
    go_wp2_with fail
    go_loop [6, 7] (fun t6 i => t6 = .int .i64 (-1) ∧ ∃ k : Nat, k ≤ 10 ∧ i = .int .i64 k ∧ Hid (∀ s, s < k → 128 ≤ (l.getD s 0).toNat)) (fun _ i => 10 - (intOf i).toNat)
    case atStart => exact ⟨rfl, 0, Nat.zero_le _, rfl, fun s hs => absurd hs (by omega)⟩
    case round =>
      obtain ⟨rfl, t, ht, rfl, HK⟩ := hrel
      by_cases hlt : t < 10
      · have htn : t < n := by omega
        obtain ⟨b, o, rfl, gt⟩ := HC.out t htn
        obtain ⟨x, hx⟩ : ∃ x, x = (l.getD t 0).toNat := ⟨_, rfl⟩
        have hx256 : x < 256 := by rw [hx]; exact (l.getD t 0).toNat_lt
        rw [← hx] at gt
        have HX : Hid (x = (l.getD t 0).toNat) := hx
        clear hx
        by_cases hx1 : x < 128
        · have hst : stop 10 l = some t := stop_of 10 l t (by omega) (by rw [← HL.out]; exact htn) (by rw [← HX.out]; exact hx1) HK.out
          have HST : Hid (stop 10 l = some t) := hst
          clear hst HK
          by_cases hc1 : t = 9 ∧ 1 < x
          · obtain ⟨rfl, hx2⟩ := hc1
            have HSV : Hid (shortV l = none) := by
              show _ = _
              unfold shortV
              rw [HST.out]
              dsimp only
              rw [if_pos (.inl ⟨rfl, by rw [← HX.out]; exact hx2⟩)]
            go_wp2_with fail
            go_ret3
            exact ⟨by rw [HSV.out]; rfl, rfl⟩
          · by_cases hc2 : 0 < t ∧ x = 0
            · obtain ⟨ht0, rfl⟩ := hc2
              have HSV : Hid (shortV l = none) := by
                show _ = _
                unfold shortV
                rw [HST.out]
                dsimp only
                rw [if_pos (.inr ⟨ht0, HX.out.symm⟩)]
              by_cases h9 : t = 9
              · subst h9
                go_wp2_with fail
                go_ret3
                exact ⟨by rw [HSV.out]; rfl, rfl⟩
              · have h9' : ((t : Int) == 9) = false := by simp; omega
                go_wp2_with fail
                go_ret3
                exact ⟨by rw [HSV.out]; rfl, rfl⟩
            · have HSV : Hid (shortV l = some (valL (l.take (t + 1)), t + 1)) := by
                show _ = _
                unfold shortV
                rw [HST.out]
                dsimp only
                rw [← HX.out, if_neg (fun h => h.elim hc1 hc2)]
              have hx0' : t ≠ 0 → ¬ (x = 0) := fun h h' => hc2 ⟨by omega, h'⟩
              by_cases h9 : t = 9
              · have h9' : ((t : Int) == 9) = true := by rw [h9]; rfl
                have gt9 : w.cell? ⟨b, o + 9, none⟩ = some (.int .u8 (x : Int)) := by rw [← h9]; exact gt
                have hn9 : 9 < n := by omega
                have ht0 : 0 < t := by omega
                have hx2 : ¬ (1 < (x : Int)) := fun h => hc1 ⟨h9, by omega⟩
                have hx3 : ((x : Int) == 0) = false := by have := hx0' (by omega); simp; omega
                go_wp2_with fail
                go_loop [8, 9] (fun vv jj => ∃ j : Nat, j ≤ t + 1 ∧ jj = .int .i64 ((j : Int) - 1) ∧ vv = .int .u64 (valL ((l.take (t + 1)).drop j))) (fun _ jj => (intOf jj + 1).toNat)
                case atStart => exact ⟨t + 1, Nat.le_refl _, by congr 1; omega, by rw [List.drop_eq_nil_of_le (by simp; omega)]; rfl⟩
                case round =>
                  obtain ⟨j, hj, rfl, rfl⟩ := hrel
                  cases j with
                  | zero =>
                    go_wp2_with fail
                    go_ret3
                    exact ⟨by rw [HSV.out]; first | rfl | (simp [modelV, h9]), rfl⟩
                  | succ i =>
                    obtain ⟨b', o', e, gi⟩ := HC.out i (by omega)
                    cases e
                    obtain ⟨y, hy⟩ : ∃ y, y = (l.getD i 0).toNat := ⟨_, rfl⟩
                    have hy256 : y < 256 := by rw [hy]; exact (l.getD i 0).toNat_lt
                    have hV := fold_lt l t (i + 1) (by rw [← HL.out]; exact htn) (by omega) (by omega) (fun h => by rw [← HX.out]; by_cases hh : 1 < x; exact absurd ⟨h, hh⟩ hc1; omega)
                    have hF := fold_step l t i (by rw [← HL.out]; exact htn) (by omega)
                    rw [← hy] at gi hF
                    have HFS : Hid (valL ((l.take (t + 1)).drop i) = 128 * valL ((l.take (t + 1)).drop (i + 1)) + y % 128) := hF
                    clear hF hy
                    generalize valL ((l.take (t + 1)).drop (i + 1)) = V at hV HFS ⊢
                    have e1 : bits .and .u8 (y : Int) 127 = ((y % 128 : Nat) : Int) := by rw [u8_and127 _ (by omega) (by omega)]; omega
                    have e2 := or_low V (y % 128) hV (Nat.mod_lt _ (by omega))
                    have i1 : (0 : Int) ≤ (i : Int) := by omega
                    have i2 : (i : Int) < (n : Int) := by omega
                    go_wp2_with fail
                    refine ⟨⟨i, by omega, rfl, ?_⟩, by simp [intOf]⟩
                    rw [HFS.out, show (V : Int) * 128 = ((128 * V : Nat) : Int) by omega, show (y : Int) % 128 = ((y % 128 : Nat) : Int) by omega, e2]
              · have h9' : ((t : Int) == 9) = false := by simp; omega
                by_cases h0 : 0 < t
                · have hx3 : ((x : Int) == 0) = false := by have := hx0' (by omega); simp; omega
                  go_wp2_with fail
                  go_loop [8, 9] (fun vv jj => ∃ j : Nat, j ≤ t + 1 ∧ jj = .int .i64 ((j : Int) - 1) ∧ vv = .int .u64 (valL ((l.take (t + 1)).drop j))) (fun _ jj => (intOf jj + 1).toNat)
                  case atStart => exact ⟨t + 1, Nat.le_refl _, by congr 1; omega, by rw [List.drop_eq_nil_of_le (by simp; omega)]; rfl⟩
                  case round =>
                    obtain ⟨j, hj, rfl, rfl⟩ := hrel
                    cases j with
                    | zero =>
                      go_wp2_with fail
                      go_ret3
                      exact ⟨by rw [HSV.out]; first | rfl | (simp [modelV, h9]), rfl⟩
                    | succ i =>
                      obtain ⟨b', o', e, gi⟩ := HC.out i (by omega)
                      cases e
                      obtain ⟨y, hy⟩ : ∃ y, y = (l.getD i 0).toNat := ⟨_, rfl⟩
                      have hy256 : y < 256 := by rw [hy]; exact (l.getD i 0).toNat_lt
                      have hV := fold_lt l t (i + 1) (by rw [← HL.out]; exact htn) (by omega) (by omega) (fun h => by rw [← HX.out]; by_cases hh : 1 < x; exact absurd ⟨h, hh⟩ hc1; omega)
                      have hF := fold_step l t i (by rw [← HL.out]; exact htn) (by omega)
                      rw [← hy] at gi hF
                      have HFS : Hid (valL ((l.take (t + 1)).drop i) = 128 * valL ((l.take (t + 1)).drop (i + 1)) + y % 128) := hF
                      clear hF hy
                      generalize valL ((l.take (t + 1)).drop (i + 1)) = V at hV HFS ⊢
                      have e1 : bits .and .u8 (y : Int) 127 = ((y % 128 : Nat) : Int) := by rw [u8_and127 _ (by omega) (by omega)]; omega
                      have e2 := or_low V (y % 128) hV (Nat.mod_lt _ (by omega))
                      have i1 : (0 : Int) ≤ (i : Int) := by omega
                      have i2 : (i : Int) < (n : Int) := by omega
                      go_wp2_with fail
                      refine ⟨⟨i, by omega, rfl, ?_⟩, by simp [intOf]⟩
                      rw [HFS.out, show (V : Int) * 128 = ((128 * V : Nat) : Int) by omega, show (y : Int) % 128 = ((y % 128 : Nat) : Int) by omega, e2]
                · have ht0 : ¬ (0 < (t : Int)) := by omega
                  go_wp2_with fail
                  go_loop [8, 9] (fun vv jj => ∃ j : Nat, j ≤ t + 1 ∧ jj = .int .i64 ((j : Int) - 1) ∧ vv = .int .u64 (valL ((l.take (t + 1)).drop j))) (fun _ jj => (intOf jj + 1).toNat)
                  case atStart => exact ⟨t + 1, Nat.le_refl _, by congr 1; omega, by rw [List.drop_eq_nil_of_le (by simp; omega)]; rfl⟩
                  case round =>
                    obtain ⟨j, hj, rfl, rfl⟩ := hrel
                    cases j with
                    | zero =>
                      go_wp2_with fail
                      go_ret3
                      exact ⟨by rw [HSV.out]; first | rfl | (simp [modelV, h9]), rfl⟩
                    | succ i =>
                      obtain ⟨b', o', e, gi⟩ := HC.out i (by omega)
                      cases e
                      obtain ⟨y, hy⟩ : ∃ y, y = (l.getD i 0).toNat := ⟨_, rfl⟩
                      have hy256 : y < 256 := by rw [hy]; exact (l.getD i 0).toNat_lt
                      have hV := fold_lt l t (i + 1) (by rw [← HL.out]; exact htn) (by omega) (by omega) (fun h => by rw [← HX.out]; by_cases hh : 1 < x; exact absurd ⟨h, hh⟩ hc1; omega)
                      have hF := fold_step l t i (by rw [← HL.out]; exact htn) (by omega)
                      rw [← hy] at gi hF
                      have HFS : Hid (valL ((l.take (t + 1)).drop i) = 128 * valL ((l.take (t + 1)).drop (i + 1)) + y % 128) := hF
                      clear hF hy
                      generalize valL ((l.take (t + 1)).drop (i + 1)) = V at hV HFS ⊢
                      have e1 : bits .and .u8 (y : Int) 127 = ((y % 128 : Nat) : Int) := by rw [u8_and127 _ (by omega) (by omega)]; omega
                      have e2 := or_low V (y % 128) hV (Nat.mod_lt _ (by omega))
                      have i1 : (0 : Int) ≤ (i : Int) := by omega
                      have i2 : (i : Int) < (n : Int) := by omega
                      go_wp2_with fail
                      refine ⟨⟨i, by omega, rfl, ?_⟩, by simp [intOf]⟩
                      rw [HFS.out, show (V : Int) * 128 = ((128 * V : Nat) : Int) by omega, show (y : Int) % 128 = ((y % 128 : Nat) : Int) by omega, e2]
        · have hx1' : ¬ ((x : Int) < 128) := by omega
          go_wp2_with fail
          go_round
          case rel => exact ⟨rfl, t + 1, by omega, by go_num, fun s hs => by
            by_cases e : s = t
            · subst e; rw [← HX.out]; omega
            · exact HK.out s (by omega)⟩
          case measure => simp [intOf]; omega
      · obtain rfl : t = 10 := by omega
        have HSV : Hid (shortV l = none) := by
          show _ = _
          unfold shortV
          rw [stop_none_of 10 l (fun j h1 h2 => HK.out j (by rw [← HL.out] at h2; omega))]
        go_wp2_with fail
        go_ret3
        exact ⟨by rw [HSV.out]; rfl, rfl⟩
  · skip
    go_wp2_with fail
    go_loop [6, 7] (fun t6 i => t6 = .int .i64 (-1) ∧ ∃ k : Nat, k ≤ n ∧ i = .int .i64 k ∧ Hid (∀ s, s < k → 128 ≤ (l.getD s 0).toNat)) (fun _ i => n - (intOf i).toNat)
    case atStart => exact ⟨rfl, 0, Nat.zero_le _, rfl, fun s hs => absurd hs (by omega)⟩
    case round =>
      obtain ⟨rfl, t, ht, rfl, HK⟩ := hrel
      by_cases hlt : t < n
      · have htn : t < n := by omega
        obtain ⟨b, o, rfl, gt⟩ := HC.out t htn
        obtain ⟨x, hx⟩ : ∃ x, x = (l.getD t 0).toNat := ⟨_, rfl⟩
        have hx256 : x < 256 := by rw [hx]; exact (l.getD t 0).toNat_lt
        rw [← hx] at gt
        have HX : Hid (x = (l.getD t 0).toNat) := hx
        clear hx
        by_cases hx1 : x < 128
        · have hst : stop 10 l = some t := stop_of 10 l t (by omega) (by rw [← HL.out]; exact htn) (by rw [← HX.out]; exact hx1) HK.out
          have HST : Hid (stop 10 l = some t) := hst
          clear hst HK
          by_cases hc1 : t = 9 ∧ 1 < x
          · obtain ⟨rfl, hx2⟩ := hc1
            have HSV : Hid (shortV l = none) := by
              show _ = _
              unfold shortV
              rw [HST.out]
              dsimp only
              rw [if_pos (.inl ⟨rfl, by rw [← HX.out]; exact hx2⟩)]
            go_wp2_with fail
            go_ret3
            exact ⟨by rw [HSV.out]; rfl, rfl⟩
          · by_cases hc2 : 0 < t ∧ x = 0
            · obtain ⟨ht0, rfl⟩ := hc2
              have HSV : Hid (shortV l = none) := by
                show _ = _
                unfold shortV
                rw [HST.out]
                dsimp only
                rw [if_pos (.inr ⟨ht0, HX.out.symm⟩)]
              by_cases h9 : t = 9
              · subst h9
                go_wp2_with fail
                go_ret3
                exact ⟨by rw [HSV.out]; rfl, rfl⟩
              · have h9' : ((t : Int) == 9) = false := by simp; omega
                go_wp2_with fail
                go_ret3
                exact ⟨by rw [HSV.out]; rfl, rfl⟩
            · have HSV : Hid (shortV l = some (valL (l.take (t + 1)), t + 1)) := by
                show _ = _
                unfold shortV
                rw [HST.out]
                dsimp only
                rw [← HX.out, if_neg (fun h => h.elim hc1 hc2)]
              have hx0' : t ≠ 0 → ¬ (x = 0) := fun h h' => hc2 ⟨by omega, h'⟩
              by_cases h9 : t = 9
              · have h9' : ((t : Int) == 9) = true := by rw [h9]; rfl
                have gt9 : w.cell? ⟨b, o + 9, none⟩ = some (.int .u8 (x : Int)) := by rw [← h9]; exact gt
                have hn9 : 9 < n := by omega
                have ht0 : 0 < t := by omega
                have hx2 : ¬ (1 < (x : Int)) := fun h => hc1 ⟨h9, by omega⟩
                have hx3 : ((x : Int) == 0) = false := by have := hx0' (by omega); simp; omega
                go_wp2_with fail
                go_loop [8, 9] (fun vv jj => ∃ j : Nat, j ≤ t + 1 ∧ jj = .int .i64 ((j : Int) - 1) ∧ vv = .int .u64 (valL ((l.take (t + 1)).drop j))) (fun _ jj => (intOf jj + 1).toNat)
                case atStart => exact ⟨t + 1, Nat.le_refl _, by congr 1; omega, by rw [List.drop_eq_nil_of_le (by simp; omega)]; rfl⟩
                case round =>
                  obtain ⟨j, hj, rfl, rfl⟩ := hrel
                  cases j with
                  | zero =>
                    go_wp2_with fail
                    go_ret3
                    exact ⟨by rw [HSV.out]; first | rfl | (simp [modelV, h9]), rfl⟩
                  | succ i =>
                    obtain ⟨b', o', e, gi⟩ := HC.out i (by omega)
                    cases e
                    obtain ⟨y, hy⟩ : ∃ y, y = (l.getD i 0).toNat := ⟨_, rfl⟩
                    have hy256 : y < 256 := by rw [hy]; exact (l.getD i 0).toNat_lt
                    have hV := fold_lt l t (i + 1) (by rw [← HL.out]; exact htn) (by omega) (by omega) (fun h => by rw [← HX.out]; by_cases hh : 1 < x; exact absurd ⟨h, hh⟩ hc1; omega)
                    have hF := fold_step l t i (by rw [← HL.out]; exact htn) (by omega)
                    rw [← hy] at gi hF
                    have HFS : Hid (valL ((l.take (t + 1)).drop i) = 128 * valL ((l.take (t + 1)).drop (i + 1)) + y % 128) := hF
                    clear hF hy
                    generalize valL ((l.take (t + 1)).drop (i + 1)) = V at hV HFS ⊢
                    have e1 : bits .and .u8 (y : Int) 127 = ((y % 128 : Nat) : Int) := by rw [u8_and127 _ (by omega) (by omega)]; omega
                    have e2 := or_low V (y % 128) hV (Nat.mod_lt _ (by omega))
                    have i1 : (0 : Int) ≤ (i : Int) := by omega
                    have i2 : (i : Int) < (n : Int) := by omega
                    go_wp2_with fail
                    refine ⟨⟨i, by omega, rfl, ?_⟩, by simp [intOf]⟩
                    rw [HFS.out, show (V : Int) * 128 = ((128 * V : Nat) : Int) by omega, show (y : Int) % 128 = ((y % 128 : Nat) : Int) by omega, e2]
              · have h9' : ((t : Int) == 9) = false := by simp; omega
                by_cases h0 : 0 < t
                · have hx3 : ((x : Int) == 0) = false := by have := hx0' (by omega); simp; omega
                  go_wp2_with fail
                  go_loop [8, 9] (fun vv jj => ∃ j : Nat, j ≤ t + 1 ∧ jj = .int .i64 ((j : Int) - 1) ∧ vv = .int .u64 (valL ((l.take (t + 1)).drop j))) (fun _ jj => (intOf jj + 1).toNat)
                  case atStart => exact ⟨t + 1, Nat.le_refl _, by congr 1; omega, by rw [List.drop_eq_nil_of_le (by simp; omega)]; rfl⟩
                  case round =>
                    obtain ⟨j, hj, rfl, rfl⟩ := hrel
                    cases j with
                    | zero =>
                      go_wp2_with fail
                      go_ret3
                      exact ⟨by rw [HSV.out]; first | rfl | (simp [modelV, h9]), rfl⟩
                    | succ i =>
                      obtain ⟨b', o', e, gi⟩ := HC.out i (by omega)
                      cases e
                      obtain ⟨y, hy⟩ : ∃ y, y = (l.getD i 0).toNat := ⟨_, rfl⟩
                      have hy256 : y < 256 := by rw [hy]; exact (l.getD i 0).toNat_lt
                      have hV := fold_lt l t (i + 1) (by rw [← HL.out]; exact htn) (by omega) (by omega) (fun h => by rw [← HX.out]; by_cases hh : 1 < x; exact absurd ⟨h, hh⟩ hc1; omega)
                      have hF := fold_step l t i (by rw [← HL.out]; exact htn) (by omega)
                      rw [← hy] at gi hF
                      have HFS : Hid (valL ((l.take (t + 1)).drop i) = 128 * valL ((l.take (t + 1)).drop (i + 1)) + y % 128) := hF
                      clear hF hy
                      generalize valL ((l.take (t + 1)).drop (i + 1)) = V at hV HFS ⊢
                      have e1 : bits .and .u8 (y : Int) 127 = ((y % 128 : Nat) : Int) := by rw [u8_and127 _ (by omega) (by omega)]; omega
                      have e2 := or_low V (y % 128) hV (Nat.mod_lt _ (by omega))
                      have i1 : (0 : Int) ≤ (i : Int) := by omega
                      have i2 : (i : Int) < (n : Int) := by omega
                      go_wp2_with fail
                      refine ⟨⟨i, by omega, rfl, ?_⟩, by simp [intOf]⟩
                      rw [HFS.out, show (V : Int) * 128 = ((128 * V : Nat) : Int) by omega, show (y : Int) % 128 = ((y % 128 : Nat) : Int) by omega, e2]
                · have ht0 : ¬ (0 < (t : Int)) := by omega
                  go_wp2_with fail
                  go_loop [8, 9] (fun vv jj => ∃ j : Nat, j ≤ t + 1 ∧ jj = .int .i64 ((j : Int) - 1) ∧ vv = .int .u64 (valL ((l.take (t + 1)).drop j))) (fun _ jj => (intOf jj + 1).toNat)
                  case atStart => exact ⟨t + 1, Nat.le_refl _, by congr 1; omega, by rw [List.drop_eq_nil_of_le (by simp; omega)]; rfl⟩
                  case round =>
                    obtain ⟨j, hj, rfl, rfl⟩ := hrel
                    cases j with
                    | zero =>
                      go_wp2_with fail
                      go_ret3
                      exact ⟨by rw [HSV.out]; first | rfl | (simp [modelV, h9]), rfl⟩
                    | succ i =>
                      obtain ⟨b', o', e, gi⟩ := HC.out i (by omega)
                      cases e
                      obtain ⟨y, hy⟩ : ∃ y, y = (l.getD i 0).toNat := ⟨_, rfl⟩
                      have hy256 : y < 256 := by rw [hy]; exact (l.getD i 0).toNat_lt
                      have hV := fold_lt l t (i + 1) (by rw [← HL.out]; exact htn) (by omega) (by omega) (fun h => by rw [← HX.out]; by_cases hh : 1 < x; exact absurd ⟨h, hh⟩ hc1; omega)
                      have hF := fold_step l t i (by rw [← HL.out]; exact htn) (by omega)
                      rw [← hy] at gi hF
                      have HFS : Hid (valL ((l.take (t + 1)).drop i) = 128 * valL ((l.take (t + 1)).drop (i + 1)) + y % 128) := hF
                      clear hF hy
                      generalize valL ((l.take (t + 1)).drop (i + 1)) = V at hV HFS ⊢
                      have e1 : bits .and .u8 (y : Int) 127 = ((y % 128 : Nat) : Int) := by rw [u8_and127 _ (by omega) (by omega)]; omega
                      have e2 := or_low V (y % 128) hV (Nat.mod_lt _ (by omega))
                      have i1 : (0 : Int) ≤ (i : Int) := by omega
                      have i2 : (i : Int) < (n : Int) := by omega
                      go_wp2_with fail
                      refine ⟨⟨i, by omega, rfl, ?_⟩, by simp [intOf]⟩
                      rw [HFS.out, show (V : Int) * 128 = ((128 * V : Nat) : Int) by omega, show (y : Int) % 128 = ((y % 128 : Nat) : Int) by omega, e2]
        · have hx1' : ¬ ((x : Int) < 128) := by omega
          go_wp2_with fail
          go_round
          case rel => exact ⟨rfl, t + 1, by omega, by go_num, fun s hs => by
            by_cases e : s = t
            · subst e; rw [← HX.out]; omega
            · exact HK.out s (by omega)⟩
          case measure => simp [intOf]; omega
      · obtain rfl : n = t := by omega
        have HSV : Hid (shortV l = none) := by
          show _ = _
          unfold shortV
          rw [stop_none_of 10 l (fun j h1 h2 => HK.out j (by rw [← HL.out] at h2; omega))]
        go_wp2_with fail
        go_ret3
        exact ⟨by rw [HSV.out]; rfl, rfl⟩

end Go.Proofs.Qxb6616153aFmt
