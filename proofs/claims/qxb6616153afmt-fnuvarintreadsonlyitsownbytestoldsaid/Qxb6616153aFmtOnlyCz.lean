/-
  FnUvarintReadsOnlyItsOwnBytes: the walk.
-/
import Derived.Test.Qxb6616153aFmtTail
namespace Go.Proofs.Qxb6616153aFmt
open Go.RowKit Go.Extern.Stop Go.Stop Go.Extern

set_option maxRecDepth 1000000 in
set_option maxHeartbeats 16000000 in
theorem only_Cz (F : Interp) (a : Option Addr) (n c : Nat) (l : List UInt8) (w : World) (hF : F.answers w.tape) (hn : n ≤ maxLen) (hB : BytesAt w (.slice a n c) l) (v j : Nat) (hs0 : Hid (shortV l = some (v, j + 1))) (HJ : Hid (9 ≤ j)) (HN : Hid (n ≤ j + 1)) :
    Calls Tryf.prog 4 #[.slice a n c] w fun e w' => e = .returned (.bool true) ∧ Below w.heap.size w w' := by
  have HF : Hid (F.answers w.tape) := hF
  have HB : Hid (BytesAt w (.slice a n c) l) := hB
  have HL : Hid (l.length = n) := hB.form.1.symm
  clear hF hB
  go_enter Tryf.func4, Tryf.ntmps4
  go_wp2_with fail
  refine (total13 a n c w hn).mono ?_
  rintro e w' ⟨B, rfl, rfl⟩
  unfold maxLen at hn
  cases B with
  | false =>
    go_wp2_with fail
    go_ret
    exact ⟨rfl, Below.refl _ _⟩
  | true =>
    by_cases h20 : 4096 < n
    · go_wp2_with fail
      go_ret
      exact ⟨rfl, Below.refl _ _⟩
    clear hn
    go_wp2_with fail
    refine (clone_any a n c l w (by omega) HB.out).mono ?_
    rintro e w1 ⟨a1, rfl, hf1, _, hb1, hB1⟩
    rw [HL.out] at hB1 ⊢
    have HB1 : Hid (BytesAt w1 (.slice a1 n n) l) := hB1
    clear hB1
    go_wp2_with fail
    refine (clone_any a1 n n l w1 (by omega) HB1.out).mono ?_
    rintro e w2 ⟨a2, rfl, hf2, hi2, hb2, hB2⟩
    rw [HL.out] at hB2 ⊢
    have HB2 : Hid (BytesAt w2 (.slice a2 n n) l) := hB2
    clear hB2
    go_wp2_with fail
    refine (new_any a2 n n w2).mono ?_
    rintro e w3 ⟨D, rfl, hD2, hb3, hD3⟩
    have hR3 : Hid (Reads w3 D n .nilIface l) := ⟨a2, n, hD3, HB2.out.later hb3, Nat.le_refl _, fun ad h => by
      rcases hf2 with rfl | ⟨b2, rfl, _, hlt⟩
      · cases h
      · cases h
        have := hD2
        show b2 ≠ D
        omega⟩
    have hB13 : Hid (BytesAt w3 (.slice a1 n n) l) := (HB1.out.later hb2).later hb3
    have hB23 : Hid (BytesAt w3 (.slice a2 n n) l) := HB2.out.later hb3
    have hW3 : Hid (Below w.heap.size w w3) := below_after (below_after hb1 hb2) hb3
    have hDw : w.heap.size ≤ D := Nat.le_trans hb1.size (Nat.le_trans hb2.size hD2)
    have hne1 : Hid (∀ ad, a1 = some ad → ad.block ≠ D) := fun ad h => by
      rcases hf1 with rfl | ⟨b1, rfl, _, hlt⟩
      · cases h
      · cases h
        have := hb2.size
        show b1 ≠ D
        omega
    have hne2 : Hid (∀ ad, a2 = some ad → ad.block ≠ D) := fun ad h => by
      rcases hf2 with rfl | ⟨b2, rfl, _, hlt⟩
      · cases h
      · cases h
        have := hD2
        show b2 ≠ D
        omega
    have hf1' : a1 = none ∨ ∃ b, a1 = some ⟨b, 0, none⟩ := hf1.elim .inl (fun ⟨b, h, _⟩ => .inr ⟨b, h⟩)
    have hf2' : a2 = none ∨ ∃ b, a2 = some ⟨b, 0, none⟩ := hf2.elim .inl (fun ⟨b, h, _⟩ => .inr ⟨b, h⟩)
    have hlt2 : Hid (∀ ad, a2 = some ad → ad.block < D) := fun ad h => by
      rcases hf2 with rfl | ⟨b2, rfl, _, hlt⟩
      · cases h
      · cases h
        have := hD2
        show b2 < D
        omega
    have hD3s : D < w3.heap.size := hD3.lt
    clear hf2 hf1 hb1 hb2 hb3 hD2 HB1 HB2
    go_wp2_with fail
    have hs := hs0.out
    clear hs0
    obtain ⟨hv, hk1, hk10, hkl, hlast, hmid, hzz, h9⟩ := short_bytes hs
    have hkn : j + 1 ≤ n := by rw [HL.out] at hkl; exact hkl
    have HS : Hid (shortV l = some (v, j + 1)) := hs
    have HLAST : Hid ((l.getD j 0).toNat < 128) := hlast
    have HMID : Hid (∀ t, t + 1 < j + 1 → 128 ≤ (l.getD t 0).toNat) := hmid
    have HZZ : Hid (1 < j + 1 → (l.getD j 0).toNat ≠ 0) := hzz
    clear hv hk1 hkl hlast hmid hzz h9
    rcases hf2' with rfl | ⟨b2, rfl⟩
    · have := (hB23.out.form.2.1 rfl).2
      omega
    rcases hf1' with rfl | ⟨b1, rfl⟩
    · cases hi2
    clear hi2
    refine (uv_ok D b2 0 n n l v j w3 (by omega) hs (Nat.le_refl _) hD3 hB23.out).mono ?_
    intro e w5 hE
    have hR5 := reads_ok hD3 hB23.out (Nat.le_refl _) (hne2.out ⟨b2, 0, none⟩ rfl) hkn hE
    obtain ⟨o', rfl, hw5, _⟩ := hE
    have HA5 : Hid (BytesAt w5 (.slice (some ⟨b1, 0, none⟩) n n) l) := by rw [← hw5]; exact hB13.out.far ⟨D, 0, none⟩ _ hne1.out
    have HG5 : Hid (BytesAt w5 (.slice (some ⟨b2, 0, none⟩) n n) l) := by rw [← hw5]; exact hB23.out.far ⟨D, 0, none⟩ _ hne2.out
    have HW5 : Hid (Below w.heap.size w w5) := by rw [← hw5]; exact hW3.out.setCell (by exact hDw) _
    obtain ⟨r, hr1, hr2⟩ : ∃ r, j + 1 + r ≤ n ∧ n ≤ j + 1 + r := ⟨n - (j + 1), by omega, by omega⟩
    rw [show n - (j + 1) = r by omega] at hR5
    obtain ⟨a5, c5, hDec5, hB5, _, _⟩ := hR5
    have HD5 : Hid (DecAt w5 D (.slice a5 r c5) .nilIface) := hDec5
    have HB5 : Hid (BytesAt w5 (.slice a5 r c5) (l.drop (j + 1))) := hB5
    clear hDec5 hB5 hw5 hD3 hR3 hB13 hB23 hW3 hs hD3s
    go_wp2_with fail
    refine (nil_yes D _ w5 HD5.out).mono ?_
    rintro e w' ⟨rfl, rfl⟩
    go_wp2_with fail
    refine (data_any D a5 r c5 _ w5 HD5.out).mono ?_
    rintro e w' ⟨rfl, rfl⟩
    have heq : (n : Int) - (r : Int) = (j : Int) + 1 := by omega
    go_wp2_with fail
    clear heq
    go_loop [8] (fun i => ∃ t : Nat, t ≤ j ∧ i = .int .i64 t) (fun i => j - (intOf i).toNat)
    case atStart => exact ⟨0, Nat.zero_le _, rfl⟩
    case round =>
      obtain ⟨t, ht, rfl⟩ := hrel
      by_cases hlt : t < j
      · obtain ⟨bb, oo, e, gt⟩ := HA5.out.form.2.2 t (by omega)
        cases e
        rw [Nat.zero_add] at gt
        obtain ⟨x, hx⟩ : ∃ x, x = (l.getD t 0).toNat := ⟨_, rfl⟩
        have hx1 : ¬ ((x : Int) < 128) := by have := HMID.out t (by omega); omega
        rw [← hx] at gt
        clear hx
        go_wp2_with fail
        go_round
        case rel => exact ⟨t + 1, by omega, by go_num⟩
        case measure => simp [intOf]; omega
      · obtain rfl : j = t := by omega
        obtain ⟨bb, oo, e, gj⟩ := HA5.out.form.2.2 j (by omega)
        cases e
        rw [Nat.zero_add] at gj
        obtain ⟨y, hy⟩ : ∃ y, y = (l.getD j 0).toNat := ⟨_, rfl⟩
        have hy1 : (y : Int) < 128 := by have := HLAST.out; omega
        have hy0 : 0 < j → y ≠ 0 := fun h => by rw [hy]; exact HZZ.out (by omega)
        rw [← hy] at gj
        clear hy hlt ht
        have hj9 := HJ.out
        have hyz : ((y : Int) == 0) = false := by have := hy0 (by omega); simp; omega
        clear hy0 HJ
        go_wp2_with fail
        clear gj
        go_loop [9] (fun i => ∃ t : Nat, t ≤ j + 1 ∧ i = .int .i64 t) (fun i => j + 1 - (intOf i).toNat)
        case atStart => exact ⟨0, Nat.zero_le _, rfl⟩
        case round =>
          obtain ⟨t, ht, rfl⟩ := hrel
          by_cases hlt : t < j + 1
          · obtain ⟨bb, oo, e, gt⟩ := HA5.out.form.2.2 t (by omega)
            cases e
            rw [Nat.zero_add] at gt
            obtain ⟨x, hx⟩ : ∃ x, x = (l.getD t 0).toNat := ⟨_, rfl⟩
            have hgr := short_group HS.out t hlt
            rw [← hx] at gt hgr
            have hx256 : x < 256 := by rw [hx]; exact (l.getD t 0).toNat_lt
            clear hx
            have hcmp := group_test v t x hgr hx256
            go_wp2_with fail
            go_round
            case rel => exact ⟨t + 1, by omega, by go_num⟩
            case measure => simp [intOf]; omega
          · obtain rfl : t = j + 1 := by omega
            clear hlt ht
            have htop := top_test v (j + 1) (short_top HS.out)
            have hnj := HN.out
            clear HN
            have hT5 := tail_bytes (o' := 0) (c' := n - (j + 1)) HA5.out (j + 1) hkn (fun h => absurd h (by omega))
            rw [show n - (j + 1) = 0 by omega] at hT5
            have HT5 : Hid (BytesAt w5 (.slice (some ⟨b1, 0, none⟩) 0 0) (l.drop (j + 1))) := hT5
            have HB5' : Hid (BytesAt w5 (.slice a5 0 c5) (l.drop (j + 1))) := by have h := HB5.out; rw [show r = 0 by omega] at h; exact h
            clear hT5
            go_wp2_with fail
            go_quiet (first
              | (go_at_call 10; first | exact quiet_same0 (data_any D a5 r c5 _ _ (HD5.out.later (below_drewN (Below.refl _ _) _))) | exact quiet_same (data_any D a5 r c5 _ _ (HD5.out.later (below_drewN (Below.refl _ _) _))))
              | (go_at_call 12; rw [show r = 0 by omega]; first | exact quiet_plus0 (same_any a5 (some ⟨b1, 0, none⟩) 0 c5 0 (l.drop (j + 1)) _ (Nat.zero_le _) (HB5'.out.later (below_drewN (Below.refl _ _) _)) (HT5.out.later (below_drewN (Below.refl _ _) _))) | exact quiet_plus (same_any a5 (some ⟨b1, 0, none⟩) 0 c5 0 (l.drop (j + 1)) _ (Nat.zero_le _) (HB5'.out.later (below_drewN (Below.refl _ _) _)) (HT5.out.later (below_drewN (Below.refl _ _) _)))))
            go_wp2_with fail
            have hDs0 := HD5.out.lt
            go_loopw [10] (fun mm wr => ∃ m : Nat, m ≤ n + 1 ∧ mm = .int .i64 m ∧ D < wr.heap.size ∧ Hid (BytesAt wr (.slice (some ⟨b1, 0, none⟩) n n) l) ∧ Hid (BytesAt wr (.slice (some ⟨b2, 0, none⟩) n n) l) ∧ Hid (Below w.heap.size w wr)) (fun mm _ => n + 1 - (intOf mm).toNat)
            case atStart => exact ⟨0, Nat.zero_le _, rfl, hDs0, HA5.out.later (below_drewN (Below.refl _ _) _), HG5.out.later (below_drewN (Below.refl _ _) _), below_drewN HW5.out _⟩
            case round =>
              clear HA5 HG5 HW5 hDs0 HD5 HB5 HT5 HB5'
              obtain ⟨m, hmn, rfl, hDs, HA, HG, HW⟩ := hrel
              by_cases hlt : m ≤ n
              · have HAm : Hid (BytesAt wr (.slice (some ⟨b1, 0, none⟩) m n) (l.take m)) := head_bytes HA.out m hlt
                have HGm : Hid (BytesAt wr (.slice (some ⟨b2, 0, none⟩) m n) (l.take m)) := head_bytes HG.out m hlt
                by_cases hmk : m < j + 1
                · have HSm : Hid (shortV (l.take m) = none) := by
                    show _ = _
                    rw [short_take HS.out, if_neg (by omega)]
                  go_wp2_with fail
                  refine (new_any (some ⟨b2, 0, none⟩) m n wr).mono ?_
                  rintro e w7 ⟨D', rfl, hD', hb7, hDec7⟩
                  have hbl : ∀ ad : Addr, (some ⟨b2, 0, none⟩) = some ad → ad.block ≠ D' := fun ad h => by
                    have h1 := hlt2.out ad h
                    omega
                  have hR7 : Reads w7 D' m .nilIface (l.take m) := ⟨(some ⟨b2, 0, none⟩), n, hDec7, HGm.out.later hb7, hlt, hbl⟩
                  go_wp2_with fail
                  refine (uv_fail F D' (some ⟨b2, 0, none⟩) m n (l.take m) w7 (answers_after HF.out (below_after HW.out hb7)) (by omega) HSm.out hDec7 (HGm.out.later hb7)).mono ?_
                  intro e w8 hE
                  obtain ⟨q, hR8⟩ := reads_fail hR7 hE
                  obtain ⟨w9, q', rfl, hb9, hw8⟩ := hE
                  have hB8 : Below wr.heap.size wr w8 := by rw [← hw8]; exact (below_after hb7 hb9).setCell (by exact hD') _
                  obtain ⟨a8, c8, hDec8, hBy8, _, _⟩ := hR8
                  have HD8 : Hid (DecAt w8 D' (.slice a8 m c8) (.iface 44 (.pointer (some ⟨q, 0, none⟩)))) := hDec8
                  have HB8 : Hid (BytesAt w8 (.slice a8 m c8) (l.take m)) := hBy8
                  have HA8 : Hid (BytesAt w8 (.slice (some ⟨b1, 0, none⟩) m n) (l.take m)) := HAm.out.later hB8
                  have HBW : Hid (Below wr.heap.size wr w8) := hB8
                  clear hDec8 hBy8 hb9 hw8 hDec7 hR7 hb7 hB8 hbl
                  go_wp2_with fail
                  refine (nil_no D' _ _ w8 HD8.out).mono ?_
                  rintro e w' ⟨rfl, rfl⟩
                  go_wp2_with fail
                  refine (data_any D' a8 m c8 _ w8 HD8.out).mono ?_
                  rintro e w' ⟨rfl, rfl⟩
                  go_wp2_with fail
                  refine (same_any a8 (some ⟨b1, 0, none⟩) m c8 n (l.take m) w8 (by omega) HB8.out HA8.out).mono ?_
                  rintro e w' ⟨rfl, q3, rfl⟩
                  have HBX : Hid (Below wr.heap.size wr (w8.drewN q3)) := below_drewN HBW.out _
                  go_wp2_with fail
                  go_roundw
                  case rel => exact ⟨m + 1, by omega, by go_num, Nat.lt_of_lt_of_le hDs HBX.out.size, HA.out.later HBX.out, HG.out.later HBX.out, below_after HW.out HBX.out⟩
                  case measure => simp [intOf]; omega
                · have HSm : Hid (shortV (l.take m) = some (v, j + 1)) := by
                    show _ = _
                    rw [short_take HS.out, if_pos (by omega)]
                  go_wp2_with fail
                  refine (new_any (some ⟨b2, 0, none⟩) m n wr).mono ?_
                  rintro e w7 ⟨D', rfl, hD', hb7, hDec7⟩
                  have hbl : b2 ≠ D' := by
                    have h1 : b2 < D := hlt2.out ⟨b2, 0, none⟩ rfl
                    omega
                  go_wp2_with fail
                  refine (uv_ok D' b2 0 m n (l.take m) v j w7 (by omega) HSm.out hlt hDec7 (HGm.out.later hb7)).mono ?_
                  intro e w8 hE
                  have hR8 := reads_ok hDec7 (HGm.out.later hb7) hlt hbl (by omega : j + 1 ≤ m) hE
                  obtain ⟨o8, rfl, hw8, _⟩ := hE
                  have hB8 : Below wr.heap.size wr w8 := by rw [← hw8]; exact hb7.setCell (by exact hD') _
                  rw [show m - (j + 1) = 0 by omega] at hR8
                  obtain ⟨a8, c8, hDec8, hBy8, _, _⟩ := hR8
                  have HD8 : Hid (DecAt w8 D' (.slice a8 0 c8) .nilIface) := hDec8
                  have HB8 : Hid (BytesAt w8 (.slice a8 0 c8) ((l.take m).drop (j + 1))) := hBy8
                  have hA8 := tail_bytes (o' := 0) (c' := 0) (HAm.out.later hB8) (j + 1) (by omega) (fun h => absurd h (by omega))
                  rw [show m - (j + 1) = 0 by omega] at hA8
                  have HA8 : Hid (BytesAt w8 (.slice (some ⟨b1, 0, none⟩) 0 0) ((l.take m).drop (j + 1))) := hA8
                  clear hA8
                  have HBW : Hid (Below wr.heap.size wr w8) := hB8
                  clear hDec8 hBy8 hw8 hDec7 hb7 hB8 hbl
                  go_wp2_with fail
                  refine (nil_yes D' _ w8 HD8.out).mono ?_
                  rintro e w' ⟨rfl, rfl⟩
                  go_wp2_with fail
                  refine (data_any D' a8 0 c8 _ w8 HD8.out).mono ?_
                  rintro e w' ⟨rfl, rfl⟩
                  go_wp2_with fail
                  rw [show m - (j + 1) = 0 by omega]
                  refine (same_any a8 (some ⟨b1, 0, none⟩) 0 c8 0 ((l.take m).drop (j + 1)) w8 (Nat.zero_le _) HB8.out HA8.out).mono ?_
                  rintro e w' ⟨rfl, q3, rfl⟩
                  have HBX : Hid (Below wr.heap.size wr (w8.drewN q3)) := below_drewN HBW.out _
                  go_wp2_with fail
                  go_roundw
                  case rel => exact ⟨m + 1, by omega, by go_num, Nat.lt_of_lt_of_le hDs HBX.out.size, HA.out.later HBX.out, HG.out.later HBX.out, below_after HW.out HBX.out⟩
                  case measure => simp [intOf]; omega
              · obtain rfl : m = n + 1 := by omega
                go_wp2_with fail
                go_ret
                exact ⟨rfl, HW.out⟩

end Go.Proofs.Qxb6616153aFmt
