/-
  FnUvarintReadsShortestVarintsInTurn: the walk.
-/
import Derived.Test.Qxb6616153aFmtTurn
namespace Go.Proofs.Qxb6616153aFmt
open Go.RowKit Go.Extern.Stop Go.Stop Go.Extern

theorem answers_later {F : Interp} {w w' : World} (h : F.answers w.tape) (hb : Below w.heap.size w w') : F.answers w'.tape := by rw [hb.tape]; exact h

set_option maxRecDepth 1000000 in
set_option maxHeartbeats 8000000 in
theorem inturn_any (F : Interp) (a : Option Addr) (n c : Nat) (l : List UInt8) (w : World) (hF : F.answers w.tape) (hn : n ≤ maxLen) (hB : BytesAt w (.slice a n c) l) :
    Calls Tryf.prog 3 #[.slice a n c] w fun e w' => e = .returned (.bool true) ∧ Below w.heap.size w w' := by
  have HF : Hid (F.answers w.tape) := hF
  have HB : Hid (BytesAt w (.slice a n c) l) := hB
  have HL : Hid (l.length = n) := hB.form.1.symm
  clear hF hB
  go_enter Tryf.func3, Tryf.ntmps3
  go_wp2_with fail
  refine (total5 a n c w hn).mono ?_
  rintro e w' ⟨B, rfl, rfl⟩
  unfold maxLen at hn
  cases B with
  | false =>
    go_wp2_with fail
    go_ret
    exact ⟨rfl, Below.refl _ _⟩
  | true =>
    by_cases h20 : 1048576 < n
    · go_wp2_with fail
      go_ret
      exact ⟨rfl, Below.refl _ _⟩
    clear hn
    go_wp2_with fail
    refine (clone_any a n c l w (by omega) HB.out).mono ?_
    rintro e w1 ⟨a1, rfl, hf1, _, hb1, hB1⟩
    rw [HL.out] at hB1 ⊢
    have HB1 : Hid (BytesAt w1 (.slice a1 n n) l) := hB1
    clear hB1
    go_wp2_with fail
    refine (clone_any a1 n n l w1 (by omega) HB1.out).mono ?_
    rintro e w2 ⟨a2, rfl, hf2, _, hb2, hB2⟩
    rw [HL.out] at hB2 ⊢
    have HB2 : Hid (BytesAt w2 (.slice a2 n n) l) := hB2
    clear hB2
    go_wp2_with fail
    refine (new_any a2 n n w2).mono ?_
    rintro e w3 ⟨D, rfl, hD2, hb3, hD3⟩
    have hR3 : Hid (Reads w3 D (n - 0) .nilIface (l.drop 0)) := ⟨a2, n, hD3, HB2.out.later hb3, Nat.le_refl _, fun ad h => by
      rcases hf2 with rfl | ⟨b2, rfl, _, hlt⟩
      · cases h
      · cases h
        have := hD2
        show b2 ≠ D
        omega⟩
    have hB13 : Hid (BytesAt w3 (.slice a1 n n) l) := (HB1.out.later hb2).later hb3
    have hW3 : Hid (Below w.heap.size w w3) := below_after (below_after hb1 hb2) hb3
    have hDw : w.heap.size ≤ D := Nat.le_trans hb1.size (Nat.le_trans hb2.size hD2)
    have hne1 : Hid (∀ ad, a1 = some ad → ad.block ≠ D) := fun ad h => by
      rcases hf1 with rfl | ⟨b1, rfl, _, hlt⟩
      · cases h
      · cases h
        have := hb2.size
        show b1 ≠ D
        omega
    have hf1' : a1 = none ∨ ∃ b, a1 = some ⟨b, 0, none⟩ := hf1.elim .inl (fun ⟨b, h, _⟩ => .inr ⟨b, h⟩)
    clear hD3 hf2 hf1 hb1 hb2 hb3 hD2 HB1 HB2
    go_wp2_with fail
    go_loopw [5, 6] (fun p s wr => ∃ pos step : Nat, step ≤ pos ∧ pos ≤ n ∧ p = .int .i64 pos ∧ s = .int .i64 step ∧ Hid (BytesAt wr (.slice a1 n n) l) ∧ Hid (Reads wr D (n - pos) .nilIface (l.drop pos)) ∧ Hid (Below w.heap.size w wr)) (fun _ s _ => n + 1 - (intOf s).toNat)
    case atStart => exact ⟨0, 0, Nat.le_refl _, Nat.zero_le _, rfl, rfl, hB13, hR3, hW3⟩
    case round =>
      clear hR3 hB13 hW3
      obtain ⟨pos, step, hsp, hpn, rfl, rfl, HA, HR, HW⟩ := hrel
      have hsn : step ≤ n := by omega
      rcases hf1' with rfl | ⟨b1, rfl⟩
      · obtain rfl : n = 0 := by
          have := HA.out.form
          exact (this.2.1 rfl).2
        obtain rfl : pos = 0 := by omega
        have hne3 : ∀ ad, (none : Option Addr) = some ad → ad.block ≠ D := fun ad h => by cases h
        have HT : Hid (BytesAt wr (.slice none 0 0) (l.drop 0)) := HA.out
        have hs : shortV (l.drop 0) = none := by
          obtain rfl : l = [] := List.eq_nil_of_length_eq_zero HL.out
          rfl
        have HS : Hid (shortV (l.drop 0) = none) := hs
        clear hs
        go_wp2_with fail
        refine (model_any none 0 0 (l.drop 0) wr (by omega) HT.out).mono ?_
        rw [HS.out]
        rintro e w' ⟨rfl, rfl⟩
        dsimp only [modelV]
        go_wp2_with fail
        obtain ⟨a', c', hDec', hBd, hmc, hbl⟩ := HR.out
        refine (uv_fail F D a' 0 c' (l.drop 0) wr (answers_later HF.out HW.out) (by omega) HS.out hDec' hBd).mono ?_
        intro e w5 hE
        obtain ⟨q, hR5⟩ := reads_fail HR.out hE
        obtain ⟨w4, q', rfl, hb4, hw5⟩ := hE
        have HT5 : Hid (BytesAt w5 (.slice none 0 0) (l.drop 0)) := by rw [← hw5]; exact (HT.out.later hb4).far ⟨D, 1, none⟩ _ hne3
        have HW5 : Hid (Below w.heap.size w w5) := by rw [← hw5]; exact (below_after HW.out hb4).setCell (by exact hDw) _
        obtain ⟨a5, c5, hDec5, hB5, _, _⟩ := hR5
        have HD5 : Hid (DecAt w5 D (.slice a5 0 c5) (.iface 44 (.pointer (some ⟨q, 0, none⟩)))) := hDec5
        have HB5 : Hid (BytesAt w5 (.slice a5 0 c5) (l.drop 0)) := hB5
        clear hDec5 hB5 hb4 hw5 hDec' hBd hmc hbl HR HA
        go_wp2_with fail
        refine (data_any D a5 0 c5 _ w5 HD5.out).mono ?_
        rintro e w' ⟨rfl, rfl⟩
        go_wp2_with fail
        refine (nil_no D _ _ w5 HD5.out).mono ?_
        rintro e w' ⟨rfl, rfl⟩
        go_wp2_with fail
        refine (same_any a5 none 0 c5 0 (l.drop 0) w5 (by omega) HB5.out HT5.out).mono ?_
        rintro e w6 ⟨rfl, q2, rfl⟩
        go_wp2_with fail
        refine (uv_failed D _ _ (w5.drewN q2) (HD5.out.later (below_drewN (Below.refl _ _) _))).mono ?_
        rintro e w' ⟨rfl, rfl⟩
        go_wp2_with fail
        go_quiet (first
          | (go_at_call 11; exact quiet_same (nil_no D _ _ _ (HD5.out.later (below_drewN (Below.refl _ _) _))))
          | (go_at_call 10; exact quiet_same (data_any D a5 0 c5 _ _ (HD5.out.later (below_drewN (Below.refl _ _) _))))
          | (go_at_call 12; exact quiet_plus (same_any a5 none 0 c5 0 (l.drop 0) _ (by omega) (HB5.out.later (below_drewN (Below.refl _ _) _)) (HT5.out.later (below_drewN (Below.refl _ _) _)))))
        go_wp2_with fail
        go_ret
        exact ⟨rfl, below_drewN (below_drewN HW5.out _) _⟩
      · by_cases hpe : pos = n
        · subst hpe
          have hne3 : ∀ ad, (some ⟨b1, 0, none⟩ : Option Addr) = some ad → ad.block ≠ D := hne1.out
          have hT := tail_bytes (o' := 0) (c' := 0) HA.out pos (Nat.le_refl _) (fun h => absurd h (by omega))
          have hR := HR.out
          rw [Nat.sub_self] at hT hR
          have HT : Hid (BytesAt wr (.slice (some ⟨b1, 0, none⟩) 0 0) (l.drop pos)) := hT
          have HR' : Hid (Reads wr D 0 .nilIface (l.drop pos)) := hR
          clear hT hR HR
          have HR := HR'
          have hs : shortV (l.drop pos) = none := by
            rw [List.drop_eq_nil_of_le (by rw [HL.out]; exact Nat.le_refl _)]
            rfl
          have HS : Hid (shortV (l.drop pos) = none) := hs
          clear hs
          go_wp2_with fail
          refine (model_any (some ⟨b1, 0, none⟩) 0 0 (l.drop pos) wr (by omega) HT.out).mono ?_
          rw [HS.out]
          rintro e w' ⟨rfl, rfl⟩
          dsimp only [modelV]
          go_wp2_with fail
          obtain ⟨a', c', hDec', hBd, hmc, hbl⟩ := HR.out
          refine (uv_fail F D a' 0 c' (l.drop pos) wr (answers_later HF.out HW.out) (by omega) HS.out hDec' hBd).mono ?_
          intro e w5 hE
          obtain ⟨q, hR5⟩ := reads_fail HR.out hE
          obtain ⟨w4, q', rfl, hb4, hw5⟩ := hE
          have HT5 : Hid (BytesAt w5 (.slice (some ⟨b1, 0, none⟩) 0 0) (l.drop pos)) := by rw [← hw5]; exact (HT.out.later hb4).far ⟨D, 1, none⟩ _ hne3
          have HW5 : Hid (Below w.heap.size w w5) := by rw [← hw5]; exact (below_after HW.out hb4).setCell (by exact hDw) _
          obtain ⟨a5, c5, hDec5, hB5, _, _⟩ := hR5
          have HD5 : Hid (DecAt w5 D (.slice a5 0 c5) (.iface 44 (.pointer (some ⟨q, 0, none⟩)))) := hDec5
          have HB5 : Hid (BytesAt w5 (.slice a5 0 c5) (l.drop pos)) := hB5
          clear hDec5 hB5 hb4 hw5 hDec' hBd hmc hbl HR HA
          go_wp2_with fail
          refine (data_any D a5 0 c5 _ w5 HD5.out).mono ?_
          rintro e w' ⟨rfl, rfl⟩
          go_wp2_with fail
          refine (nil_no D _ _ w5 HD5.out).mono ?_
          rintro e w' ⟨rfl, rfl⟩
          go_wp2_with fail
          refine (same_any a5 (some ⟨b1, 0, none⟩) 0 c5 0 (l.drop pos) w5 (by omega) HB5.out HT5.out).mono ?_
          rintro e w6 ⟨rfl, q2, rfl⟩
          go_wp2_with fail
          refine (uv_failed D _ _ (w5.drewN q2) (HD5.out.later (below_drewN (Below.refl _ _) _))).mono ?_
          rintro e w' ⟨rfl, rfl⟩
          go_wp2_with fail
          go_quiet (first
            | (go_at_call 11; exact quiet_same (nil_no D _ _ _ (HD5.out.later (below_drewN (Below.refl _ _) _))))
            | (go_at_call 10; exact quiet_same (data_any D a5 0 c5 _ _ (HD5.out.later (below_drewN (Below.refl _ _) _))))
            | (go_at_call 12; exact quiet_plus (same_any a5 (some ⟨b1, 0, none⟩) 0 c5 0 (l.drop pos) _ (by omega) (HB5.out.later (below_drewN (Below.refl _ _) _)) (HT5.out.later (below_drewN (Below.refl _ _) _)))))
          go_wp2_with fail
          go_ret
          exact ⟨rfl, below_drewN (below_drewN HW5.out _) _⟩
        · have hlt : pos < n := by omega
          have hne3 : ∀ ad, (some ⟨b1, pos, none⟩ : Option Addr) = some ad → ad.block ≠ D := fun ad h => by cases h; exact hne1.out ⟨b1, 0, none⟩ rfl
          have hT := tail_bytes (o' := pos) (c' := n - pos) HA.out pos hpn (fun _ => (Nat.zero_add _).symm)
          have HT : Hid (BytesAt wr (.slice (some ⟨b1, pos, none⟩) (n - pos) (n - pos)) (l.drop pos)) := hT
          clear hT
          go_wp2_with fail
          refine (model_any (some ⟨b1, pos, none⟩) (n - pos) (n - pos) (l.drop pos) wr (by omega) HT.out).mono ?_
          cases hs : shortV (l.drop pos) with
          | none =>
            have HS : Hid (shortV (l.drop pos) = none) := hs
            clear hs
            rintro e w' ⟨rfl, rfl⟩
            dsimp only [modelV]
            go_wp2_with fail
            obtain ⟨a', c', hDec', hBd, hmc, hbl⟩ := HR.out
            refine (uv_fail F D a' (n - pos) c' (l.drop pos) wr (answers_later HF.out HW.out) (by omega) HS.out hDec' hBd).mono ?_
            intro e w5 hE
            obtain ⟨q, hR5⟩ := reads_fail HR.out hE
            obtain ⟨w4, q', rfl, hb4, hw5⟩ := hE
            have HT5 : Hid (BytesAt w5 (.slice (some ⟨b1, pos, none⟩) (n - pos) (n - pos)) (l.drop pos)) := by rw [← hw5]; exact (HT.out.later hb4).far ⟨D, 1, none⟩ _ hne3
            have HW5 : Hid (Below w.heap.size w w5) := by rw [← hw5]; exact (below_after HW.out hb4).setCell (by exact hDw) _
            obtain ⟨a5, c5, hDec5, hB5, _, _⟩ := hR5
            have HD5 : Hid (DecAt w5 D (.slice a5 (n - pos) c5) (.iface 44 (.pointer (some ⟨q, 0, none⟩)))) := hDec5
            have HB5 : Hid (BytesAt w5 (.slice a5 (n - pos) c5) (l.drop pos)) := hB5
            clear hDec5 hB5 hb4 hw5 hDec' hBd hmc hbl HR HA
            go_wp2_with fail
            refine (data_any D a5 (n - pos) c5 _ w5 HD5.out).mono ?_
            rintro e w' ⟨rfl, rfl⟩
            go_wp2_with fail
            refine (nil_no D _ _ w5 HD5.out).mono ?_
            rintro e w' ⟨rfl, rfl⟩
            go_wp2_with fail
            refine (same_any a5 (some ⟨b1, pos, none⟩) (n - pos) c5 (n - pos) (l.drop pos) w5 (by omega) HB5.out HT5.out).mono ?_
            rintro e w6 ⟨rfl, q2, rfl⟩
            go_wp2_with fail
            refine (uv_failed D _ _ (w5.drewN q2) (HD5.out.later (below_drewN (Below.refl _ _) _))).mono ?_
            rintro e w' ⟨rfl, rfl⟩
            go_wp2_with fail
            go_quiet (first
              | (go_at_call 11; exact quiet_same (nil_no D _ _ _ (HD5.out.later (below_drewN (Below.refl _ _) _))))
              | (go_at_call 10; exact quiet_same (data_any D a5 (n - pos) c5 _ _ (HD5.out.later (below_drewN (Below.refl _ _) _))))
              | (go_at_call 12; exact quiet_plus (same_any a5 (some ⟨b1, pos, none⟩) (n - pos) c5 (n - pos) (l.drop pos) _ (by omega) (HB5.out.later (below_drewN (Below.refl _ _) _)) (HT5.out.later (below_drewN (Below.refl _ _) _)))))
            go_wp2_with fail
            go_ret
            exact ⟨rfl, below_drewN (below_drewN HW5.out _) _⟩
          | some R =>
            obtain ⟨v, k⟩ := R
            rintro e w' ⟨rfl, rfl⟩
            dsimp only [modelV]
            obtain ⟨_, hk1, _, hkl, _⟩ := dec_some hs
            obtain ⟨j, rfl⟩ : ∃ j, k = j + 1 := ⟨k - 1, by omega⟩
            have hkm : j + 1 ≤ n - pos := by rw [List.length_drop, HL.out] at hkl; exact hkl
            obtain ⟨a', c', hDec', hBd, hmc, hbl⟩ := HR.out
            obtain ⟨b, o, rfl, _⟩ := hBd.form.2.2 0 (by omega)
            have hbD : b ≠ D := hbl ⟨b, o, none⟩ rfl
            go_wp2_with fail
            refine (uv_ok D b o (n - pos) c' (l.drop pos) v j wr (by omega) hs hmc hDec' hBd).mono ?_
            intro e w5 hE
            have hR5 := reads_ok hDec' hBd hmc hbD hkm hE
            obtain ⟨o', rfl, hw5, _⟩ := hE
            have HA5 : Hid (BytesAt w5 (.slice (some ⟨b1, 0, none⟩) n n) l) := by rw [← hw5]; exact HA.out.far ⟨D, 0, none⟩ _ hne1.out
            have HW5 : Hid (Below w.heap.size w w5) := by rw [← hw5]; exact HW.out.setCell (by exact hDw) _
            obtain ⟨m, hm1, hm2⟩ : ∃ m, pos + (j + 1) + m ≤ n ∧ n ≤ pos + (j + 1) + m := ⟨n - (pos + (j + 1)), by omega, by omega⟩
            rw [show n - pos - (j + 1) = m by omega, List.drop_drop] at hR5
            have HR5 : Hid (Reads w5 D m .nilIface (l.drop (pos + (j + 1)))) := hR5
            obtain ⟨a5, c5, hDec5, _, _, _⟩ := hR5
            have HD5 : Hid (DecAt w5 D (.slice a5 m c5) .nilIface) := hDec5
            clear hDec5 hw5 hDec' hBd hmc hbl HR HA HT hs hkl hne3 HW
            go_wp2_with fail
            refine (data_any D a5 m c5 _ w5 HD5.out).mono ?_
            rintro e w' ⟨rfl, rfl⟩
            go_wp2_with fail
            refine (nil_yes D _ w5 HD5.out).mono ?_
            rintro e w' ⟨rfl, rfl⟩
            go_wp2_with fail
            go_roundw
            case rel => exact ⟨pos + (j + 1), step + 1, by omega, by omega, by go_num, by go_num, HA5, by rw [show n - (pos + (j + 1)) = m by omega]; exact HR5, HW5⟩
            case measure => simp [intOf]; omega

end Go.Proofs.Qxb6616153aFmt
