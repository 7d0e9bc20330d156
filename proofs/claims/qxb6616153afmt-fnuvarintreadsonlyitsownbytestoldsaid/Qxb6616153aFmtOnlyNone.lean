/-
  FnUvarintReadsOnlyItsOwnBytes: the walk.
-/
import Derived.Test.Qxb6616153aFmtTail
namespace Go.Proofs.Qxb6616153aFmt
open Go.RowKit Go.Extern.Stop Go.Stop Go.Extern

set_option maxRecDepth 1000000 in
set_option maxHeartbeats 16000000 in
theorem only_none (F : Interp) (a : Option Addr) (n c : Nat) (l : List UInt8) (w : World) (hF : F.answers w.tape) (hn : n ≤ maxLen) (hB : BytesAt w (.slice a n c) l) (hs0 : Hid (shortV l = none)) :
    Calls Tryf.prog 4 #[.slice a n c] w fun e w' => e = .returned (.bool true) ∧ Below w.heap.size w w' := by
  have HF : Hid (F.answers w.tape) := hF
  have HB : Hid (BytesAt w (.slice a n c) l) := hB
  have HL : Hid (l.length = n) := hB.form.1.symm
  clear hF hB
  go_enter Tryf.func4, Tryf.ntmps4
  go_wp2_with fail
  refine (total13 a n c w hn).mono ?_
  rintro e w' ⟨B, rfl, rfl⟩
  unfold maxLen at hn
  cases B with
  | false =>
    go_wp2_with fail
    go_ret
    exact ⟨rfl, Below.refl _ _⟩
  | true =>
    by_cases h20 : 4096 < n
    · go_wp2_with fail
      go_ret
      exact ⟨rfl, Below.refl _ _⟩
    clear hn
    go_wp2_with fail
    refine (clone_any a n c l w (by omega) HB.out).mono ?_
    rintro e w1 ⟨a1, rfl, hf1, _, hb1, hB1⟩
    rw [HL.out] at hB1 ⊢
    have HB1 : Hid (BytesAt w1 (.slice a1 n n) l) := hB1
    clear hB1
    go_wp2_with fail
    refine (clone_any a1 n n l w1 (by omega) HB1.out).mono ?_
    rintro e w2 ⟨a2, rfl, hf2, hi2, hb2, hB2⟩
    rw [HL.out] at hB2 ⊢
    have HB2 : Hid (BytesAt w2 (.slice a2 n n) l) := hB2
    clear hB2
    go_wp2_with fail
    refine (new_any a2 n n w2).mono ?_
    rintro e w3 ⟨D, rfl, hD2, hb3, hD3⟩
    have hR3 : Hid (Reads w3 D n .nilIface l) := ⟨a2, n, hD3, HB2.out.later hb3, Nat.le_refl _, fun ad h => by
      rcases hf2 with rfl | ⟨b2, rfl, _, hlt⟩
      · cases h
      · cases h
        have := hD2
        show b2 ≠ D
        omega⟩
    have hB13 : Hid (BytesAt w3 (.slice a1 n n) l) := (HB1.out.later hb2).later hb3
    have hB23 : Hid (BytesAt w3 (.slice a2 n n) l) := HB2.out.later hb3
    have hW3 : Hid (Below w.heap.size w w3) := below_after (below_after hb1 hb2) hb3
    have hDw : w.heap.size ≤ D := Nat.le_trans hb1.size (Nat.le_trans hb2.size hD2)
    have hne1 : Hid (∀ ad, a1 = some ad → ad.block ≠ D) := fun ad h => by
      rcases hf1 with rfl | ⟨b1, rfl, _, hlt⟩
      · cases h
      · cases h
        have := hb2.size
        show b1 ≠ D
        omega
    have hne2 : Hid (∀ ad, a2 = some ad → ad.block ≠ D) := fun ad h => by
      rcases hf2 with rfl | ⟨b2, rfl, _, hlt⟩
      · cases h
      · cases h
        have := hD2
        show b2 ≠ D
        omega
    have hf1' : a1 = none ∨ ∃ b, a1 = some ⟨b, 0, none⟩ := hf1.elim .inl (fun ⟨b, h, _⟩ => .inr ⟨b, h⟩)
    have hf2' : a2 = none ∨ ∃ b, a2 = some ⟨b, 0, none⟩ := hf2.elim .inl (fun ⟨b, h, _⟩ => .inr ⟨b, h⟩)
    have hlt2 : Hid (∀ ad, a2 = some ad → ad.block < D) := fun ad h => by
      rcases hf2 with rfl | ⟨b2, rfl, _, hlt⟩
      · cases h
      · cases h
        have := hD2
        show b2 < D
        omega
    have hD3s : D < w3.heap.size := hD3.lt
    clear hf2 hf1 hb1 hb2 hb3 hD2 HB1 HB2
    go_wp2_with fail
    have hs : shortV l = none := hs0.out
    clear hs0
    have HS : Hid (shortV l = none) := hs
    refine (uv_fail F D a2 n n l w3 (answers_after HF.out hW3.out) (by omega) hs hD3 hB23.out).mono ?_
    intro e w5 hE
    obtain ⟨q, hR5⟩ := reads_fail hR3.out hE
    obtain ⟨w4, q', rfl, hb4, hw5⟩ := hE
    have HA5 : Hid (BytesAt w5 (.slice a1 n n) l) := by rw [← hw5]; exact (hB13.out.later hb4).far ⟨D, 1, none⟩ _ hne1.out
    have HG5 : Hid (BytesAt w5 (.slice a2 n n) l) := by rw [← hw5]; exact (hB23.out.later hb4).far ⟨D, 1, none⟩ _ hne2.out
    have HW5 : Hid (Below w.heap.size w w5) := by rw [← hw5]; exact (below_after hW3.out hb4).setCell (by exact hDw) _
    obtain ⟨a5, c5, hDec5, hB5, _, _⟩ := hR5
    have HD5 : Hid (DecAt w5 D (.slice a5 n c5) (.iface 44 (.pointer (some ⟨q, 0, none⟩)))) := hDec5
    have HB5 : Hid (BytesAt w5 (.slice a5 n c5) l) := hB5
    clear hDec5 hB5 hb4 hw5 hD3 hR3 hB13 hB23 hW3 hs
    go_wp2_with fail
    refine (nil_no D _ _ w5 HD5.out).mono ?_
    rintro e w' ⟨rfl, rfl⟩
    go_wp2_with fail
    refine (data_any D a5 n c5 _ w5 HD5.out).mono ?_
    rintro e w' ⟨rfl, rfl⟩
    go_wp2_with fail
    refine (data_any D a5 n c5 _ w5 HD5.out).mono ?_
    rintro e w' ⟨rfl, rfl⟩
    go_wp2_with fail
    refine (same_any a5 a1 n c5 n l w5 (by omega) HB5.out HA5.out).mono ?_
    rintro e w6 ⟨rfl, q2, rfl⟩
    have HA6 : Hid (BytesAt (w5.drewN q2) (.slice a1 n n) l) := HA5.out.later (below_drewN (Below.refl _ _) _)
    have HG6 : Hid (BytesAt (w5.drewN q2) (.slice a2 n n) l) := HG5.out.later (below_drewN (Below.refl _ _) _)
    have HW6 : Hid (Below w.heap.size w (w5.drewN q2)) := below_drewN HW5.out _
    have hDs : D < (w5.drewN q2).heap.size := HD5.out.lt
    clear HA5 HG5 HW5 HD5 HB5
    go_wp2_with fail
    go_loopw [10] (fun mm wr => ∃ m : Nat, m ≤ n + 1 ∧ mm = .int .i64 m ∧ D < wr.heap.size ∧ Hid (BytesAt wr (.slice a1 n n) l) ∧ Hid (BytesAt wr (.slice a2 n n) l) ∧ Hid (Below w.heap.size w wr)) (fun mm _ => n + 1 - (intOf mm).toNat)
    case atStart => exact ⟨0, Nat.zero_le _, rfl, hDs, HA6, HG6, HW6⟩
    case round =>
      clear HA6 HG6 HW6 hDs
      obtain ⟨m, hmn, rfl, hDs, HA, HG, HW⟩ := hrel
      by_cases hlt : m ≤ n
      · have HSm : Hid (shortV (l.take m) = none) := short_take_none HS.out m
        have HAm : Hid (BytesAt wr (.slice a1 m n) (l.take m)) := head_bytes HA.out m hlt
        have HGm : Hid (BytesAt wr (.slice a2 m n) (l.take m)) := head_bytes HG.out m hlt
        go_wp2_with fail
        refine (new_any a2 m n wr).mono ?_
        rintro e w7 ⟨D', rfl, hD', hb7, hDec7⟩
        have hbl : ∀ ad : Addr, a2 = some ad → ad.block ≠ D' := fun ad h => by
          have h1 := hlt2.out ad h
          omega
        have hR7 : Reads w7 D' m .nilIface (l.take m) := ⟨a2, n, hDec7, HGm.out.later hb7, hlt, hbl⟩
        go_wp2_with fail
        refine (uv_fail F D' a2 m n (l.take m) w7 (answers_after HF.out (below_after HW.out hb7)) (by omega) HSm.out hDec7 (HGm.out.later hb7)).mono ?_
        intro e w8 hE
        obtain ⟨q, hR8⟩ := reads_fail hR7 hE
        obtain ⟨w9, q', rfl, hb9, hw8⟩ := hE
        have hB8 : Below wr.heap.size wr w8 := by rw [← hw8]; exact (below_after hb7 hb9).setCell (by exact hD') _
        obtain ⟨a8, c8, hDec8, hBy8, _, _⟩ := hR8
        have HD8 : Hid (DecAt w8 D' (.slice a8 m c8) (.iface 44 (.pointer (some ⟨q, 0, none⟩)))) := hDec8
        have HB8 : Hid (BytesAt w8 (.slice a8 m c8) (l.take m)) := hBy8
        have HA8 : Hid (BytesAt w8 (.slice a1 m n) (l.take m)) := HAm.out.later hB8
        have HBW : Hid (Below wr.heap.size wr w8) := hB8
        clear hDec8 hBy8 hb9 hw8 hDec7 hR7 hb7 hB8 hbl
        go_wp2_with fail
        refine (nil_no D' _ _ w8 HD8.out).mono ?_
        rintro e w' ⟨rfl, rfl⟩
        go_wp2_with fail
        refine (data_any D' a8 m c8 _ w8 HD8.out).mono ?_
        rintro e w' ⟨rfl, rfl⟩
        go_wp2_with fail
        refine (same_any a8 a1 m c8 n (l.take m) w8 (by omega) HB8.out HA8.out).mono ?_
        rintro e w' ⟨rfl, q3, rfl⟩
        have HBX : Hid (Below wr.heap.size wr (w8.drewN q3)) := below_drewN HBW.out _
        go_wp2_with fail
        go_roundw
        case rel => exact ⟨m + 1, by omega, by go_num, Nat.lt_of_lt_of_le hDs HBX.out.size, HA.out.later HBX.out, HG.out.later HBX.out, below_after HW.out HBX.out⟩
        case measure => simp [intOf]; omega
      · obtain rfl : m = n + 1 := by omega
        go_wp2_with fail
        go_ret
        exact ⟨rfl, HW.out⟩

end Go.Proofs.Qxb6616153aFmt
